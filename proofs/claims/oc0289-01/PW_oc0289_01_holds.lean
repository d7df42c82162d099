import PyProof.Rows.All
import Wide.All
import OpenK.AllK
import Wide.FinOn
import Lean
import PySem.Challenge.RW_oc0289_01
set_option Elab.async false
set_option genInjectivity false
set_option genSizeOf false
set_option genSizeOfSpec false

section
open PySem PySem.W PyProof.Rows
set_option maxRecDepth 100000
set_option maxHeartbeats 8000000
namespace Mine
noncomputable abbrev S (s : String) : PySem.Str := PySem.Str.ofString s
noncomputable abbrev pw : Program := PySem.Challenge.pw_oc0289_01
noncomputable def ent (P : Params) (k : String) (t : Nat) (v : Value) : DictEntry := ⟨PyData.keyHash P (S k), .str (S k) t, v⟩
noncomputable def subSt : Stmt → List Stmt
  | .ClassDef _ _ _ b _ _ _ _ _ _ _ => b
  | .FunctionDef _ _ b _ _ _ _ _ _ _ => b
  | _ => []
noncomputable def stOf : List Nat → List Stmt → Option Stmt
  | [], _ => none
  | [i], b => b[i]?
  | i :: r, b => match b[i]? with
    | some s => stOf r (subSt s)
    | none => none
noncomputable def fArgs (l : List Nat) : Arguments := match stOf l pw.main.body with
  | some (.FunctionDef _ a _ _ _ _ _ _ _ _) => a
  | _ => default
noncomputable def fBody (l : List Nat) : List Stmt := match stOf l pw.main.body with
  | some (.FunctionDef _ _ b _ _ _ _ _ _ _) => b
  | _ => []
noncomputable def fScope (l : List Nat) : Scope := match stOf l pw.main.body with
  | some (.FunctionDef _ _ _ _ _ _ s _ _ _) => s
  | _ => default
inductive TK where
  | leaf
  | node (k : Nat) (o : Obj) (l r : TK)
noncomputable def TK.get : TK → Nat → Option Obj
  | .leaf, _ => none
  | .node k o l r, a => match Nat.beq a k with
    | true => some o
    | false => match Nat.blt a k with
      | true => l.get a
      | false => r.get a
noncomputable def TK.all : TK → List (Nat × Obj)
  | .leaf => []
  | .node k o l r => l.all ++ (k, o) :: r.all

noncomputable def o0 (P : Params) : Obj := ⟨(.type "dict"), none, (.dict #[ent P "__name__" 1 (.str (S "builtins") 160), ent P "__doc__" 2 (.builtin "builtins.__doc__:str#opaque"), ent P "__package__" 3 (.builtin "builtins.__package__:str#opaque"), ent P "__loader__" 4 (.builtin "builtins.__loader__:shared#opaque"), ent P "__spec__" 5 (.builtin "builtins.__spec__#opaque"), ent P "__build_class__" 6 (.builtin "__build_class__"), ent P "__import__" 7 (.builtin "__import__"), ent P "abs" 8 (.builtin "abs"), ent P "all" 9 (.builtin "all"), ent P "any" 10 (.builtin "any"), ent P "ascii" 11 (.builtin "ascii"), ent P "bin" 12 (.builtin "bin"), ent P "breakpoint" 13 (.builtin "breakpoint"), ent P "callable" 14 (.builtin "callable"), ent P "chr" 15 (.builtin "chr"), ent P "compile" 16 (.builtin "compile"), ent P "delattr" 17 (.builtin "delattr"), ent P "dir" 18 (.builtin "dir"), ent P "divmod" 19 (.builtin "divmod"), ent P "eval" 20 (.builtin "eval"), ent P "exec" 21 (.builtin "exec"), ent P "format" 22 (.builtin "format"), ent P "getattr" 23 (.builtin "getattr"), ent P "globals" 24 (.builtin "globals"), ent P "hasattr" 25 (.builtin "hasattr"), ent P "hash" 26 (.builtin "hash"), ent P "hex" 27 (.builtin "hex"), ent P "id" 28 (.builtin "id"), ent P "input" 29 (.builtin "input"), ent P "isinstance" 30 (.builtin "isinstance"), ent P "issubclass" 31 (.builtin "issubclass"), ent P "iter" 32 (.builtin "iter"), ent P "aiter" 33 (.builtin "aiter"), ent P "len" 34 (.builtin "len"), ent P "locals" 35 (.builtin "locals"), ent P "max" 36 (.builtin "max"), ent P "min" 37 (.builtin "min"), ent P "next" 38 (.builtin "next"), ent P "anext" 39 (.builtin "anext"), ent P "oct" 40 (.builtin "oct"), ent P "ord" 41 (.builtin "ord"), ent P "pow" 42 (.builtin "pow"), ent P "print" 43 (.builtin "print"), ent P "repr" 44 (.builtin "repr"), ent P "round" 45 (.builtin "round"), ent P "setattr" 46 (.builtin "setattr"), ent P "sorted" 47 (.builtin "sorted"), ent P "sum" 48 (.builtin "sum"), ent P "vars" 49 (.builtin "vars"), ent P "None" 50 .none, ent P "Ellipsis" 51 .ellipsis, ent P "NotImplemented" 52 .notImplemented, ent P "False" 53 (.bool false), ent P "True" 54 (.bool true), ent P "bool" 55 (.type "bool"), ent P "memoryview" 56 (.type "memoryview"), ent P "bytearray" 57 (.type "bytearray"), ent P "bytes" 58 (.type "bytes"), ent P "classmethod" 59 (.type "classmethod"), ent P "complex" 60 (.type "complex"), ent P "dict" 61 (.type "dict"), ent P "enumerate" 62 (.type "enumerate"), ent P "filter" 63 (.type "filter"), ent P "float" 64 (.type "float"), ent P "frozenset" 65 (.type "frozenset"), ent P "property" 66 (.type "property"), ent P "int" 67 (.type "int"), ent P "list" 68 (.type "list"), ent P "map" 69 (.type "map"), ent P "object" 70 (.type "object"), ent P "range" 71 (.type "range"), ent P "reversed" 72 (.type "reversed"), ent P "set" 73 (.type "set"), ent P "slice" 74 (.type "slice"), ent P "staticmethod" 75 (.type "staticmethod"), ent P "str" 76 (.type "str"), ent P "super" 77 (.type "super"), ent P "tuple" 78 (.type "tuple"), ent P "type" 79 (.type "type"), ent P "zip" 80 (.type "zip"), ent P "__debug__" 81 (.bool true), ent P "BaseException" 82 (.type "BaseException"), ent P "BaseExceptionGroup" 83 (.type "BaseExceptionGroup"), ent P "Exception" 84 (.type "Exception"), ent P "GeneratorExit" 85 (.type "GeneratorExit"), ent P "KeyboardInterrupt" 86 (.type "KeyboardInterrupt"), ent P "SystemExit" 87 (.type "SystemExit"), ent P "ArithmeticError" 88 (.type "ArithmeticError"), ent P "AssertionError" 89 (.type "AssertionError"), ent P "AttributeError" 90 (.type "AttributeError"), ent P "BufferError" 91 (.type "BufferError"), ent P "EOFError" 92 (.type "EOFError"), ent P "ImportError" 93 (.type "ImportError"), ent P "LookupError" 94 (.type "LookupError"), ent P "MemoryError" 95 (.type "MemoryError"), ent P "NameError" 96 (.type "NameError"), ent P "OSError" 97 (.type "OSError"), ent P "ReferenceError" 98 (.type "ReferenceError"), ent P "RuntimeError" 99 (.type "RuntimeError"), ent P "StopAsyncIteration" 100 (.type "StopAsyncIteration"), ent P "StopIteration" 101 (.type "StopIteration"), ent P "SyntaxError" 102 (.type "SyntaxError"), ent P "SystemError" 103 (.type "SystemError"), ent P "TypeError" 104 (.type "TypeError"), ent P "ValueError" 105 (.type "ValueError"), ent P "Warning" 106 (.type "Warning"), ent P "FloatingPointError" 107 (.type "FloatingPointError"), ent P "OverflowError" 108 (.type "OverflowError"), ent P "ZeroDivisionError" 109 (.type "ZeroDivisionError"), ent P "BytesWarning" 110 (.type "BytesWarning"), ent P "DeprecationWarning" 111 (.type "DeprecationWarning"), ent P "EncodingWarning" 112 (.type "EncodingWarning"), ent P "FutureWarning" 113 (.type "FutureWarning"), ent P "ImportWarning" 114 (.type "ImportWarning"), ent P "PendingDeprecationWarning" 115 (.type "PendingDeprecationWarning"), ent P "ResourceWarning" 116 (.type "ResourceWarning"), ent P "RuntimeWarning" 117 (.type "RuntimeWarning"), ent P "SyntaxWarning" 118 (.type "SyntaxWarning"), ent P "UnicodeWarning" 119 (.type "UnicodeWarning"), ent P "UserWarning" 120 (.type "UserWarning"), ent P "BlockingIOError" 121 (.type "BlockingIOError"), ent P "ChildProcessError" 122 (.type "ChildProcessError"), ent P "ConnectionError" 123 (.type "ConnectionError"), ent P "FileExistsError" 124 (.type "FileExistsError"), ent P "FileNotFoundError" 125 (.type "FileNotFoundError"), ent P "InterruptedError" 126 (.type "InterruptedError"), ent P "IsADirectoryError" 127 (.type "IsADirectoryError"), ent P "NotADirectoryError" 128 (.type "NotADirectoryError"), ent P "PermissionError" 129 (.type "PermissionError"), ent P "ProcessLookupError" 130 (.type "ProcessLookupError"), ent P "TimeoutError" 131 (.type "TimeoutError"), ent P "IndentationError" 132 (.type "IndentationError"), ent P "_IncompleteInputError" 133 (.type "_IncompleteInputError"), ent P "IndexError" 134 (.type "IndexError"), ent P "KeyError" 135 (.type "KeyError"), ent P "ModuleNotFoundError" 136 (.type "ModuleNotFoundError"), ent P "NotImplementedError" 137 (.type "NotImplementedError"), ent P "PythonFinalizationError" 138 (.type "PythonFinalizationError"), ent P "RecursionError" 139 (.type "RecursionError"), ent P "UnboundLocalError" 140 (.type "UnboundLocalError"), ent P "UnicodeError" 141 (.type "UnicodeError"), ent P "BrokenPipeError" 142 (.type "BrokenPipeError"), ent P "ConnectionAbortedError" 143 (.type "ConnectionAbortedError"), ent P "ConnectionRefusedError" 144 (.type "ConnectionRefusedError"), ent P "ConnectionResetError" 145 (.type "ConnectionResetError"), ent P "TabError" 146 (.type "TabError"), ent P "UnicodeDecodeError" 147 (.type "UnicodeDecodeError"), ent P "UnicodeEncodeError" 148 (.type "UnicodeEncodeError"), ent P "UnicodeTranslateError" 149 (.type "UnicodeTranslateError"), ent P "ExceptionGroup" 150 (.type "ExceptionGroup"), ent P "EnvironmentError" 151 (.type "OSError"), ent P "IOError" 152 (.type "OSError"), ent P "open" 153 (.builtin "open"), ent P "quit" 154 (.builtin "builtins.quit#opaque"), ent P "exit" 155 (.builtin "builtins.exit#opaque"), ent P "copyright" 156 (.builtin "builtins.copyright#opaque"), ent P "credits" 157 (.builtin "builtins.credits#opaque"), ent P "license" 158 (.builtin "builtins.license#opaque"), ent P "help" 159 (.builtin "builtins.help#opaque")] 159), #[]⟩
noncomputable def o2 (P : Params) : Obj := ⟨.none, none, (.dict #[ent P "\x69mport.loaded._sre" 183 (.bool true), ent P "class._frozen_importlib.BuiltinImporter" 185 (.ref 14), ent P "watched.\x69mport" 206 (.ref 18), ent P "class._frozen_importlib.ModuleSpec" 216 (.ref 22), ent P "sys.modules.booked-epoch" 245 (.int 4 0), ent P "\x69mport.later-laid._sre" 270 (.bool true), ent P "watched.library" 272 (.ref 27), ent P "watched.library-objects" 0 (.str (S "") 0), ent P "watched.library-deep._sre" 273 (.str (S "\x00\x00\x00\x00\x00\x00\x00\x00dict") 0), ent P "\x69mport.loaded._collections" 280 (.bool true), ent P "sys.modules.landed._collections" 294 (.bool true), ent P "\x69mport.later-laid._collections" 309 (.bool true), ent P "watched.library-deep._collections" 311 (.str (S "\x00\x00\x00\x00\x00\x00\x00\x00dict") 0), ent P "type.__subclasses__.OSError.0" 443 (.int 100 0), ent P "type.__subclasses__.OSError.n" 444 (.int 1 0)] 15), #[]⟩
noncomputable def o3 (P : Params) : Obj := ⟨(.type "dict"), none, (.dict #[ent P "__name__" 165 (.str (S "law_oc0289_01") 1315), ent P "__doc__" 166 .none, ent P "__package__" 167 .none, ent P "__loader__" 168 (.builtin "__main__.__loader__#opaque"), ent P "__spec__" 169 .none, ent P "__annotations__" 170 (.ref 6), ent P "__builtins__" 171 (.ref 4), ent P "__file__" 173 (.str (S "/claim/cut.py") 172), ent P "__cached__" 174 .none, ent P "_sre" 275 (.ref 12), ent P "deque" 317 (.type "collections.deque"), ent P "_wall" 330 (.ref 44), ent P "StatisticsError" 350 (.ref 54), ent P "median_low" 358 (.ref 64), ent P "median_high" 366 (.ref 71), ent P "_twin_re_1" 406 (.ref 76), ent P "_whence" 416 (.ref 83), ent P "_index" 424 (.ref 90), ent P "UnsupportedOperation" 446 (.ref 100), ent P "IOBase" 478 (.ref 120), ent P "BufferedIOBase" 496 (.ref 135), ent P "TextIOBase" 514 (.ref 147), ent P "BytesIO" 776 (.ref 377), ent P "StringIO" 1063 (.ref 624), ent P "_kind" 1074 (.ref 633), ent P "_fspath" 1083 (.ref 640), ent P "_check_arg_types" 1093 (.ref 647), ent P "isabs" 1100 (.ref 654), ent P "join" 1111 (.ref 778), ent P "join_path" 1112 (.ref 661), ent P "dirname" 1122 (.ref 668), ent P "shlex" 1263 (.ref 759), ent P "split" 1273 (.ref 771), ent P "join_shlex" 1281 (.ref 778), ent P "_find_unsafe" 1283 (.ref 779), ent P "quote" 1290 (.ref 786), ent P "sorted_list_difference" 1306 (.ref 793), ent P "three_way_cmp" 1314 (.ref 800), ent P "_law_word" 1324 (.ref 807), ent P "_law_street" 1330 (.ref 812), ent P "_law_vote" 1336 (.ref 817), ent P "_law_below" 1342 (.ref 822), ent P "law" 1348 (.ref 827)] 43), #[]⟩
noncomputable def o4 (P : Params) : Obj := ⟨(.type "module"), (some 0), .plain, #[]⟩
noncomputable def o63 (P : Params) : Obj := ⟨(.type "code"), none, (.fields #[(.str (S "median_low") 351), (.str (S "median_low") 352), (.str (S "/claim/cut.py") 353), (.int 9 0), (.int 1 0), (.int 0 0), (.int 0 0), (.int 3 0), (.ref 58), (.bool true), (.int 318 0), (.ref 59), .none, (.ref 60), (.ref 61), (.ref 62), (.int 356 0), (.int 9 0), (.str (S "/claim/cut.py") 357)]), #[]⟩
noncomputable def o64 (P : Params) : Obj := ⟨(.type "function"), none, (.func { name := (S "median_low"), qualname := (S "median_low"), params := fArgs [5], body := .stmts (fBody [5]), scope := fScope [5], globals := 3, closure := [], defaults := .none, kwdefaults := .none, doc := .none, pyModule := (.str (S "cpy313.statistics") 331), annotations := none, code := (.ref 63), closureTuple := .none, builtins := 0 }), #[]⟩
noncomputable def o70 (P : Params) : Obj := ⟨(.type "code"), none, (.fields #[(.str (S "median_high") 359), (.str (S "median_high") 360), (.str (S "/claim/cut.py") 361), (.int 18 0), (.int 1 0), (.int 0 0), (.int 0 0), (.int 3 0), (.ref 65), (.bool true), (.int 318 0), (.ref 66), .none, (.ref 67), (.ref 68), (.ref 69), (.int 364 0), (.int 18 0), (.str (S "/claim/cut.py") 365)]), #[]⟩
noncomputable def o71 (P : Params) : Obj := ⟨(.type "function"), none, (.func { name := (S "median_high"), qualname := (S "median_high"), params := fArgs [6], body := .stmts (fBody [6]), scope := fScope [6], globals := 3, closure := [], defaults := .none, kwdefaults := .none, doc := .none, pyModule := (.str (S "cpy313.statistics") 331), annotations := none, code := (.ref 70), closureTuple := .none, builtins := 0 }), #[]⟩
noncomputable def o75 (P : Params) : Obj := ⟨(.type "tuple"), none, (.seq #[(.int 14 0), (.int 17 0), (.int 4 0), (.int 1 0), (.int 1 0), (.int 21 0), (.int 9 0), (.int 0 0), (.int 604043296 0), (.int 1 0), (.int 0 0), (.int 0 0), (.int 0 0), (.int 0 0), (.int 0 0), (.int 8 0), (.int 4 0), (.int 0 0), (.int 13 0), (.int 14 0), (.int 21 0), (.int 9 0), (.int 0 0), (.int 604043296 0), (.int 1 0), (.int 0 0), (.int 0 0), (.int 0 0), (.int 0 0), (.int 0 0), (.int 8 0), (.int 4 0), (.int 0 0), (.int 1 0)] 0), #[]⟩
noncomputable def o76 (P : Params) : Obj := ⟨(.type "re.Pattern"), none, (.fields #[(.str (S "[^\\w@%+=:,./-]") 368), (.int 256 405), (.int 0 0), .none, .none, (.ref 75), (.int 0 0)]), #[]⟩
noncomputable def o89 (P : Params) : Obj := ⟨(.type "code"), none, (.fields #[(.str (S "_index") 417), (.str (S "_index") 418), (.str (S "/claim/cut.py") 419), (.int 31 0), (.int 2 0), (.int 0 0), (.int 0 0), (.int 3 0), (.ref 84), (.bool true), (.int 318 0), (.ref 85), .none, (.ref 86), (.ref 87), (.ref 88), (.int 422 0), (.int 31 0), (.str (S "/claim/cut.py") 423)]), #[]⟩
noncomputable def o90 (P : Params) : Obj := ⟨(.type "function"), none, (.func { name := (S "_index"), qualname := (S "_index"), params := fArgs [10], body := .stmts (fBody [10]), scope := fScope [10], globals := 3, closure := [], defaults := .none, kwdefaults := .none, doc := .none, pyModule := (.str (S "io") 407), annotations := none, code := (.ref 89), closureTuple := .none, builtins := 0 }), #[]⟩
noncomputable def o116 (P : Params) : Obj := ⟨(.type "code"), none, (.fields #[(.str (S "__new__") 461), (.str (S "IOBase.__new__") 462), (.str (S "/claim/cut.py") 463), (.int 43 0), (.int 1 0), (.int 1 0), (.int 0 0), (.int 15 0), (.ref 111), (.bool true), (.int 318 0), (.ref 112), .none, (.ref 113), (.ref 114), (.ref 115), (.int 467 0), (.int 43 0), (.str (S "/claim/cut.py") 468)]), #[]⟩
noncomputable def o117 (P : Params) : Obj := ⟨(.type "function"), none, (.func { name := (S "__new__"), qualname := (S "IOBase.__new__"), params := fArgs [12, 1], body := .stmts (fBody [12, 1]), scope := fScope [12, 1], globals := 3, closure := [], defaults := .none, kwdefaults := .none, doc := .none, pyModule := (.str (S "io") 407), annotations := none, code := (.ref 116), closureTuple := .none, builtins := 0 }), #[]⟩
noncomputable def o119 (P : Params) : Obj := ⟨(.type "dict"), none, (.dict #[ent P "__module__" 454 (.str (S "io") 459), ent P "__firstlineno__" 458 (.int 40 457), ent P "__new__" 469 (.ref 121), ent P "__static_attributes__" 470 (.ref 118), ent P "__dict__" 473 (.ref 122), ent P "__weakref__" 475 (.ref 123), ent P "__doc__" 476 .none] 4), #[]⟩
noncomputable def o120 (P : Params) : Obj := ⟨(.type "type"), none, (.cls { name := (S "IOBase"), bases := [(.type "object")], mro := [(.ref 120), (.type "object")], ns := 119, qualname := (S "IOBase"), hasDict := true, slotNames := [], subclasses := [(.ref 135), (.ref 147)], abstract := false, collection := none, hasDel := false }), #[none, none, (some (.str (S "IOBase") 447)), (some (.str (S "IOBase") 455)), (some .none), (some (.bool true))]⟩
noncomputable def o121 (P : Params) : Obj := ⟨(.type "staticmethod"), none, (.fields #[(.ref 117)]), #[]⟩
noncomputable def o146 (P : Params) : Obj := ⟨(.type "dict"), none, (.dict #[ent P "__module__" 504 (.str (S "io") 509), ent P "__firstlineno__" 508 (.int 49 507), ent P "__static_attributes__" 511 (.ref 145), ent P "__doc__" 512 .none] 2), #[]⟩
noncomputable def o147 (P : Params) : Obj := ⟨(.type "type"), none, (.cls { name := (S "TextIOBase"), bases := [(.ref 120)], mro := [(.ref 147), (.ref 120), (.type "object")], ns := 146, qualname := (S "TextIOBase"), hasDict := true, slotNames := [], subclasses := [(.ref 624)], abstract := false, collection := none, hasDel := false }), #[(some (.ref 138)), none, (some (.str (S "TextIOBase") 497)), (some (.str (S "TextIOBase") 505)), (some .none), (some (.bool true))]⟩
noncomputable def o377 (P : Params) : Obj := ⟨(.type "type"), none, (.cls { name := (S "BytesIO"), bases := [(.ref 135)], mro := [(.ref 377), (.ref 135), (.ref 120), (.type "object")], ns := 376, qualname := (S "BytesIO"), hasDict := true, slotNames := [], subclasses := [], abstract := false, collection := none, hasDel := false }), #[(some (.ref 150)), none, (some (.str (S "BytesIO") 515)), (some (.str (S "BytesIO") 523)), (some .none), (some (.bool true))]⟩
noncomputable def o387 (P : Params) : Obj := ⟨(.type "tuple"), none, (.seq #[(.str (S "") 791), (.str (S "\n") 792)] 0), #[]⟩
noncomputable def o393 (P : Params) : Obj := ⟨(.type "code"), none, (.fields #[(.str (S "__init__") 793), (.str (S "StringIO.__init__") 794), (.str (S "/claim/cut.py") 795), (.int 224 0), (.int 3 0), (.int 0 0), (.int 0 0), (.int 3 0), (.ref 388), (.bool true), (.int 318 0), (.ref 389), .none, (.ref 390), (.ref 391), (.ref 392), (.int 799 0), (.int 224 0), (.str (S "/claim/cut.py") 800)]), #[]⟩
noncomputable def o394 (P : Params) : Obj := ⟨(.type "function"), none, (.func { name := (S "__init__"), qualname := (S "StringIO.__init__"), params := fArgs [16, 1], body := .stmts (fBody [16, 1]), scope := fScope [16, 1], globals := 3, closure := [], defaults := (.ref 387), kwdefaults := .none, doc := .none, pyModule := (.str (S "io") 407), annotations := none, code := (.ref 393), closureTuple := .none, builtins := 0 }), #[]⟩
noncomputable def o400 (P : Params) : Obj := ⟨(.type "code"), none, (.fields #[(.str (S "__translated") 802), (.str (S "StringIO.__translated") 803), (.str (S "/claim/cut.py") 804), (.int 237 0), (.int 2 0), (.int 0 0), (.int 0 0), (.int 3 0), (.ref 395), (.bool true), (.int 318 0), (.ref 396), .none, (.ref 397), (.ref 398), (.ref 399), (.int 808 0), (.int 237 0), (.str (S "/claim/cut.py") 809)]), #[]⟩
noncomputable def o401 (P : Params) : Obj := ⟨(.type "function"), none, (.func { name := (S "__translated"), qualname := (S "StringIO.__translated"), params := fArgs [16, 2], body := .stmts (fBody [16, 2]), scope := fScope [16, 2], globals := 3, closure := [], defaults := .none, kwdefaults := .none, doc := .none, pyModule := (.str (S "io") 407), annotations := none, code := (.ref 400), closureTuple := .none, builtins := 0 }), #[]⟩
noncomputable def o407 (P : Params) : Obj := ⟨(.type "code"), none, (.fields #[(.str (S "__check") 811), (.str (S "StringIO.__check") 812), (.str (S "/claim/cut.py") 813), (.int 245 0), (.int 1 0), (.int 0 0), (.int 0 0), (.int 3 0), (.ref 402), (.bool true), (.int 318 0), (.ref 403), .none, (.ref 404), (.ref 405), (.ref 406), (.int 815 0), (.int 245 0), (.str (S "/claim/cut.py") 816)]), #[]⟩
noncomputable def o408 (P : Params) : Obj := ⟨(.type "function"), none, (.func { name := (S "__check"), qualname := (S "StringIO.__check"), params := fArgs [16, 3], body := .stmts (fBody [16, 3]), scope := fScope [16, 3], globals := 3, closure := [], defaults := .none, kwdefaults := .none, doc := .none, pyModule := (.str (S "io") 407), annotations := none, code := (.ref 407), closureTuple := .none, builtins := 0 }), #[]⟩
noncomputable def o563 (P : Params) : Obj := ⟨(.type "tuple"), none, (.seq #[(.int (-1) 984)] 0), #[]⟩
noncomputable def o569 (P : Params) : Obj := ⟨(.type "code"), none, (.fields #[(.str (S "read") 985), (.str (S "StringIO.read") 986), (.str (S "/claim/cut.py") 987), (.int 367 0), (.int 2 0), (.int 2 0), (.int 0 0), (.int 3 0), (.ref 564), (.bool true), (.int 318 0), (.ref 565), .none, (.ref 566), (.ref 567), (.ref 568), (.int 992 0), (.int 367 0), (.str (S "/claim/cut.py") 993)]), #[]⟩
noncomputable def o570 (P : Params) : Obj := ⟨(.type "function"), none, (.func { name := (S "read"), qualname := (S "StringIO.read"), params := fArgs [16, 25], body := .stmts (fBody [16, 25]), scope := fScope [16, 25], globals := 3, closure := [], defaults := (.ref 563), kwdefaults := .none, doc := .none, pyModule := (.str (S "io") 407), annotations := none, code := (.ref 569), closureTuple := .none, builtins := 0 }), #[]⟩
noncomputable def o623 (P : Params) : Obj := ⟨(.type "dict"), none, (.dict #[ent P "__module__" 784 (.str (S "_io") 789), ent P "__firstlineno__" 788 (.int 221 787), ent P "__init__" 801 (.ref 394), ent P "_StringIO__translated" 810 (.ref 401), ent P "_StringIO__check" 817 (.ref 408), ent P "_StringIO__check_dot" 824 (.ref 415), ent P "_StringIO__line" 839 (.ref 422), ent P "closed" 847 (.ref 430), ent P "line_buffering" 855 (.ref 438), ent P "newlines" 863 (.ref 446), ent P "encoding" 871 (.ref 454), ent P "errors" 879 (.ref 462), ent P "close" 886 (.ref 469), ent P "__enter__" 893 (.ref 476), ent P "__exit__" 901 (.ref 483), ent P "readable" 908 (.ref 490), ent P "writable" 915 (.ref 497), ent P "seekable" 922 (.ref 504), ent P "isatty" 929 (.ref 511), ent P "flush" 936 (.ref 518), ent P "fileno" 943 (.ref 525), ent P "detach" 950 (.ref 532), ent P "getvalue" 957 (.ref 539), ent P "tell" 964 (.ref 546), ent P "seek" 974 (.ref 554), ent P "truncate" 982 (.ref 562), ent P "read" 994 (.ref 570), ent P "readline" 1004 (.ref 578), ent P "readlines" 1014 (.ref 586), ent P "__iter__" 1021 (.ref 593), ent P "__next__" 1029 (.ref 600), ent P "write" 1041 (.ref 607), ent P "writelines" 1049 (.ref 614), ent P "__repr__" 1056 (.ref 621), ent P "__static_attributes__" 1060 (.ref 622), ent P "__doc__" 1061 .none] 2), #[]⟩
noncomputable def o624 (P : Params) : Obj := ⟨(.type "type"), none, (.cls { name := (S "StringIO"), bases := [(.ref 147)], mro := [(.ref 624), (.ref 147), (.ref 120), (.type "object")], ns := 623, qualname := (S "StringIO"), hasDict := true, slotNames := [], subclasses := [], abstract := false, collection := none, hasDel := false }), #[(some (.ref 380)), none, (some (.str (S "StringIO") 777)), (some (.str (S "StringIO") 785)), (some .none), (some (.bool true))]⟩
noncomputable def o676 (P : Params) : Obj := ⟨(.type "tuple"), none, (.seq #[.none, .none, (.bool false), (.bool false)] 0), #[]⟩
noncomputable def o682 (P : Params) : Obj := ⟨(.type "code"), none, (.fields #[(.str (S "__init__") 1137), (.str (S "shlex.__init__") 1138), (.str (S "/claim/cut.py") 1139), (.int 493 0), (.int 5 0), (.int 0 0), (.int 0 0), (.int 3 0), (.ref 677), (.bool true), (.int 318 0), (.ref 678), .none, (.ref 679), (.ref 680), (.ref 681), (.int 1146 0), (.int 493 0), (.str (S "/claim/cut.py") 1147)]), #[]⟩
noncomputable def o683 (P : Params) : Obj := ⟨(.type "function"), none, (.func { name := (S "__init__"), qualname := (S "shlex.__init__"), params := fArgs [26, 0], body := .stmts (fBody [26, 0]), scope := fScope [26, 0], globals := 3, closure := [], defaults := (.ref 676), kwdefaults := .none, doc := .none, pyModule := (.str (S "cpy313.shlex") 1123), annotations := none, code := (.ref 682), closureTuple := .none, builtins := 0 }), #[]⟩
noncomputable def o689 (P : Params) : Obj := ⟨(.type "code"), none, (.fields #[(.str (S "punctuation_chars") 1149), (.str (S "shlex.punctuation_chars") 1150), (.str (S "/claim/cut.py") 1151), (.int 534 0), (.int 1 0), (.int 0 0), (.int 0 0), (.int 3 0), (.ref 684), (.bool true), (.int 318 0), (.ref 685), .none, (.ref 686), (.ref 687), (.ref 688), (.int 1153 0), (.int 534 0), (.str (S "/claim/cut.py") 1154)]), #[]⟩
noncomputable def o690 (P : Params) : Obj := ⟨(.type "function"), none, (.func { name := (S "punctuation_chars"), qualname := (S "shlex.punctuation_chars"), params := fArgs [26, 1], body := .stmts (fBody [26, 1]), scope := fScope [26, 1], globals := 3, closure := [], defaults := .none, kwdefaults := .none, doc := .none, pyModule := (.str (S "cpy313.shlex") 1123), annotations := none, code := (.ref 689), closureTuple := .none, builtins := 0 }), #[]⟩
noncomputable def o691 (P : Params) : Obj := ⟨(.type "property"), none, (.fields #[(.ref 690), .none, .none, .none, (.str (S "punctuation_chars") 1156), (.bool false)]), #[]⟩
noncomputable def o719 (P : Params) : Obj := ⟨(.type "code"), none, (.fields #[(.str (S "get_token") 1181), (.str (S "shlex.get_token") 1182), (.str (S "/claim/cut.py") 1183), (.int 561 0), (.int 1 0), (.int 0 0), (.int 0 0), (.int 3 0), (.ref 714), (.bool true), (.int 318 0), (.ref 715), .none, (.ref 716), (.ref 717), (.ref 718), (.int 1190 0), (.int 561 0), (.str (S "/claim/cut.py") 1191)]), #[]⟩
noncomputable def o720 (P : Params) : Obj := ⟨(.type "function"), none, (.func { name := (S "get_token"), qualname := (S "shlex.get_token"), params := fArgs [26, 5], body := .stmts (fBody [26, 5]), scope := fScope [26, 5], globals := 3, closure := [], defaults := .none, kwdefaults := .none, doc := .none, pyModule := (.str (S "cpy313.shlex") 1123), annotations := none, code := (.ref 719), closureTuple := .none, builtins := 0 }), #[]⟩
noncomputable def o726 (P : Params) : Obj := ⟨(.type "code"), none, (.fields #[(.str (S "read_token") 1193), (.str (S "shlex.read_token") 1194), (.str (S "/claim/cut.py") 1195), (.int 588 0), (.int 1 0), (.int 0 0), (.int 0 0), (.int 3 0), (.ref 721), (.bool true), (.int 318 0), (.ref 722), .none, (.ref 723), (.ref 724), (.ref 725), (.int 1201 0), (.int 588 0), (.str (S "/claim/cut.py") 1202)]), #[]⟩
noncomputable def o727 (P : Params) : Obj := ⟨(.type "function"), none, (.func { name := (S "read_token"), qualname := (S "shlex.read_token"), params := fArgs [26, 6], body := .stmts (fBody [26, 6]), scope := fScope [26, 6], globals := 3, closure := [], defaults := .none, kwdefaults := .none, doc := .none, pyModule := (.str (S "cpy313.shlex") 1123), annotations := none, code := (.ref 726), closureTuple := .none, builtins := 0 }), #[]⟩
noncomputable def o748 (P : Params) : Obj := ⟨(.type "code"), none, (.fields #[(.str (S "__iter__") 1221), (.str (S "shlex.__iter__") 1222), (.str (S "/claim/cut.py") 1223), (.int 735 0), (.int 1 0), (.int 0 0), (.int 0 0), (.int 3 0), (.ref 743), (.bool true), (.int 318 0), (.ref 744), .none, (.ref 745), (.ref 746), (.ref 747), (.int 1225 0), (.int 735 0), (.str (S "/claim/cut.py") 1226)]), #[]⟩
noncomputable def o749 (P : Params) : Obj := ⟨(.type "function"), none, (.func { name := (S "__iter__"), qualname := (S "shlex.__iter__"), params := fArgs [26, 9], body := .stmts (fBody [26, 9]), scope := fScope [26, 9], globals := 3, closure := [], defaults := .none, kwdefaults := .none, doc := .none, pyModule := (.str (S "cpy313.shlex") 1123), annotations := none, code := (.ref 748), closureTuple := .none, builtins := 0 }), #[]⟩
noncomputable def o755 (P : Params) : Obj := ⟨(.type "code"), none, (.fields #[(.str (S "__next__") 1228), (.str (S "shlex.__next__") 1229), (.str (S "/claim/cut.py") 1230), (.int 738 0), (.int 1 0), (.int 0 0), (.int 0 0), (.int 3 0), (.ref 750), (.bool true), (.int 318 0), (.ref 751), .none, (.ref 752), (.ref 753), (.ref 754), (.int 1233 0), (.int 738 0), (.str (S "/claim/cut.py") 1234)]), #[]⟩
noncomputable def o756 (P : Params) : Obj := ⟨(.type "function"), none, (.func { name := (S "__next__"), qualname := (S "shlex.__next__"), params := fArgs [26, 10], body := .stmts (fBody [26, 10]), scope := fScope [26, 10], globals := 3, closure := [], defaults := .none, kwdefaults := .none, doc := .none, pyModule := (.str (S "cpy313.shlex") 1123), annotations := none, code := (.ref 755), closureTuple := .none, builtins := 0 }), #[]⟩
noncomputable def o758 (P : Params) : Obj := ⟨(.type "dict"), none, (.dict #[ent P "__module__" 1132 (.str (S "cpy313.shlex") 1123), ent P "__firstlineno__" 1136 (.int 491 1135), ent P "__init__" 1148 (.ref 683), ent P "punctuation_chars" 1156 (.ref 691), ent P "push_token" 1164 (.ref 698), ent P "push_source" 1173 (.ref 706), ent P "pop_source" 1180 (.ref 713), ent P "get_token" 1192 (.ref 720), ent P "read_token" 1203 (.ref 727), ent P "sourcehook" 1211 (.ref 734), ent P "error_leader" 1220 (.ref 742), ent P "__iter__" 1227 (.ref 749), ent P "__next__" 1235 (.ref 756), ent P "__static_attributes__" 1256 (.ref 757), ent P "__dict__" 1258 (.ref 760), ent P "__weakref__" 1260 (.ref 761), ent P "__doc__" 1261 .none] 4), #[]⟩
noncomputable def o759 (P : Params) : Obj := ⟨(.type "type"), none, (.cls { name := (S "shlex"), bases := [(.type "object")], mro := [(.ref 759), (.type "object")], ns := 758, qualname := (S "shlex"), hasDict := true, slotNames := [], subclasses := [], abstract := false, collection := none, hasDel := false }), #[none, none, (some (.str (S "shlex") 1125)), (some (.str (S "shlex") 1133)), (some (.builtin "object.__new__")), (some (.bool true))]⟩
noncomputable def o764 (P : Params) : Obj := ⟨(.type "tuple"), none, (.seq #[(.bool false), (.bool true)] 0), #[]⟩
noncomputable def o770 (P : Params) : Obj := ⟨(.type "code"), none, (.fields #[(.str (S "split") 1264), (.str (S "split") 1265), (.str (S "/claim/cut.py") 1266), (.int 743 0), (.int 3 0), (.int 0 0), (.int 0 0), (.int 3 0), (.ref 765), (.bool true), (.int 318 0), (.ref 766), .none, (.ref 767), (.ref 768), (.ref 769), (.int 1271 0), (.int 743 0), (.str (S "/claim/cut.py") 1272)]), #[]⟩
noncomputable def o771 (P : Params) : Obj := ⟨(.type "function"), none, (.func { name := (S "split"), qualname := (S "split"), params := fArgs [27], body := .stmts (fBody [27]), scope := fScope [27], globals := 3, closure := [], defaults := (.ref 764), kwdefaults := .none, doc := .none, pyModule := (.str (S "cpy313.shlex") 1123), annotations := none, code := (.ref 770), closureTuple := .none, builtins := 0 }), #[]⟩
noncomputable def o773 (P : Params) : Obj := ⟨.none, none, (.fields #[]), #[]⟩
noncomputable def o777 (P : Params) : Obj := ⟨(.type "code"), none, (.fields #[(.str (S "join") 1274), (.str (S "join") 1275), (.str (S "/claim/cut.py") 1276), (.int 751 0), (.int 1 0), (.int 0 0), (.int 0 0), (.int 3 0), (.ref 772), (.bool true), (.int 318 0), (.ref 773), .none, (.ref 774), (.ref 775), (.ref 776), (.int 1278 0), (.int 751 0), (.str (S "/claim/cut.py") 1279)]), #[]⟩
noncomputable def o778 (P : Params) : Obj := ⟨(.type "function"), none, (.func { name := (S "join"), qualname := (S "join"), params := fArgs [28], body := .stmts (fBody [28]), scope := fScope [28], globals := 3, closure := [], defaults := .none, kwdefaults := .none, doc := .none, pyModule := (.str (S "cpy313.shlex") 1123), annotations := none, code := (.ref 777), closureTuple := .none, builtins := 0 }), #[]⟩
noncomputable def o779 (P : Params) : Obj := ⟨(.type "builtin_function_or_method"), none, (.fields #[(.builtin "re.Pattern.search"), (.ref 76)]), #[]⟩
noncomputable def o785 (P : Params) : Obj := ⟨(.type "code"), none, (.fields #[(.str (S "quote") 1284), (.str (S "quote") 1285), (.str (S "/claim/cut.py") 1286), (.int 755 0), (.int 1 0), (.int 0 0), (.int 0 0), (.int 3 0), (.ref 780), (.bool true), (.int 318 0), (.ref 781), .none, (.ref 782), (.ref 783), (.ref 784), (.int 1288 0), (.int 755 0), (.str (S "/claim/cut.py") 1289)]), #[]⟩
noncomputable def o786 (P : Params) : Obj := ⟨(.type "function"), none, (.func { name := (S "quote"), qualname := (S "quote"), params := fArgs [31], body := .stmts (fBody [31]), scope := fScope [31], globals := 3, closure := [], defaults := .none, kwdefaults := .none, doc := .none, pyModule := (.str (S "cpy313.shlex") 1123), annotations := none, code := (.ref 785), closureTuple := .none, builtins := 0 }), #[]⟩
noncomputable def o792 (P : Params) : Obj := ⟨(.type "code"), none, (.fields #[(.str (S "sorted_list_difference") 1293), (.str (S "sorted_list_difference") 1294), (.str (S "/claim/cut.py") 1295), (.int 762 0), (.int 2 0), (.int 0 0), (.int 0 0), (.int 3 0), (.ref 787), (.bool true), (.int 318 0), (.ref 788), .none, (.ref 789), (.ref 790), (.ref 791), (.int 1304 0), (.int 762 0), (.str (S "/claim/cut.py") 1305)]), #[]⟩
noncomputable def o793 (P : Params) : Obj := ⟨(.type "function"), none, (.func { name := (S "sorted_list_difference"), qualname := (S "sorted_list_difference"), params := fArgs [33], body := .stmts (fBody [33]), scope := fScope [33], globals := 3, closure := [], defaults := .none, kwdefaults := .none, doc := .none, pyModule := (.str (S "cpy313.unittest.util") 1291), annotations := none, code := (.ref 792), closureTuple := .none, builtins := 0 }), #[]⟩
noncomputable def o799 (P : Params) : Obj := ⟨(.type "code"), none, (.fields #[(.str (S "three_way_cmp") 1307), (.str (S "three_way_cmp") 1308), (.str (S "/claim/cut.py") 1309), (.int 794 0), (.int 2 0), (.int 0 0), (.int 0 0), (.int 3 0), (.ref 794), (.bool true), (.int 318 0), (.ref 795), .none, (.ref 796), (.ref 797), (.ref 798), (.int 1312 0), (.int 794 0), (.str (S "/claim/cut.py") 1313)]), #[]⟩
noncomputable def o800 (P : Params) : Obj := ⟨(.type "function"), none, (.func { name := (S "three_way_cmp"), qualname := (S "three_way_cmp"), params := fArgs [34], body := .stmts (fBody [34]), scope := fScope [34], globals := 3, closure := [], defaults := .none, kwdefaults := .none, doc := .none, pyModule := (.str (S "cpy313.unittest.util") 1291), annotations := none, code := (.ref 799), closureTuple := .none, builtins := 0 }), #[]⟩
noncomputable def o806 (P : Params) : Obj := ⟨(.type "code"), none, (.fields #[(.str (S "_law_word") 1317), (.str (S "_law_word") 1318), (.str (S "/claim/cut.py") 1319), (.int 797 0), (.int 1 0), (.int 0 0), (.int 0 0), (.int 3 0), (.ref 801), (.bool true), (.int 318 0), (.ref 802), .none, (.ref 803), (.ref 804), (.ref 805), (.int 1322 0), (.int 797 0), (.str (S "/claim/cut.py") 1323)]), #[]⟩
noncomputable def o807 (P : Params) : Obj := ⟨(.type "function"), none, (.func { name := (S "_law_word"), qualname := (S "_law_word"), params := fArgs [36], body := .stmts (fBody [36]), scope := fScope [36], globals := 3, closure := [], defaults := .none, kwdefaults := .none, doc := .none, pyModule := (.str (S "law_oc0289_01") 1315), annotations := none, code := (.ref 806), closureTuple := .none, builtins := 0 }), #[]⟩
noncomputable def o811 (P : Params) : Obj := ⟨(.type "code"), none, (.fields #[(.str (S "_law_street") 1325), (.str (S "_law_street") 1326), (.str (S "/claim/cut.py") 1327), (.int 803 0), (.int 1 0), (.int 0 0), (.int 0 0), (.int 3 0), (.ref 808), (.bool true), (.int 318 0), (.ref 809), .none, .none, .none, (.ref 810), (.int 1328 0), (.int 803 0), (.str (S "/claim/cut.py") 1329)]), #[]⟩
noncomputable def o812 (P : Params) : Obj := ⟨(.type "function"), none, (.func { name := (S "_law_street"), qualname := (S "_law_street"), params := fArgs [37], body := .stmts (fBody [37]), scope := fScope [37], globals := 3, closure := [], defaults := .none, kwdefaults := .none, doc := .none, pyModule := (.str (S "law_oc0289_01") 1315), annotations := none, code := (.ref 811), closureTuple := .none, builtins := 0 }), #[]⟩
noncomputable def o816 (P : Params) : Obj := ⟨(.type "code"), none, (.fields #[(.str (S "_law_vote") 1331), (.str (S "_law_vote") 1332), (.str (S "/claim/cut.py") 1333), (.int 809 0), (.int 3 0), (.int 0 0), (.int 0 0), (.int 3 0), (.ref 813), (.bool true), (.int 318 0), (.ref 814), .none, .none, .none, (.ref 815), (.int 1334 0), (.int 809 0), (.str (S "/claim/cut.py") 1335)]), #[]⟩
noncomputable def o817 (P : Params) : Obj := ⟨(.type "function"), none, (.func { name := (S "_law_vote"), qualname := (S "_law_vote"), params := fArgs [38], body := .stmts (fBody [38]), scope := fScope [38], globals := 3, closure := [], defaults := .none, kwdefaults := .none, doc := .none, pyModule := (.str (S "law_oc0289_01") 1315), annotations := none, code := (.ref 816), closureTuple := .none, builtins := 0 }), #[]⟩
noncomputable def o821 (P : Params) : Obj := ⟨(.type "code"), none, (.fields #[(.str (S "_law_below") 1337), (.str (S "_law_below") 1338), (.str (S "/claim/cut.py") 1339), (.int 811 0), (.int 3 0), (.int 0 0), (.int 0 0), (.int 3 0), (.ref 818), (.bool true), (.int 318 0), (.ref 819), .none, .none, .none, (.ref 820), (.int 1340 0), (.int 811 0), (.str (S "/claim/cut.py") 1341)]), #[]⟩
noncomputable def o822 (P : Params) : Obj := ⟨(.type "function"), none, (.func { name := (S "_law_below"), qualname := (S "_law_below"), params := fArgs [39], body := .stmts (fBody [39]), scope := fScope [39], globals := 3, closure := [], defaults := .none, kwdefaults := .none, doc := .none, pyModule := (.str (S "law_oc0289_01") 1315), annotations := none, code := (.ref 821), closureTuple := .none, builtins := 0 }), #[]⟩
noncomputable def o826 (P : Params) : Obj := ⟨(.type "code"), none, (.fields #[(.str (S "law") 1343), (.str (S "law") 1344), (.str (S "/claim/cut.py") 1345), (.int 814 0), (.int 1 0), (.int 0 0), (.int 0 0), (.int 3 0), (.ref 823), (.bool true), (.int 318 0), (.ref 824), .none, .none, .none, (.ref 825), (.int 1346 0), (.int 814 0), (.str (S "/claim/cut.py") 1347)]), #[]⟩
noncomputable def o827 (P : Params) : Obj := ⟨(.type "function"), none, (.func { name := (S "law"), qualname := (S "law"), params := fArgs [40], body := .stmts (fBody [40]), scope := fScope [40], globals := 3, closure := [], defaults := .none, kwdefaults := .none, doc := .none, pyModule := (.str (S "law_oc0289_01") 1315), annotations := none, code := (.ref 826), closureTuple := .none, builtins := 0 }), #[]⟩
noncomputable def topT (P : Params) : TK := (.node 689 (o689 P) (.node 146 (o146 P) (.node 75 (o75 P) (.node 63 (o63 P) (.node 3 (o3 P) (.node 2 (o2 P) (.node 0 (o0 P) .leaf .leaf) .leaf) (.node 4 (o4 P) .leaf .leaf)) (.node 70 (o70 P) (.node 64 (o64 P) .leaf .leaf) (.node 71 (o71 P) .leaf .leaf))) (.node 117 (o117 P) (.node 90 (o90 P) (.node 89 (o89 P) (.node 76 (o76 P) .leaf .leaf) .leaf) (.node 116 (o116 P) .leaf .leaf)) (.node 120 (o120 P) (.node 119 (o119 P) .leaf .leaf) (.node 121 (o121 P) .leaf .leaf)))) (.node 408 (o408 P) (.node 394 (o394 P) (.node 387 (o387 P) (.node 377 (o377 P) (.node 147 (o147 P) .leaf .leaf) .leaf) (.node 393 (o393 P) .leaf .leaf)) (.node 401 (o401 P) (.node 400 (o400 P) .leaf .leaf) (.node 407 (o407 P) .leaf .leaf))) (.node 624 (o624 P) (.node 570 (o570 P) (.node 569 (o569 P) (.node 563 (o563 P) .leaf .leaf) .leaf) (.node 623 (o623 P) .leaf .leaf)) (.node 682 (o682 P) (.node 676 (o676 P) .leaf .leaf) (.node 683 (o683 P) .leaf .leaf))))) (.node 779 (o779 P) (.node 755 (o755 P) (.node 726 (o726 P) (.node 719 (o719 P) (.node 691 (o691 P) (.node 690 (o690 P) .leaf .leaf) .leaf) (.node 720 (o720 P) .leaf .leaf)) (.node 748 (o748 P) (.node 727 (o727 P) .leaf .leaf) (.node 749 (o749 P) .leaf .leaf))) (.node 770 (o770 P) (.node 759 (o759 P) (.node 758 (o758 P) (.node 756 (o756 P) .leaf .leaf) .leaf) (.node 764 (o764 P) .leaf .leaf)) (.node 777 (o777 P) (.node 771 (o771 P) .leaf .leaf) (.node 778 (o778 P) .leaf .leaf)))) (.node 811 (o811 P) (.node 799 (o799 P) (.node 792 (o792 P) (.node 786 (o786 P) (.node 785 (o785 P) .leaf .leaf) .leaf) (.node 793 (o793 P) .leaf .leaf)) (.node 806 (o806 P) (.node 800 (o800 P) .leaf .leaf) (.node 807 (o807 P) .leaf .leaf))) (.node 821 (o821 P) (.node 816 (o816 P) (.node 812 (o812 P) .leaf .leaf) (.node 817 (o817 P) .leaf .leaf)) (.node 826 (o826 P) (.node 822 (o822 P) .leaf .leaf) (.node 827 (o827 P) .leaf .leaf))))))
end Mine
end
noncomputable section
open PySem PySem.W PyProof.Rows
set_option maxRecDepth 100000
set_option maxHeartbeats 8000000
set_option linter.unusedVariables false
namespace Mine
noncomputable abbrev denQ : Code → Sem Fin := PySem.W.Fast.tw11892475500146522536 PySem.W.Fast.tw14364793385576792824
theorem den_eq : denote table = denQ := by
  rw [table_eq_tree, PySem.W.Fast.te11892475500146522536, PySem.W.Fast.te14364793385576792824]
noncomputable abbrev MM (w : World) : Model := model pw w
theorem den_MM (w : World) : (MM w).den = denQ := den_eq
end Mine
end
noncomputable section
open PySem PySem.W PyProof.Rows
set_option maxRecDepth 100000
set_option maxHeartbeats 8000000
set_option linter.unusedVariables false
namespace Mine
noncomputable def topRunQ (p : Program) (w : World) (n₀ : Nat) (ann : Option Value) (n : Nat) : SharedT → Thread → Option SharedT :=
  @Nat.rec (fun _ => SharedT → Thread → Option SharedT) (fun _ _ => none)
    (fun _ ih s t => @Bool.rec (fun _ => Option SharedT)
      (@Bool.rec (fun _ => Option SharedT) none
        (@Option.rec (SharedT × Thread) (fun _ => Option SharedT) none (fun x => ih x.1 x.2) (PySem.W.Fast.tw10156331382660048174 denQ p w s t))
        (PySem.W.Fast.tw6613529449190102663 n₀ ann t))
      (some s) (through t)) n
theorem denQ_tree : denQ = denote treeTable := by
  show PySem.W.Fast.tw11892475500146522536 PySem.W.Fast.tw14364793385576792824 = _
  rw [← PySem.W.Fast.te11892475500146522536, ← PySem.W.Fast.te14364793385576792824]
theorem topRunQ_of {p : Program} {w : World} {n₀ : Nat} {ann : Option Value} : ∀ (n : Nat) (s s' : SharedT) (t : Thread), topRunQ p w n₀ ann n s t = some s' → topRun treeTable p w n₀ ann n s.abs t = some s'.abs := by
  intro n
  induction n with
  | zero => intro s s' t h; cases h
  | succ n ih =>
    intro s s' t h
    unfold topRun
    have h : @Bool.rec (fun _ => Option SharedT)
      (@Bool.rec (fun _ => Option SharedT) none
        (@Option.rec (SharedT × Thread) (fun _ => Option SharedT) none (fun x => topRunQ p w n₀ ann n x.1 x.2) (PySem.W.Fast.tw10156331382660048174 denQ p w s t))
        (PySem.W.Fast.tw6613529449190102663 n₀ ann t))
      (some s) (through t) = some s' := h
    rw [← PySem.W.Fast.te10156331382660048174, ← PySem.W.Fast.te6613529449190102663, denQ_tree] at h
    cases h1 : through t with
    | true => rw [h1] at h; cases h; rfl
    | false =>
      rw [h1] at h
      cases h2 : stepOk n₀ ann t with
      | false => rw [h2] at h; cases h
      | true =>
        rw [h2] at h
        cases h3 : stepT (denote treeTable) p w s t with
        | none => rw [h3] at h; cases h
        | some y =>
          obtain ⟨s₂, t₂⟩ := y
          rw [h3] at h
          rw [stepT_spec h3]
          exact ih s₂ s' t₂ h
noncomputable def treeGo (l : List Obj) : BT → Nat → Option BT := @List.rec Obj (fun _ => BT → Nat → Option BT) (fun T _ => some T) (fun o _ ih T n => match ((T.ins n o).get n).isSome with
  | true => ih (T.ins n o) (n + 1)
  | false => none) l
theorem treeGo_of {life : Life} : ∀ (l : List Obj) (T T' : BT) (n : Nat), treeGo l T n = some T' → absHeap T' (n + l.length) life = ⟨(absHeap T n life).objs ++ l.toArray, life⟩ := by
  intro l
  induction l with
  | nil => intro T T' n h; cases h; simp [absHeap]
  | cons o l ih =>
    intro T T' n h
    have h : (match ((T.ins n o).get n).isSome with | true => treeGo l (T.ins n o) (n + 1) | false => none) = some T' := h
    cases hs : ((T.ins n o).get n).isSome with
    | false => rw [hs] at h; cases h
    | true =>
      rw [hs] at h
      have := ih _ _ _ h
      rw [absHeap_ins hs] at this
      have e : n + (o :: l).length = n + 1 + l.length := by rw [List.length_cons]; omega
      rw [e, this]
      have q : ((absHeap T n life).push o).objs = (absHeap T n life).objs.push o := rfl
      rw [q]
      simp
noncomputable def toT (s : Shared) : Option SharedT := match treeGo s.heap.objs.toList .nil 0 with
  | some T => some ⟨T, s.heap.objs.toList.length, s.heap.life, s.gens, s.drawn, s.toks, s.os⟩
  | none => none
theorem toT_of {s : Shared} {t : SharedT} (h : toT s = some t) : t.abs = s := by
  unfold toT at h
  cases hg : treeGo s.heap.objs.toList .nil 0 with
  | none => rw [hg] at h; cases h
  | some T =>
    rw [hg] at h
    cases h
    have := treeGo_of (life := s.heap.life) _ _ _ _ hg
    rw [Nat.zero_add] at this
    show Shared.mk _ _ _ _ _ = s
    dsimp only
    rw [this]
    have e : (absHeap BT.nil 0 s.heap.life).objs = #[] := rfl
    rw [e]
    cases s with | mk heap gens drawn toks os => cases heap; simp

noncomputable def qv : Program := { pw with main := { pw.main with body := pw.main.body.take 2 } }
noncomputable def looseL : List PySem.Str := pw.boundNames.filter fun n => !(["_sre", "deque"] : List PySem.Str).contains n
noncomputable def topAs : List Nat := [0, 2, 3, 4, 63, 64, 70, 71, 75, 76, 89, 90, 116, 117, 119, 120, 121, 146, 147, 377, 387, 393, 394, 400, 401, 407, 408, 563, 569, 570, 623, 624, 676, 682, 683, 689, 690, 691, 719, 720, 726, 727, 748, 749, 755, 756, 758, 759, 764, 770, 771, 777, 778, 779, 785, 786, 792, 793, 799, 800, 806, 807, 811, 812, 816, 817, 821, 822, 826, 827]
noncomputable def Yf (s : Shared) : List (Option Obj) × Option Obj × Nat × Nat := (topAs.map s.heap.get?, s.heap.get? 773, s.heap.objs.size, s.toks)
noncomputable def Ya (w : World) : List (Option Obj) × Option Obj × Nat × Nat := ((topT w.params).all.map (fun p => some p.2), some (o773 w.params), 828, 1349)
noncomputable def seenQ (s₀ s₁ : Shared) : Bool := staticsOk (importedModules pw.main.body) s₀.heap s₁.heap && namesBound pw s₁.heap && gensDone s₁ && laidKept s₀.heap s₁.heap
noncomputable def headQ (w : World) :=
  ((PySem.W.Fast.tw10274390034422433532 PySem.W.Fast.tw14364793385576792824 (opening pw) w 6000 (PySem.W.Fast.tw1435165496053646825 (opening pw)).1 (PySem.W.Fast.tw1435165496053646825 (opening pw)).2).bind (fenceModules? pw)).bind fun s₀ =>
    match s₀.heap.isNs mainGlobals && s₀.gens.size == 0 with
    | true => (toT s₀).bind fun t₀ => (topRunQ pw w s₀.heap.objs.size (s₀.heap.nsMap mainGlobals "__annotations__") 6000 t₀ (topStub pw)).bind fun t₁ =>
        some (seenQ s₀ t₁.abs, PySem.W.Fast.tw4187177175401517315 qv looseL (importedModules pw.main.body) (fun _ => true) true t₁.abs, Yf t₁.abs)
    | false => none
theorem headQ_is : ∀ w, headQ w = some (true, openGood qv looseL, Ya w) := by intro w; kernel_rfl
end Mine
end
noncomputable section
open PySem PySem.W PyProof.Rows
set_option maxRecDepth 100000
set_option maxHeartbeats 8000000
set_option linter.unusedVariables false
namespace Mine
theorem left : LeftO pw qv looseL (fun _ => true) Yf Ya 6000 := fun w => by
  have h := headQ_is w
  unfold headQ at h
  rw [← PySem.W.Fast.te10274390034422433532, ← PySem.W.Fast.te14364793385576792824, ← PySem.W.Fast.te1435165496053646825, ← PySem.W.Fast.te4187177175401517315] at h
  obtain ⟨s₀, h1, h2⟩ := Option.bind_eq_some_iff.mp h
  have hf : fencedOpening treeTable pw w 6000 = some s₀ := h1
  cases hg : (s₀.heap.isNs mainGlobals && s₀.gens.size == 0) with
  | false => rw [hg] at h2; cases h2
  | true =>
    rw [hg] at h2
    obtain ⟨t₀, h3, h4⟩ := Option.bind_eq_some_iff.mp h2
    obtain ⟨t₁, h5, h6⟩ := Option.bind_eq_some_iff.mp h4
    have e0 := toT_of h3
    have hr := topRunQ_of _ _ _ _ h5
    rw [e0] at hr
    have h7 := Option.some.inj h6
    have k1 : seenQ s₀ t₁.abs = true := congrArg Prod.fst h7
    have k2 := congrArg Prod.snd h7
    have hop : openEnds treeTable pw w 6000 = some t₁.abs := by
      unfold openEnds
      rw [hf]
      show topFrom treeTable pw w 6000 s₀ = _
      unfold topFrom
      rw [hg]
      show (topRun treeTable pw w s₀.heap.objs.size (s₀.heap.nsMap mainGlobals "__annotations__") 6000 s₀ (topStub pw)).bind _ = _
      rw [hr]
      show (match seenQ s₀ t₁.abs with | true => some t₁.abs | false => none) = _
      rw [k1]
    show (openEnds treeTable pw w 6000).map _ = _
    rw [hop]
    exact congrArg some k2

noncomputable abbrev Γ₀ : Ctx := ⟨.builtin "claim.caller" {}, none, none, [], none⟩
noncomputable abbrev rw0 : OpenLaw := PySem.Challenge.rw_oc0289_01

theorem said : rw0.wellSaid = true := by
  unfold OpenLaw.wellSaid OpenRow.wellSaid OpenRow.partSaid looksOpen
  repeat' (with_reducible refine look_both ?_ ?_)
  all_goals decide +kernel
theorem said_row : rw0.row.wellSaid = true := row_said said
theorem bareOk : rw0.row.toRowW.prog.bare := ⟨rfl, rfl, rfl, rfl, rfl, by decide +kernel⟩
theorem opensOk : opensWell pw = true := by kernel_rfl
theorem promisedOk : rw0.row.toRowW.promised := ⟨[.list []], by decide +kernel, by decide +kernel⟩
theorem chOk : chainsOk qv = true := by kernel_rfl
end Mine
end
noncomputable section
open PySem PySem.W PyProof.Rows
set_option maxRecDepth 100000
set_option maxHeartbeats 8000000
set_option linter.unusedVariables false
namespace Mine
/-- what is known where the law is called -/
structure AtLaw (w : World) (s : Shared) (a : Addr) (vs : List Value) (ns : List Int) : Prop where
  top : ∀ b o, (topT w.params).get b = some o → s.heap.get? b = some o
  tab : s.heap.get? 773 = some (o773 w.params)
  lst : s.heap.get? a = some ⟨.type "list", none, .seq vs.toArray 0, #[]⟩
  areInts : IntsAre vs ns
  low : 828 ≤ a
  gens : s.gens = #[]
/-- what the law's call must leave -/
noncomputable def LawEnds (s : Shared) (r : Result) (s' : Shared) : Prop :=
  r = .ok (.ret (.bool true)) ∧ (∀ b o, s.heap.get? b = some o → b ≠ 773 → s'.heap.get? b = some o) ∧ (∃ more, s'.heap.get? 773 = some ⟨.none, none, .fields more, #[]⟩) ∧ s'.os = s.os ∧ AllBare s'.gens
noncomputable def MainGoal : Prop := ∀ (w : World) (s : Shared) (a : Addr) (vs : List Value) (ns : List Int), AtLaw w s a vs ns → ∀ p, wpCode (MM w) (Γ₀.enter (.call (.ref 827) ⟨[.ref a], []⟩) none p) (LawEnds s) p s

theorem tk_get : ∀ {t : TK} {a : Nat} {o : Obj}, t.get a = some o → (a, o) ∈ t.all := by
  intro t
  induction t with
  | leaf => intro a o h; cases h
  | node k x l r il ir =>
    intro a o h
    have h : (match Nat.beq a k with | true => some x | false => match Nat.blt a k with | true => l.get a | false => r.get a) = some o := h
    show (a, o) ∈ l.all ++ (k, x) :: r.all
    cases e : Nat.beq a k with
    | true =>
      rw [e] at h
      cases h
      have := Nat.eq_of_beq_eq_true e
      subst this
      simp
    | false =>
      rw [e] at h
      cases q : Nat.blt a k with
      | true => rw [q] at h; exact List.mem_append.mpr (.inl (il h))
      | false => rw [q] at h; exact List.mem_append.mpr (.inr (List.mem_cons_of_mem _ (ir h)))
theorem topAs_is (P : Params) : topAs = (topT P).all.map (·.1) := by kernel_rfl
theorem map_mem {h : Heap} : ∀ {l : List (Nat × Obj)}, (l.map (·.1)).map h.get? = l.map (fun p => some p.2) → ∀ {a o}, (a, o) ∈ l → h.get? a = some o := by
  intro l
  induction l with
  | nil => intro _ a o h; cases h
  | cons x l ih =>
    intro e a o hm
    simp only [List.map_cons, List.cons.injEq] at e
    rcases List.mem_cons.mp hm with rfl | hm
    · exact e.1
    · exact ih e.2 hm

theorem lay_list {R : WRecords} {cl : PySem.Str → Option Addr} {P : Params} {ord : List DictEntry → List DictEntry} : ∀ (ns : List Int) (s : Shared), ∃ vs, layAllW R cl P ord (ns.map WData.int) s = some (vs, { s with toks := s.toks + ns.length }) ∧ IntsAre vs ns := by
  intro ns
  induction ns with
  | nil => intro s; exact ⟨[], by simp [layAllW], .nil⟩
  | cons n ns ih =>
    intro s
    obtain ⟨vs, e, i⟩ := ih { s with toks := s.toks + 1 }
    refine ⟨.int n s.toks :: vs, ?_, .cons n _ i⟩
    simp only [List.map_cons, layAllW, layW, e]
    simp [Nat.add_assoc, Nat.add_comm 1]
theorem ints_of {R : WRecords} : ∀ (xs : List WData), WShape.hasItems R xs .int = true → ∃ ns : List Int, xs = ns.map WData.int := by
  intro xs
  induction xs with
  | nil => intro _; exact ⟨[], rfl⟩
  | cons x xs ih =>
    intro h
    simp only [WShape.hasItems, Bool.and_eq_true] at h
    obtain ⟨ns, rfl⟩ := ih h.2
    cases x with
    | int n => exact ⟨n :: ns, rfl⟩
    | _ => simp [WShape.has, WShape.arms] at h
theorem args_of {args : List WData} (h : rw0.row.toRowW.claim.pre args = true) : ∃ ns : List Int, args = [.list (ns.map WData.int)] := by
  have h : (WShape.hasAll [] args [.list .int] && _) = true := h
  have h := (Bool.and_eq_true_iff.mp h).1
  match args, h with
  | [], h => simp [WShape.hasAll] at h
  | [x], h =>
    simp only [WShape.hasAll, Bool.and_eq_true] at h
    cases x with
    | list xs =>
      have h1 := h.1
      simp only [WShape.has, WShape.arms, List.any_cons, List.any_nil, Bool.or_false] at h1
      obtain ⟨ns, rfl⟩ := ints_of xs h1
      exact ⟨ns, rfl⟩
    | _ => simp [WShape.has, WShape.arms] at h
  | x :: y :: r, h => simp [WShape.hasAll] at h

theorem oldK_of {w : World} {s s' : Shared} {a : Addr} {vs : List Value} {ns : List Int} (A : AtLaw w s a vs ns) {r : Result} (L : LawEnds s r s') : OldK s.heap s'.heap := by
  obtain ⟨_, hk, ⟨more, h7⟩, _, _⟩ := L
  have h777 : s.heap.get? 777 = some (o777 w.params) := A.top 777 _ (by kernel_rfl)
  refine ⟨fun b o e => ?_, fun b o e => ?_⟩
  · by_cases hb : b = 773
    · subst hb
      have : o = o773 w.params := Option.some.inj (e.symm.trans A.tab)
      subst this
      refine .inr (.inl ⟨⟨777, _, _, h777, rfl, rfl, rfl⟩, rfl, #[], more, rfl, ?_⟩)
      rw [h7]; simp [o773]
    · exact .inl (hk b o e hb)
  · by_cases hb : b = 773
    · subst hb; exact ⟨_, h7⟩
    · exact ⟨o, hk b o e hb⟩

theorem stub_goes {w : World} {s : Shared} {a : Addr} {vs : List Value} {ns : List Int} (A : AtLaw w s a vs ns) {Q : Fin → Pos → Shared → Prop} {E : Value → Pos → Shared → Prop}
    (h : ∀ p, wpCode (MM w) (Γ₀.enter (.call (.ref 827) ⟨[.ref a], []⟩) none p) (LawEnds s) p s)
    (hQ : ∀ p s', LawEnds s (.ok (.ret (.bool true))) s' → Q (.done (.ret (.bool true))) p s') (p : Pos) :
    Sem.wp (MM w) Γ₀ (do match ← nsGet mainNs "law" with
      | some f => do ret (← call f [.ref a])
      | none => unsupported "claim.caller:no-such-global") Q E p s := by
  have h3 : s.heap.get? mainNs = some (o3 w.params) := A.top 3 _ (by kernel_rfl)
  have hn : s.heap.isNs mainNs = true := by
    unfold Heap.isNs
    rw [h3]; kernel_rfl
  have hm : s.heap.nsMap mainNs "law" = some (.ref 827) := by
    unfold Heap.nsMap
    rw [h3]; kernel_rfl
  rw [Sem.wp_bind']
  rw [Sem.wp_nsGet (MM w) Γ₀ E p s (.of_isNs hn)]
  rw [hm]
  show Sem.wp (MM w) Γ₀ ((call (.ref 827) [.ref a]) >>= fun v => ret v) Q E p s
  rw [Sem.wp_bind']
  show Sem.wp (MM w) Γ₀ (runValue (.call (.ref 827) ⟨[.ref a], []⟩)) _ E p s
  unfold runValue
  rw [Sem.wp_bind']
  unfold run
  rw [Sem.wp_call]
  refine wpCode_mono ?_ (h p)
  intro r s' L
  have e := L.1
  subst e
  exact hQ p s' L

theorem holds_of (main : MainGoal) : PySem.Challenge.rw_oc0289_01.Holds := by
  refine ⟨said, said_row, promisedOk, ⟨bareOk, opensOk, rfl⟩, ⟨[.list []], by decide +kernel, by decide +kernel⟩, fun w => ?_⟩
  have B := LeftO.behind (XP := fun _ _ => True) left (fun _ _ => trivial) chOk w
  refine ⟨B.1, fun s hs => ?_⟩
  obtain ⟨s₀, hf, hg0, s₁, hT, hz, hgens, hns, G, y⟩ := B.2 s hs
  have y1 : topAs.map s₁.heap.get? = (topT w.params).all.map (fun p => some p.2) := congrArg Prod.fst y
  have y2 : s₁.heap.get? 773 = some (o773 w.params) := congrArg (fun z => z.2.1) y
  have y3 : s₁.heap.objs.size = 828 := congrArg (fun z => z.2.2.1) y
  rw [topAs_is w.params] at y1
  have top : ∀ b o, (topT w.params).get b = some o → s₁.heap.get? b = some o := fun b o e => map_mem y1 (tk_get e)
  have hgens : s₁.gens = #[] := Array.eq_empty_of_size_eq_zero (beq_iff_eq.mp hgens)
  have h3 : s₁.heap.get? mainNs = some (o3 w.params) := top 3 _ (by kernel_rfl)
  have h827 : s₁.heap.get? 827 = some (o827 w.params) := top 827 _ (by kernel_rfl)
  refine ⟨s₀, hf, hg0, s₁, hT, fun n hn => ?_, (fun x hx => nomatch hx), (fun x hx => nomatch hx), ?_⟩
  · have : n = "law" := by
      have : n ∈ [("law" : PySem.Str)] := hn
      simpa using this
    subst this
    refine ⟨827, _, _, _, _, _, ?_, h827, rfl, ?_, rfl, rfl, rfl, rfl, rfl, rfl, rfl, rfl, ?_⟩
    · unfold globalOf
      rw [h3]; kernel_rfl
    · show Program.theDef pw "law" = some (fArgs [40], fBody [40], fScope [40])
      kernel_rfl
    · exact ⟨.inl ⟨by kernel_rfl, rfl⟩, [], by kernel_rfl, .inl ⟨rfl, rfl⟩⟩
  · intro args hpre hlay ord hord
    obtain ⟨ns, rfl⟩ := args_of hpre
    obtain ⟨vs, hl, hi⟩ := lay_list (R := rw0.row.toRowW.claim.records) (cl := classAt s₁.heap) (P := w.params) (ord := ord) ns s₁
    have hlaid : layAllW rw0.row.toRowW.claim.records (classAt s₁.heap) w.params ord [.list (ns.map WData.int)] s₁ =
        some ([.ref s₁.heap.objs.size], { s₁ with heap := s₁.heap.push { cls := .type "list", data := .seq vs.toArray }, toks := s₁.toks + ns.length }) := by
      simp only [layAllW, layW, hl]
    generalize hs2 : ({ s₁ with heap := s₁.heap.push { cls := .type "list", data := .seq vs.toArray }, toks := s₁.toks + ns.length } : Shared) = s₂ at hlaid
    have eh : s₂.heap = s₁.heap.push { cls := .type "list", data := .seq vs.toArray } := by rw [← hs2]
    have keeps := layAllW_keeps _ _ _ hlaid
    have hal := layAllW_rest _ _ _ hlaid
    obtain ⟨as, hrd, hin, hold⟩ := reads_layAllW hord _ _ _ hlaid hlay s₂.heap (fun _ _ e => e)
    have L : Laid rw0.row.toRowW.claim.records w s₁ s₂ [.list (ns.map WData.int)] [.ref s₁.heap.objs.size] as := ⟨⟨ord, hord, hlaid⟩, hrd, hin, hold, keeps, hal.1.trans hgens, hal.2.2.1⟩
    have A : AtLaw w s₂ s₁.heap.objs.size vs ns := by
      refine ⟨fun b o e => keeps _ _ (top b o e), keeps _ _ y2, ?_, hi, by rw [y3]; exact Nat.le_refl _, hal.1.trans hgens⟩
      rw [eh]; exact Heap.get?_push_size _ rfl
    refine ⟨_, _, hlaid, ?_⟩
    have hlast := wp_halts_full (M := MM w) (c := .builtin "claim.caller" {}) (p := default) (s := s₂)
      (t := (do match ← nsGet mainNs "law" with
        | some f => do ret (← call f [.ref s₁.heap.objs.size])
        | none => unsupported "claim.caller:no-such-global"))
      (R := fun r s' => r = .ok (.ret (.bool true)) ∧ rw0.row.toRowW.claim.Ends s₁ [.list (ns.map WData.int)] [.ref s₁.heap.objs.size] s₂ r s' ∧ s'.os = s₁.os)
      (Shared.asleep_of_life hal.2.2.2 hz) (stub_goes A (fun p => main w s₂ _ vs ns A p) (fun p s' E => by
        have g : GoodWG rw0.row.toRowW.claim (classAt s₁.heap) (ExcName.means s₁.heap) [.list (ns.map WData.int)] s₂ (.ok (.ret (.bool true))) s' :=
          ⟨.inl ⟨_, .bool true, [], rfl, fun _ => rfl, ReadsW.bool true, (by kernel_rfl), fun _ => ⟨List.nodup_nil, fun _ hm => (nomatch hm)⟩⟩, oldK_of A E, E.2.2.2.1, E.2.2.2.2⟩
        have z := g.laid (c := rw0.row.toRowW.claim) rfl rfl (ident_freeW rfl rfl rfl) L
        exact ⟨⟨rfl, z.1, z.2.1⟩, leftWithCleanup_false_of_bare z.2.2⟩) default)
    obtain ⟨n, r, s', s'', hsch, hrun, hfo, rfl, hE, hos⟩ := hlast
    obtain ⟨e1, _, _, e4, _⟩ := Shared.forget_eq hfo
    have hE' := hE.congr e1
    refine ⟨n, _, s'', hsch, ?_, (fun _ i x hx => by rw [hgens] at hx; simp at hx), (fun h => by cases h), ?_, ?_⟩
    · rcases hE' with ⟨v, hv, d1, d2, d3, d4, d5⟩ | ⟨e, ob, cls, hv, _⟩
      · cases hv
        exact .inl ⟨_, rfl, d1, d2, d3, fun b o y _ => d4 b o y, d5⟩
      · cases hv
    · have hlife : s''.heap.life = s₁.heap.life := (runN_life _ _ _ hrun).trans hal.2.2.2
      rw [hlife]
    · exact Shared.rest_eq (e4.trans hos)
end Mine
end
noncomputable section
open PySem PySem.W PyProof.Rows
set_option maxRecDepth 100000
set_option linter.unusedVariables false
namespace Mine

inductive K where
  | base
  | ret (Γ : Ctx) (p : Pos) (k : Result → Sem Fin) (κ : K)
  | gen (g : Nat) (Γ : Ctx) (p : Pos) (k : GenResult → Sem Fin) (κ : K)

structure Conf where
  Γ : Ctx
  p : Pos
  t : Sem Fin
  κ : K
  led : List (Addr × Obj)
  nx : Nat
  toks : Nat
  gens : List GenState

inductive Ev where
  | t
  | l (a : Nat)
  | i (k : Nat)
  | c (b : Bool)
  | n (i j q : Nat)
  | e (i j : Nat)
  | p (i : Nat)
  | x

structure Out where
  ok : Bool
  c : Conf
  ob : List (Addr × Addr)
  pr : List Prop

noncomputable def sL : List (Addr × Obj) → Nat → (Obj → Obj) → List (Addr × Obj)
  | [], _, _ => []
  | y :: r, n, f => match n with
    | 0 => (y.1, f y.2) :: r
    | m + 1 => y :: sL r m f
noncomputable def gL : List (Addr × Obj) → Nat → Option (Addr × Obj)
  | [], _ => none
  | y :: r, n => match n with
    | 0 => some y
    | m + 1 => gL r m
noncomputable def nthG : List GenState → Nat → Option GenState
  | [], _ => none
  | y :: r, n => match n with
    | 0 => some y
    | m + 1 => nthG r m
noncomputable def setG : List GenState → Nat → GenState → List GenState
  | [], _, _ => []
  | y :: r, n, z => match n with
    | 0 => z :: r
    | m + 1 => y :: setG r m z
noncomputable def cmpOf (id : String) (a b : Int) : Option Prop :=
  if id = "int.__lt__" then some (a < b) else if id = "int.__gt__" then some (a > b) else if id = "int.__le__" then some (a ≤ b) else if id = "int.__ge__" then some (a ≥ b)
  else if id = "int.__eq__" then some (a = b) else if id = "int.__ne__" then some (a ≠ b) else none

structure Env0 where
  den : Code → Sem Fin
  S : Setting
  top : Nat → Option Obj
  x : Nat → Addr
  it : Nat → Value

noncomputable def iterObj (l : Value) (m : Int) : Obj := ⟨.type "list_iterator", none, .fields #[l, .int m 0], #[]⟩
noncomputable def tupObj (vs : List Value) : Obj := ⟨.type "tuple", none, .seq vs.toArray 0, #[]⟩
noncomputable def stopObj (t : Addr) : Obj := ⟨.type "StopIteration", none, .fields #[.ref t, .none, .none, .none, .bool false, .none], #[]⟩
noncomputable def idxI (o : Obj) : Int := match o.data with
  | .fields ⟨[_, .int m _]⟩ => m
  | _ => 0
noncomputable def refI (o : Obj) : Nat := match o.data with
  | .fields ⟨.ref l :: _⟩ => l
  | _ => 0
noncomputable def bumpI (l : Addr) (o : Obj) : Obj := iterObj (.ref l) (idxI o + 1)
noncomputable def endI (o : Obj) : Obj := iterObj .none (idxI o)
/-- a list with one more item -/
noncomputable def pushO (v : Value) (o : Obj) : Obj := match o with
  | ⟨c, d, .seq xs n, sl⟩ => ⟨c, d, .seq (xs.push v) (n + 1), sl⟩
  | o => o
noncomputable def PushP (o : Obj) : Prop := ∃ xs n, o = ⟨.type "list", none, .seq xs n, #[]⟩ ∧ xs.size ≤ sizeLine
/-- an iterator of a list of the ledger's, and what it comes on -/
noncomputable def NextP (oi ol : Obj) (l : Addr) (v : Value) : Prop := ∃ xs n dd sl, oi = iterObj (.ref l) (idxI oi) ∧ ol = ⟨.type "list", dd, .seq xs n, sl⟩ ∧ xs[(idxI oi).toNat]? = some v
noncomputable def EndP (oi ol : Obj) (l : Addr) : Prop := ∃ xs n dd sl, oi = iterObj (.ref l) (idxI oi) ∧ ol = ⟨.type "list", dd, .seq xs n, sl⟩ ∧ xs[(idxI oi).toNat]? = none

noncomputable def retV (f : Flow) : Value := match f with | .ret v => v | _ => .none

noncomputable def tick (E : Env0) : Conf → Option Conf
  | ⟨Γ, p, t, κ, led, nx, toks, gens⟩ => match t with
    | .pure fin => match fin with
      | .done f => match κ with
        | .base => none
        | .ret Γ' p' k κ' => some ⟨Γ', p', k (.ok f), κ', led, nx, toks, gens⟩
        | .gen g Γ' p' k κ' => some ⟨Γ', p', k (.returned (retV f)), κ', led, nx, toks, setG gens g .finished⟩
      | .again d => match d.quiet with
        | true => some ⟨Γ.goto d, p, E.den d, κ, led, nx, toks, gens⟩
        | false => none
    | .raise e => match κ with
      | .base => none
      | .ret Γ' p' k κ' => some ⟨Γ', p', k (.error e), κ', led, nx, toks, gens⟩
      | .gen g Γ' p' k κ' => some ⟨Γ', p', k (.raised e), κ', led, nx, toks, setG gens g .finished⟩
    | .rule _ k => some ⟨Γ, p, k (), κ, led, nx, toks, gens⟩
    | .at p' k => some ⟨Γ, p', k (), κ, led, nx, toks, gens⟩
    | .point _ k => some ⟨Γ, p, k (), κ, led, nx, toks, gens⟩
    | .ask k => some ⟨Γ, p, k E.S, κ, led, nx, toks, gens⟩
    | .fresh k => some ⟨Γ, p, k toks, κ, led, nx, toks + 1, gens⟩
    | .stack k => some ⟨Γ, p, k ((Γ.code, p) :: Γ.below), κ, led, nx, toks, gens⟩
    | .handled own k => some ⟨Γ, p, k (if own then Γ.own else Γ.handled), κ, led, nx, toks, gens⟩
    | .thread k => some ⟨Γ, p, k 0, κ, led, nx, toks, gens⟩
    | .alloc o k => match o.isFreed with
      | false => some ⟨Γ, p, k (E.x nx), κ, led ++ [(E.x nx, o)], nx + 1, toks, gens⟩
      | true => none
    | .call d h _ _ k => some ⟨Γ.enter d h p, p, E.den d, .ret Γ p k κ, led, nx, toks, gens⟩
    | .newGen d k => some ⟨Γ, p, k gens.length, κ, led, nx, toks, gens ++ [.fresh d]⟩
    | .genState g k => match nthG gens g with
      | some st => some ⟨Γ, p, k st.seen, κ, led, nx, toks, gens⟩
      | none => none
    | .resume g r _ k => match nthG gens g with
      | some (.fresh c₀) => match r with
        | .send .none => some ⟨Γ.wake c₀ p, p, E.den c₀, .gen g Γ p k κ, led, nx, toks, setG gens g .running⟩
        | _ => none
      | some (.suspended k₀ _ c₀ p₀ fs _) => match fs with
        | [] => some ⟨Γ.wake c₀ p, p₀, k₀ r, .gen g Γ p k κ, led, nx, toks, setG gens g .running⟩
        | _ :: _ => none
      | _ => none
    | .yield v gd l kk => match κ with
      | .gen g Γ' p' k κ' => match gd with
        | false => some ⟨Γ', p', k (.yielded v), κ', led, nx, toks, setG gens g (.suspended kk l Γ.code p [] false)⟩
        | true => none
      | _ => none
    | _ => none

noncomputable def step1 (E : Env0) (e : Ev) (c : Conf) (ob : List (Addr × Addr)) (pr : List Prop) : Option (Conf × List (Addr × Addr) × List Prop) := match e with
  | .t => match tick E c with
    | some c' => some (c', ob, pr)
    | none => none
  | .l n => match c with
    | ⟨Γ, p, t, κ, led, nx, toks, gens⟩ => match E.top n with
      | some o => match t with
        | .load a _ k => some (⟨Γ, p, k o, κ, led, nx, toks, gens⟩, (a, n) :: ob, pr)
        | .loadIfAlive a k => some (⟨Γ, p, k (some o), κ, led, nx, toks, gens⟩, (a, n) :: ob, pr)
        | _ => none
      | none => none
  | .i n => match c with
    | ⟨Γ, p, t, κ, led, nx, toks, gens⟩ => match gL led n with
      | some y => match t with
        | .load a _ k => some (⟨Γ, p, k y.2, κ, led, nx, toks, gens⟩, (a, y.1) :: ob, pr)
        | .loadIfAlive a k => some (⟨Γ, p, k (some y.2), κ, led, nx, toks, gens⟩, (a, y.1) :: ob, pr)
        | .update a _ f k => match (f y.2).isFreed with
          | false => some (⟨Γ, p, k (), κ, sL led n f, nx, toks, gens⟩, (a, y.1) :: ob, pr)
          | true => none
        | _ => none
      | none => none
  | .c b => match c with
    | ⟨Γ, p, t, κ, led, nx, toks, gens⟩ => match t with
      | .call (.call (.builtin id) ⟨[.int x _, .int y _], []⟩) _ _ _ k => match cmpOf id x y with
        | some P => some (⟨Γ, p, k (.ok (.ret (.bool b))), κ, led, nx, toks, gens⟩, ob, (P = (b = true)) :: pr)
        | none => none
      | _ => none
  | .n i j q => match c with
    | ⟨Γ, p, t, κ, led, nx, toks, gens⟩ => match gL led i with
      | some y => match gL led j with
        | some z => match t with
          | .call (.call (.builtin id) ⟨[.ref a], []⟩) _ _ _ k => match decide (id = "list_iterator.__next__") with
            | true => some (⟨Γ, p, k (.ok (.ret (E.it q))), κ, sL led i (bumpI z.1), nx, toks, gens⟩, (a, y.1) :: ob, NextP y.2 z.2 z.1 (E.it q) :: pr)
            | false => none
          | _ => none
        | none => none
      | none => none
  | .e i j => match c with
    | ⟨Γ, p, t, κ, led, nx, toks, gens⟩ => match gL led i with
      | some y => match gL led j with
        | some z => match t with
          | .call (.call (.builtin id) ⟨[.ref a], []⟩) none _ _ k => match decide (id = "list_iterator.__next__") with
            | true => match Γ.handled with
              | none => some (⟨Γ, p, k (.error (.ref (E.x (nx + 1)))), κ, sL led i endI ++ [(E.x nx, tupObj []), (E.x (nx + 1), stopObj (E.x nx))], nx + 2, toks, gens⟩, (a, y.1) :: ob, EndP y.2 z.2 z.1 :: pr)
              | some _ => none
            | false => none
          | _ => none
        | none => none
      | none => none

  | .p i => match c with
    | ⟨Γ, p, t, κ, led, nx, toks, gens⟩ => match gL led i with
      | some y => match t with
        | .call (.call (.builtin id) ⟨[.ref a, v], []⟩) _ _ _ k => match decide (id = "list.append") with
          | true => some (⟨Γ, p, k (.ok (.ret .none)), κ, sL led i (pushO v), nx, toks, gens⟩, (a, y.1) :: ob, PushP y.2 :: pr)
          | false => none
        | _ => none
      | none => none
  | .x => none

noncomputable def findA : List (Addr × Obj) → Nat → Nat → Option Nat
  | [], _, _ => none
  | y :: r, a, n => match Nat.beq a y.1 with
    | true => some n
    | false => findA r a (n + 1)
noncomputable def evA (led : List (Addr × Obj)) (a : Nat) : Ev := match findA led a 0 with
  | some n => .i n
  | none => .l a
noncomputable def cmpB (id : String) (a b : Int) : Option Bool :=
  if id = "int.__lt__" then some (decide (a < b)) else if id = "int.__gt__" then some (decide (a > b)) else if id = "int.__le__" then some (decide (a ≤ b)) else if id = "int.__ge__" then some (decide (a ≥ b))
  else if id = "int.__eq__" then some (decide (a = b)) else if id = "int.__ne__" then some (decide (a ≠ b)) else none
/-- what a path takes for granted: comparisons of ints; the items of a list -/
structure Mode where
  cm : Bool
  nm : Bool
noncomputable def itemsO (o : Obj) : Array Value := match o.data with
  | .seq xs _ => xs
  | _ => #[]
noncomputable def evNext (led : List (Addr × Obj)) (a q : Nat) : Ev × Value := match findA led a 0 with
  | some i => match gL led i with
    | some y => match findA led (refI y.2) 0 with
      | some j => match gL led j with
        | some z => match (itemsO z.2)[(idxI y.2).toNat]? with
          | some v => (.n i j q, v)
          | none => (.e i j, .none)
        | none => (.t, .none)
      | none => (.t, .none)
    | none => (.t, .none)
  | none => (.t, .none)
noncomputable def evOf (m : Mode) (q : Nat) : Conf → Ev × Value
  | ⟨_, _, t, _, led, _, _, _⟩ => match t with
    | .load a _ _ => (evA led a, .none)
    | .loadIfAlive a _ => (evA led a, .none)
    | .update a _ _ _ => (evA led a, .none)
    | .call (.call (.builtin id) ⟨[.int x _, .int y _], []⟩) _ _ _ _ => match m.cm with
      | true => match cmpB id x y with
        | some b => (.c b, .none)
        | none => (.t, .none)
      | false => (.t, .none)
    | .call (.call (.builtin id) ⟨[.ref a], []⟩) _ _ _ _ => match m.nm with
      | true => match decide (id = "list_iterator.__next__") with
        | true => evNext led a q
        | false => (.t, .none)
      | false => (.t, .none)
    | .call (.call (.builtin id) ⟨[.ref a, _], []⟩) _ _ _ _ => match m.nm with
      | true => match decide (id = "list.append") with
        | true => match findA led a 0 with
          | some i => (.p i, .none)
          | none => (.t, .none)
        | false => (.t, .none)
      | false => (.t, .none)
    | _ => (.t, .none)
noncomputable def nextQ : Ev → Nat → Nat
  | .n .., q => q + 1
  | _, q => q
end Mine
end
noncomputable section
open PySem PySem.W PyProof.Rows
set_option maxRecDepth 100000
set_option linter.unusedVariables false
namespace Mine

noncomputable def Post (M : Model) (R : Result → Shared → Prop) : K → End → Shared → Prop
  | .base, e, s => ∃ r, e = .ret r ∧ R r s
  | .ret Γ p k κ, e, s => ∃ r, e = .ret r ∧ ∃ e' s', Runs M Γ p (k r) [] s e' s' ∧ Post M R κ e' s'
  | .gen g Γ p k κ, e, s => e.quiet = true ∧ ∃ e' s', Runs M Γ p (k e.result) [] (s.setGen g e.genState) e' s' ∧ Post M R κ e' s'

noncomputable def Goes (M : Model) (R : Result → Shared → Prop) (Γ : Ctx) (p : Pos) (t : Sem Fin) (κ : K) (s : Shared) : Prop := ∃ e s', Runs M Γ p t [] s e s' ∧ Post M R κ e s'

/-- what a run that began at `s₀` with the ledger `L₀` knows of the state `s` -/
structure Rep (E : Env0) (s₀ : Shared) (L₀ : List Addr) (c : Conf) (s : Shared) : Prop where
  led : ∀ n y, gL c.led n = some y → s.heap.get? y.1 = some y.2
  nodup : (c.led.map (·.1)).Nodup
  top : ∀ a o, E.top a = some o → s.heap.get? a = some o
  off : ∀ a o, E.top a = some o → ∀ y ∈ c.led, y.1 ≠ a
  fresh : ∀ j, E.x (c.nx + j) = s.heap.objs.size + j
  newer : ∀ y ∈ c.led, y.1 ∈ L₀ ∨ s₀.heap.objs.size ≤ y.1
  size : s₀.heap.objs.size ≤ s.heap.objs.size
  keep : ∀ b o, s₀.heap.get? b = some o → b ∉ L₀ → s.heap.get? b = some o
  tk : s.toks = c.toks
  gn : s.gens = c.gens.toArray
  dr : s.drawn = s₀.drawn
  os : s.os = s₀.os

theorem getL_mem {y : Addr × Obj} : ∀ {l : List (Addr × Obj)} {n : Nat}, gL l n = some y → y ∈ l := by
  intro l
  induction l with
  | nil => intro n h; cases h
  | cons x r ih =>
    intro n h
    cases n with
    | zero =>
      have : some x = some y := h
      cases this
      exact List.mem_cons_self
    | succ n => exact List.mem_cons_of_mem _ (ih (n := n) h)
theorem mem_getL {y : Addr × Obj} : ∀ {l : List (Addr × Obj)}, y ∈ l → ∃ n, gL l n = some y := by
  intro l
  induction l with
  | nil => intro h; cases h
  | cons x r ih =>
    intro h
    rcases List.mem_cons.mp h with rfl | h
    · exact ⟨0, rfl⟩
    · obtain ⟨n, e⟩ := ih h
      exact ⟨n + 1, e⟩
theorem setL_fst (f : Obj → Obj) : ∀ (l : List (Addr × Obj)) (n : Nat), (sL l n f).map (·.1) = l.map (·.1) := by
  intro l
  induction l with
  | nil => intro n; rfl
  | cons x r ih =>
    intro n
    cases n with
    | zero => rfl
    | succ n =>
      show x.1 :: (sL r n f).map (·.1) = x.1 :: r.map (·.1)
      rw [ih n]
theorem setL_mem {f : Obj → Obj} {y z : Addr × Obj} : ∀ {l : List (Addr × Obj)} {n : Nat}, (l.map (·.1)).Nodup → gL l n = some y → z ∈ sL l n f → z = (y.1, f y.2) ∨ (z ∈ l ∧ z.1 ≠ y.1) := by
  intro l
  induction l with
  | nil => intro n _ h; cases h
  | cons x r ih =>
    intro n nd h hz
    rw [List.map_cons, List.nodup_cons] at nd
    cases n with
    | zero =>
      have : some x = some y := h
      cases this
      have hz : z ∈ (y.1, f y.2) :: r := hz
      rcases List.mem_cons.mp hz with rfl | hz
      · exact .inl rfl
      · refine .inr ⟨List.mem_cons_of_mem _ hz, fun e => ?_⟩
        exact nd.1 (e ▸ List.mem_map_of_mem hz)
    | succ n =>
      have h : gL r n = some y := h
      have hz : z ∈ x :: sL r n f := hz
      rcases List.mem_cons.mp hz with rfl | hz
      · refine .inr ⟨List.mem_cons_self, fun e => nd.1 ?_⟩
        rw [e]; exact List.mem_map_of_mem (getL_mem h)
      · rcases ih nd.2 h hz with e | ⟨h1, h2⟩
        · exact .inl e
        · exact .inr ⟨List.mem_cons_of_mem _ h1, h2⟩
theorem nthG_eq : ∀ (l : List GenState) (n : Nat), nthG l n = l[n]? := by
  intro l
  induction l with
  | nil => intro n; rfl
  | cons x r ih =>
    intro n
    cases n with
    | zero => rfl
    | succ n =>
      rw [List.getElem?_cons_succ]
      exact ih n
theorem setG_eq (z : GenState) : ∀ (l : List GenState) (n : Nat), setG l n z = l.set n z := by
  intro l
  induction l with
  | nil => intro n; rfl
  | cons x r ih =>
    intro n
    cases n with
    | zero => rfl
    | succ n =>
      show x :: setG r n z = x :: r.set n z
      rw [ih n]

section
variable {M : Model} {R : Result → Shared → Prop} {E : Env0} {s₀ : Shared} {L₀ : List Addr} {s : Shared}

/-- same objects, other words: the state is unchanged -/
theorem Rep.same {Γ p t κ led nx toks gens Γ' p' t' κ'} (h : Rep E s₀ L₀ ⟨Γ, p, t, κ, led, nx, toks, gens⟩ s) : Rep E s₀ L₀ ⟨Γ', p', t', κ', led, nx, toks, gens⟩ s :=
  ⟨h.led, h.nodup, h.top, h.off, h.fresh, h.newer, h.size, h.keep, h.tk, h.gn, h.dr, h.os⟩
theorem Rep.tok {Γ p t κ led nx toks gens Γ' p' t' κ'} (h : Rep E s₀ L₀ ⟨Γ, p, t, κ, led, nx, toks, gens⟩ s) : Rep E s₀ L₀ ⟨Γ', p', t', κ', led, nx, toks + 1, gens⟩ { s with toks := s.toks + 1 } :=
  ⟨h.led, h.nodup, h.top, h.off, h.fresh, h.newer, h.size, h.keep, congrArg (· + 1) h.tk, h.gn, h.dr, h.os⟩
theorem Rep.gens' {Γ p t κ led nx toks gens Γ' p' t' κ' gens'} (h : Rep E s₀ L₀ ⟨Γ, p, t, κ, led, nx, toks, gens⟩ s) : Rep E s₀ L₀ ⟨Γ', p', t', κ', led, nx, toks, gens'⟩ { s with gens := gens'.toArray } :=
  ⟨h.led, h.nodup, h.top, h.off, h.fresh, h.newer, h.size, h.keep, h.tk, rfl, h.dr, h.os⟩
theorem Rep.alloc {Γ p t κ led nx toks gens Γ' p' t' κ'} {o : Obj} (h : Rep E s₀ L₀ ⟨Γ, p, t, κ, led, nx, toks, gens⟩ s) (hf : o.isFreed = false) :
    Rep E s₀ L₀ ⟨Γ', p', t', κ', led ++ [(E.x nx, o)], nx + 1, toks, gens⟩ { s with heap := s.heap.push o } := by
  have hx : E.x nx = s.heap.objs.size := h.fresh 0
  have lt : ∀ y ∈ led, y.1 < s.heap.objs.size := fun y hy => by
    obtain ⟨n, e⟩ := mem_getL hy
    exact Heap.lt_size (h.led n y e)
  refine ⟨fun n y e => ?_, ?_, fun a o' e => Heap.get?_push_of_some _ (h.top a o' e), fun a o' e y hy => ?_, fun j => ?_, fun y hy => ?_, ?_, fun b o' e hb => Heap.get?_push_of_some _ (h.keep b o' e hb), h.tk, h.gn, h.dr, h.os⟩
  · rcases List.mem_append.mp (getL_mem e) with hy | hy
    · obtain ⟨m, e'⟩ := mem_getL hy
      exact Heap.get?_push_of_some _ (h.led m y e')
    · rw [List.mem_singleton.mp hy, hx]
      exact Heap.get?_push_size _ hf
  · rw [List.map_append]
    refine List.nodup_append.mpr ⟨h.nodup, by simp, fun a ha b hb => ?_⟩
    obtain ⟨y, hy, rfl⟩ := List.mem_map.mp ha
    have : b = E.x nx := by simpa using hb
    rw [this, hx]
    exact Nat.ne_of_lt (lt y hy)
  · rcases List.mem_append.mp hy with hy | hy
    · exact h.off a o' e y hy
    · rw [List.mem_singleton.mp hy]
      show E.x nx ≠ a
      rw [hx]
      exact Nat.ne_of_gt (Heap.lt_size (h.top a o' e))
  · show E.x (nx + 1 + j) = (s.heap.push o).objs.size + j
    rw [Heap.size_push, Nat.add_assoc, h.fresh (1 + j)]; exact (Nat.add_assoc ..).symm
  · rcases List.mem_append.mp hy with hy | hy
    · exact h.newer y hy
    · rw [List.mem_singleton.mp hy]
      refine .inr ?_
      show s₀.heap.objs.size ≤ E.x nx
      rw [hx]; exact h.size
  · show s₀.heap.objs.size ≤ (s.heap.push o).objs.size
    rw [Heap.size_push]; have := h.size; omega
theorem Rep.update {Γ p t κ led nx toks gens Γ' p' t' κ'} {n : Nat} {y : Addr × Obj} {f : Obj → Obj} (h : Rep E s₀ L₀ ⟨Γ, p, t, κ, led, nx, toks, gens⟩ s) (hy : gL led n = some y) (hf : (f y.2).isFreed = false) :
    Rep E s₀ L₀ ⟨Γ', p', t', κ', sL led n f, nx, toks, gens⟩ { s with heap := s.heap.update y.1 f } := by
  have hs : Heap.SameBut y.1 s.heap (s.heap.update y.1 f) := Heap.SameBut.update ..
  have at_ := h.led n y hy
  have fst := setL_fst f led n
  have mem : ∀ z ∈ sL led n f, ∃ z' ∈ led, z'.1 = z.1 := fun z hz => by
    have : z.1 ∈ (sL led n f).map (·.1) := List.mem_map_of_mem hz
    rw [fst] at this
    obtain ⟨z', h1, h2⟩ := List.mem_map.mp this
    exact ⟨z', h1, h2⟩
  refine ⟨fun m z e => ?_, ?_, fun a o' e => ?_, fun a o' e z hz => ?_, fun j => ?_, fun z hz => ?_, ?_, fun b o' e hb => ?_, h.tk, h.gn, h.dr, h.os⟩
  · rcases setL_mem h.nodup hy (getL_mem e) with rfl | ⟨h1, h2⟩
    · exact Heap.get?_update_self f at_ hf
    · obtain ⟨m', e'⟩ := mem_getL h1
      exact (hs.2 _ h2).trans (h.led m' z e')
  · show ((sL led n f).map (·.1)).Nodup
    rw [fst]; exact h.nodup
  · exact (hs.2 a (Ne.symm (h.off a o' e y (getL_mem hy)))).trans (h.top a o' e)
  · obtain ⟨z', h1, h2⟩ := mem z hz
    rw [← h2]; exact h.off a o' e z' h1
  · show E.x (nx + j) = (s.heap.update y.1 f).objs.size + j
    rw [hs.1]; exact h.fresh j
  · obtain ⟨z', h1, h2⟩ := mem z hz
    rw [← h2]; exact h.newer z' h1
  · show s₀.heap.objs.size ≤ (s.heap.update y.1 f).objs.size
    rw [hs.1]; exact h.size
  · have ne : b ≠ y.1 := by
      rintro rfl
      rcases h.newer y (getL_mem hy) with q | q
      · exact hb q
      · exact absurd (Heap.lt_size e) (Nat.not_lt.mpr q)
    exact (hs.2 b ne).trans (h.keep b o' e hb)

theorem Rep.put {Γ p t κ led nx toks gens Γ' p' t' κ'} {n : Nat} {y : Addr × Obj} {f : Obj → Obj} {h' : Heap} (h : Rep E s₀ L₀ ⟨Γ, p, t, κ, led, nx, toks, gens⟩ s) (hy : gL led n = some y) (hs : Heap.SameBut y.1 s.heap h') (hg : h'.get? y.1 = some (f y.2)) :
    Rep E s₀ L₀ ⟨Γ', p', t', κ', sL led n f, nx, toks, gens⟩ { s with heap := h' } := by
  have fst := setL_fst f led n
  have mem : ∀ z ∈ sL led n f, ∃ z' ∈ led, z'.1 = z.1 := fun z hz => by
    have : z.1 ∈ (sL led n f).map (·.1) := List.mem_map_of_mem hz
    rw [fst] at this
    obtain ⟨z', h1, h2⟩ := List.mem_map.mp this
    exact ⟨z', h1, h2⟩
  refine ⟨fun m z e => ?_, ?_, fun a o' e => ?_, fun a o' e z hz => ?_, fun j => ?_, fun z hz => ?_, ?_, fun b o' e hb => ?_, h.tk, h.gn, h.dr, h.os⟩
  · rcases setL_mem h.nodup hy (getL_mem e) with rfl | ⟨h1, h2⟩
    · exact hg
    · obtain ⟨m', e'⟩ := mem_getL h1
      exact (hs.2 _ h2).trans (h.led m' z e')
  · show ((sL led n f).map (·.1)).Nodup
    rw [fst]; exact h.nodup
  · exact (hs.2 a (Ne.symm (h.off a o' e y (getL_mem hy)))).trans (h.top a o' e)
  · obtain ⟨z', h1, h2⟩ := mem z hz
    rw [← h2]; exact h.off a o' e z' h1
  · show E.x (nx + j) = h'.objs.size + j
    rw [hs.1]; exact h.fresh j
  · obtain ⟨z', h1, h2⟩ := mem z hz
    rw [← h2]; exact h.newer z' h1
  · show s₀.heap.objs.size ≤ h'.objs.size
    rw [hs.1]; exact h.size
  · have ne : b ≠ y.1 := by
      rintro rfl
      rcases h.newer y (getL_mem hy) with q | q
      · exact hb q
      · exact absurd (Heap.lt_size e) (Nat.not_lt.mpr q)
    exact (hs.2 b ne).trans (h.keep b o' e hb)

/-- one event that asks nothing -/
theorem tick_sound (hd : E.den = M.den) (hS : E.S = ⟨M.prog, M.w.params⟩) {c c' : Conf} (h : tick E c = some c') (r : Rep E s₀ L₀ c s)
    (next : ∀ s', Rep E s₀ L₀ c' s' → Goes M R c'.Γ c'.p c'.t c'.κ s') : Goes M R c.Γ c.p c.t c.κ s := by
  obtain ⟨Γ, p, t, κ, led, nx, toks, gens⟩ := c
  cases t with
  | pure fin =>
    cases fin with
    | done f =>
      cases κ with
      | base => cases h
      | ret Γ' p' k κ' =>
        cases h
        obtain ⟨e, s', h1, h2⟩ := next s r.same
        exact ⟨_, _, .done, _, rfl, e, s', h1, h2⟩
      | gen g Γ' p' k κ' =>
        cases h
        obtain ⟨e, s', h1, h2⟩ := next _ (r.gens' (gens' := setG gens g .finished))
        refine ⟨_, _, .done, rfl, e, s', ?_, h2⟩
        have q : s.setGen g (End.ret (.ok f)).genState = { s with gens := (setG gens g .finished).toArray } := by
          show { s with gens := s.gens.setIfInBounds g .finished } = _
          rw [r.gn, setG_eq]; simp
        rw [q]
        have z : (End.ret (.ok f)).result = .returned (retV f) := by cases f <;> rfl
        rw [z]; exact h1
    | again d =>
      cases hq : d.quiet with
      | false => simp only [tick, hq] at h; cases h
      | true =>
        simp only [tick, hq] at h
        cases h
        obtain ⟨e, s', h1, h2⟩ := next s r.same
        exact ⟨e, s', .again hq (by rw [← hd]; exact h1), h2⟩
  | raise x =>
    cases κ with
    | base => cases h
    | ret Γ' p' k κ' =>
      cases h
      obtain ⟨e, s', h1, h2⟩ := next s r.same
      exact ⟨_, _, .raise, _, rfl, e, s', h1, h2⟩
    | gen g Γ' p' k κ' =>
      cases h
      obtain ⟨e, s', h1, h2⟩ := next _ (r.gens' (gens' := setG gens g .finished))
      refine ⟨_, _, .raise, rfl, e, s', ?_, h2⟩
      have q : s.setGen g (End.ret (.error x)).genState = { s with gens := (setG gens g .finished).toArray } := by
        show { s with gens := s.gens.setIfInBounds g .finished } = _
        rw [r.gn, setG_eq]; simp
      rw [q]; exact h1
  | rule tag k => cases h; obtain ⟨e, s', h1, h2⟩ := next s r.same; exact ⟨e, s', .rule h1, h2⟩
  | «at» p' k => cases h; obtain ⟨e, s', h1, h2⟩ := next s r.same; exact ⟨e, s', .at h1, h2⟩
  | point l k => cases h; obtain ⟨e, s', h1, h2⟩ := next s r.same; exact ⟨e, s', .point h1, h2⟩
  | ask k => cases h; obtain ⟨e, s', h1, h2⟩ := next s r.same; exact ⟨e, s', .ask (by rw [← hS]; exact h1), h2⟩
  | fresh k => cases h; obtain ⟨e, s', h1, h2⟩ := next _ r.tok; exact ⟨e, s', .fresh (by rw [r.tk]; rw [r.tk] at h1; exact h1), h2⟩
  | stack k => cases h; obtain ⟨e, s', h1, h2⟩ := next s r.same; exact ⟨e, s', .stack h1, h2⟩
  | handled own k => cases h; obtain ⟨e, s', h1, h2⟩ := next s r.same; exact ⟨e, s', .handled h1, h2⟩
  | thread k => cases h; obtain ⟨e, s', h1, h2⟩ := next s r.same; exact ⟨e, s', .thread h1, h2⟩
  | alloc o k =>
    cases hf : o.isFreed with
    | true => simp only [tick, hf] at h; cases h
    | false =>
      simp only [tick, hf] at h
      cases h
      obtain ⟨e, s', h1, h2⟩ := next _ (r.alloc hf)
      have hx : E.x nx = s.heap.objs.size := r.fresh 0
      exact ⟨e, s', .alloc (by rw [← hx]; exact h1), h2⟩
  | call d m g l k =>
    cases h
    obtain ⟨e, s', h1, r', rfl, e2, s2, h3, h4⟩ := next s r.same
    exact ⟨e2, s2, .call (by rw [← hd]; exact h1) h3, h4⟩
  | newGen d k =>
    cases h
    obtain ⟨e, s', h1, h2⟩ := next _ (r.gens' (gens' := gens ++ [.fresh d]))
    refine ⟨e, s', .newGen ?_, h2⟩
    have q : ({ s with gens := s.gens.push (GenState.fresh d) } : Shared) = { s with gens := (gens ++ [GenState.fresh d]).toArray } := by rw [r.gn]; simp
    have z : s.gens.size = gens.length := by rw [r.gn]; simp
    rw [q, z]; exact h1
  | genState g k =>
    cases hg : nthG gens g with
    | none => simp only [tick, hg] at h; cases h
    | some st =>
      simp only [tick, hg] at h
      cases h
      obtain ⟨e, s', h1, h2⟩ := next s r.same
      refine ⟨e, s', .genState (st := st) ?_ h1, h2⟩
      rw [r.gn, List.getElem?_toArray, ← nthG_eq]; exact hg
  | resume g q l k =>
    cases hg : nthG gens g with
    | none => simp only [tick, hg] at h; cases h
    | some st =>
      have hgs : s.gens[g]? = some st := by rw [r.gn, List.getElem?_toArray, ← nthG_eq]; exact hg
      have qs : s.setGen g .running = { s with gens := (setG gens g .running).toArray } := by
        show { s with gens := s.gens.setIfInBounds g .running } = _
        rw [r.gn, setG_eq]; simp
      cases st with
      | fresh c₀ =>
        cases q with
        | throw x => simp only [tick, hg] at h; cases h
        | send v =>
          cases v with
          | none =>
            simp only [tick, hg] at h
            cases h
            obtain ⟨e, s', h1, hq, e2, s2, h3, h4⟩ := next _ (r.gens' (gens' := setG gens g .running))
            exact ⟨e2, s2, .resumeFresh hgs (by rw [qs, ← hd]; exact h1) hq h3, h4⟩
          | _ => simp only [tick, hg] at h; cases h
      | suspended k₀ l₀ c₀ p₀ fs cl =>
        cases fs with
        | cons f fs => simp only [tick, hg] at h; cases h
        | nil =>
          simp only [tick, hg] at h
          cases h
          obtain ⟨e, s', h1, hq, e2, s2, h3, h4⟩ := next _ (r.gens' (gens' := setG gens g .running))
          exact ⟨e2, s2, .resumeSuspended hgs (by rw [qs]; exact h1) hq h3, h4⟩
      | running => simp only [tick, hg] at h; cases h
      | finished => simp only [tick, hg] at h; cases h
  | «yield» v gd l kk =>
    cases κ with
    | base => cases h
    | ret Γ' p' k κ' => cases h
    | gen g Γ' p' k κ' =>
      cases gd with
      | true => cases h
      | false =>
        cases h
        obtain ⟨e, s', h1, h2⟩ := next _ (r.gens' (gens' := setG gens g (.suspended kk l Γ.code p [] false)))
        refine ⟨_, _, .yield, rfl, e, s', ?_, h2⟩
        have q : s.setGen g (End.susp v false l kk Γ.code p []).genState = { s with gens := (setG gens g (.suspended kk l Γ.code p [] false)).toArray } := by
          show { s with gens := s.gens.setIfInBounds g _ } = _
          rw [r.gn, setG_eq]; simp [End.genState]
        rw [q]; exact h1
  | load a q k => cases h
  | loadIfAlive a k => cases h
  | update a q f k => cases h
  | _ => cases h

/-- a comparison of two ints, as the table has it -/
noncomputable def CmpOk (M : Model) : Prop := ∀ (id : String) (a b : Int) (t u : Nat) (P : Prop) (v : Bool), cmpOf id a b = some P → P = (v = true) →
  ∀ (Γ : Ctx) (p : Pos) (s : Shared), Γ.code = .call (.builtin id) ⟨[.int a t, .int b u], []⟩ → Returns M Γ p s (.ok (.ret (.bool v))) s

/-- the step of a list's iterator, as the table has it -/
structure NextOk (M : Model) : Prop where
  item : ∀ (Γ : Ctx) (p : Pos) (s : Shared) (it l : Addr) (m : Int) (xs : Array Value) (n : Nat) (dd : Option Addr) (sl : Array (Option Value)) (x : Value), Γ.code = .call (.builtin "list_iterator.__next__") ⟨[.ref it], []⟩ →
    s.heap.get? it = some (iterObj (.ref l) m) → s.heap.get? l = some ⟨.type "list", dd, .seq xs n, sl⟩ → xs[m.toNat]? = some x →
    ∃ h', Returns M Γ p s (.ok (.ret x)) { s with heap := h' } ∧ h'.get? it = some (iterObj (.ref l) (m + 1)) ∧ Heap.SameBut it s.heap h'
  stop : ∀ (Γ : Ctx) (p : Pos) (s : Shared) (it l : Addr) (m : Int) (xs : Array Value) (n : Nat) (dd : Option Addr) (sl : Array (Option Value)), Γ.code = .call (.builtin "list_iterator.__next__") ⟨[.ref it], []⟩ → Γ.handled = none →
    s.heap.get? it = some (iterObj (.ref l) m) → s.heap.get? l = some ⟨.type "list", dd, .seq xs n, sl⟩ → xs[m.toNat]? = none →
    ∃ h', Returns M Γ p s (.error (.ref (s.heap.objs.size + 1))) { s with heap := (h'.push (tupObj [])).push (stopObj s.heap.objs.size) } ∧ h'.get? it = some (iterObj .none m) ∧ Heap.SameBut it s.heap h'

/-- list.append, as the table has it -/
noncomputable def PushOk (M : Model) : Prop := ∀ (Γ : Ctx) (p : Pos) (s : Shared) (a : Addr) (v : Value) (xs : Array Value) (n : Nat), Γ.code = .call (.builtin "list.append") ⟨[.ref a, v], []⟩ → s.heap.get? a = some ⟨.type "list", none, .seq xs n, #[]⟩ → xs.size ≤ sizeLine →
  ∃ h', Returns M Γ p s (.ok (.ret .none)) { s with heap := h' } ∧ h'.get? a = some ⟨.type "list", none, .seq (xs.push v) (n + 1), #[]⟩ ∧ Heap.SameBut a s.heap h'

theorem step1_sound (hd : E.den = M.den) (hS : E.S = ⟨M.prog, M.w.params⟩) (hC : CmpOk M) (hN : NextOk M) (hA : PushOk M) {ev : Ev} {c c' : Conf} {ob ob' : List (Addr × Addr)} {pr pr' : List Prop} (h : step1 E ev c ob pr = some (c', ob', pr'))
    (ho : ∀ x ∈ ob', x.1 = x.2) (hp : ∀ P ∈ pr', P) (r : Rep E s₀ L₀ c s)
    (next : ∀ s', Rep E s₀ L₀ c' s' → Goes M R c'.Γ c'.p c'.t c'.κ s') : Goes M R c.Γ c.p c.t c.κ s := by
  cases ev with
  | t =>
    cases hk : tick E c with
    | none => simp only [step1, hk] at h; cases h
    | some c₂ =>
      simp only [step1, hk] at h
      cases h
      exact tick_sound hd hS hk r next
  | l n =>
    obtain ⟨Γ, p, t, κ, led, nx, toks, gens⟩ := c
    cases ht : E.top n with
    | none => simp only [step1, ht] at h; cases h
    | some o =>
      cases t with
      | load a q k =>
        simp only [step1, ht] at h
        cases h
        obtain ⟨e, s', h1, h2⟩ := next s r.same
        have ea : a = n := ho _ List.mem_cons_self
        exact ⟨e, s', .load (by rw [ea]; exact r.top n o ht) h1, h2⟩
      | loadIfAlive a k =>
        simp only [step1, ht] at h
        cases h
        obtain ⟨e, s', h1, h2⟩ := next s r.same
        have ea : a = n := ho _ List.mem_cons_self
        exact ⟨e, s', .loadIfAlive (by rw [ea, r.top n o ht]; exact h1), h2⟩
      | _ => simp only [step1, ht] at h; cases h
  | i n =>
    obtain ⟨Γ, p, t, κ, led, nx, toks, gens⟩ := c
    cases ht : gL led n with
    | none => simp only [step1, ht] at h; cases h
    | some y =>
      cases t with
      | load a q k =>
        simp only [step1, ht] at h
        cases h
        obtain ⟨e, s', h1, h2⟩ := next s r.same
        have ea : a = y.1 := ho _ List.mem_cons_self
        exact ⟨e, s', .load (by rw [ea]; exact r.led n y ht) h1, h2⟩
      | loadIfAlive a k =>
        simp only [step1, ht] at h
        cases h
        obtain ⟨e, s', h1, h2⟩ := next s r.same
        have ea : a = y.1 := ho _ List.mem_cons_self
        exact ⟨e, s', .loadIfAlive (by rw [ea, r.led n y ht]; exact h1), h2⟩
      | update a q f k =>
        cases hf : (f y.2).isFreed with
        | true => simp only [step1, ht, hf] at h; cases h
        | false =>
          simp only [step1, ht, hf] at h
          cases h
          obtain ⟨e, s', h1, h2⟩ := next _ (r.update ht hf)
          have ea : a = y.1 := ho _ List.mem_cons_self
          exact ⟨e, s', .update (by rw [ea, r.led n y ht]; rfl) (by rw [ea]; exact h1), h2⟩
      | _ => simp only [step1, ht] at h; cases h
  | c v =>
    obtain ⟨Γ, p, t, κ, led, nx, toks, gens⟩ := c
    simp only [step1] at h
    split at h
    · rename_i id x tx y ty m g l k
      cases hc : cmpOf id x y with
      | none => rw [hc] at h; cases h
      | some P =>
        rw [hc] at h
        cases h
        obtain ⟨e, s', h1, h2⟩ := next s r.same
        exact ⟨e, s', .call (hC id x y tx ty P v hc (hp _ List.mem_cons_self) _ p s rfl) h1, h2⟩
    · cases h
  | n i j q =>
    obtain ⟨Γ, p, t, κ, led, nx, toks, gens⟩ := c
    cases hi : gL led i with
    | none => simp only [step1, hi] at h; cases h
    | some y =>
      cases hj : gL led j with
      | none => simp only [step1, hi, hj] at h; cases h
      | some z =>
        simp only [step1, hi, hj] at h
        split at h
        · rename_i id a m g l k
          split at h
          · rename_i hid
            cases h
            have eid : id = "list_iterator.__next__" := of_decide_eq_true hid
            subst eid
            have ea : a = y.1 := ho _ List.mem_cons_self
            subst ea
            obtain ⟨xs, n, dd, sl, e1, e2, e3⟩ := hp _ List.mem_cons_self
            obtain ⟨h', g1, g2, g3⟩ := hN.item (Γ.enter (.call (.builtin "list_iterator.__next__") ⟨[.ref y.1], []⟩) m p) p s y.1 z.1 (idxI y.2) xs n dd sl (E.it q) rfl (by rw [← e1]; exact r.led i y hi) (by rw [← e2]; exact r.led j z hj) e3
            obtain ⟨e, s', h1, h2⟩ := next _ (r.put (f := bumpI z.1) hi g3 g2)
            exact ⟨e, s', .call g1 h1, h2⟩
          · cases h
        · cases h
  | e i j =>
    obtain ⟨Γ, p, t, κ, led, nx, toks, gens⟩ := c
    cases hi : gL led i with
    | none => simp only [step1, hi] at h; cases h
    | some y =>
      cases hj : gL led j with
      | none => simp only [step1, hi, hj] at h; cases h
      | some z =>
        simp only [step1, hi, hj] at h
        split at h
        · rename_i id a g l k
          split at h
          · rename_i hid
            split at h
            · rename_i hh
              cases h
              have eid : id = "list_iterator.__next__" := of_decide_eq_true hid
              subst eid
              have ea : a = y.1 := ho _ List.mem_cons_self
              subst ea
              obtain ⟨xs, n, dd, sl, e1, e2, e3⟩ := hp _ List.mem_cons_self
              obtain ⟨h', g1, g2, g3⟩ := hN.stop (Γ.enter (.call (.builtin "list_iterator.__next__") ⟨[.ref y.1], []⟩) none p) p s y.1 z.1 (idxI y.2) xs n dd sl rfl hh (by rw [← e1]; exact r.led i y hi) (by rw [← e2]; exact r.led j z hj) e3
              have r1 := r.put (Γ' := Γ) (p' := p) (t' := .pure (.done .next)) (κ' := κ) (f := endI) hi g3 g2
              have r2 := r1.alloc (Γ' := Γ) (p' := p) (t' := .pure (.done .next)) (κ' := κ) (o := tupObj []) rfl
              have r3 := r2.alloc (Γ' := Γ) (p' := p) (t' := k (.error (.ref (E.x (nx + 1))))) (κ' := κ) (o := stopObj (E.x nx)) rfl
              have x0 : E.x nx = s.heap.objs.size := r.fresh 0
              have x1 : E.x (nx + 1) = s.heap.objs.size + 1 := r.fresh 1
              rw [List.append_assoc] at r3
              obtain ⟨e, s', h1, h2⟩ := next _ r3
              rw [x1] at h1
              dsimp only at h1
              rw [x0] at h1
              exact ⟨e, s', .call g1 h1, h2⟩
            · cases h
          · cases h
        · cases h

  | p i =>
    obtain ⟨Γ, p, t, κ, led, nx, toks, gens⟩ := c
    cases hi : gL led i with
    | none => simp only [step1, hi] at h; cases h
    | some y =>
      simp only [step1, hi] at h
      split at h
      · rename_i id a v m g l k
        split at h
        · rename_i hid
          cases h
          have eid : id = "list.append" := of_decide_eq_true hid
          subst eid
          have ea : a = y.1 := ho _ List.mem_cons_self
          subst ea
          obtain ⟨xs, n, e1, e2⟩ := hp _ List.mem_cons_self
          obtain ⟨h', g1, g2, g3⟩ := hA (Γ.enter (.call (.builtin "list.append") ⟨[.ref y.1, v], []⟩) m p) p s y.1 v xs n rfl (by rw [← e1]; exact r.led i y hi) e2
          obtain ⟨e, s', h1, h2⟩ := next _ (r.put (f := pushO v) hi g3 (by rw [g2, e1]; rfl))
          exact ⟨e, s', .call g1 h1, h2⟩
        · cases h
      · cases h
  | x => cases h

end
end Mine
end
noncomputable section
open PySem PySem.W PyProof.Rows
set_option maxRecDepth 100000
set_option maxHeartbeats 8000000
set_option linter.unusedVariables false
namespace Mine
theorem quiet_id (id : String) (a : Args) : (id.startsWith "lifetime.") = false → (Code.builtin id a).quiet = true := fun h => Code.quiet_builtin a h

theorem cmp_tree (id : String) (hid : id = "int.__lt__" ∨ id = "int.__gt__" ∨ id = "int.__le__" ∨ id = "int.__ge__" ∨ id = "int.__eq__" ∨ id = "int.__ne__") (a b : Int) (t u : Nat) :
    denQ (.call (.builtin id) ⟨[.int a t, .int b u], []⟩) = .pure (.again (.builtin id ⟨[.int a t, .int b u], []⟩)) := by
  rcases hid with rfl | rfl | rfl | rfl | rfl | rfl <;> kernel_rfl
theorem lt_tree (a b : Int) (t u : Nat) : denQ (.builtin "int.__lt__" ⟨[.int a t, .int b u], []⟩) = .pure (.done (.ret (.bool (decide (a < b))))) := by kernel_rfl
theorem gt_tree (a b : Int) (t u : Nat) : denQ (.builtin "int.__gt__" ⟨[.int a t, .int b u], []⟩) = .pure (.done (.ret (.bool (decide (a > b))))) := by kernel_rfl
theorem le_tree (a b : Int) (t u : Nat) : denQ (.builtin "int.__le__" ⟨[.int a t, .int b u], []⟩) = .pure (.done (.ret (.bool (decide (a ≤ b))))) := by kernel_rfl
theorem ge_tree (a b : Int) (t u : Nat) : denQ (.builtin "int.__ge__" ⟨[.int a t, .int b u], []⟩) = .pure (.done (.ret (.bool (decide (a ≥ b))))) := by kernel_rfl
theorem eq_tree (a b : Int) (t u : Nat) : denQ (.builtin "int.__eq__" ⟨[.int a t, .int b u], []⟩) = .pure (.done (.ret (.bool (decide (a = b))))) := by kernel_rfl
theorem ne_tree (a b : Int) (t u : Nat) : denQ (.builtin "int.__ne__" ⟨[.int a t, .int b u], []⟩) = .pure (.done (.ret (.bool (a != b)))) := by kernel_rfl
theorem cmp_run (w : World) {id : String} {x : Args} {v : Value} (h1 : denQ (.call (.builtin id) x) = .pure (.again (.builtin id x))) (h2 : denQ (.builtin id x) = .pure (.done (.ret v))) (hq : (Code.builtin id x).quiet = true)
    (Γ : Ctx) (p : Pos) (s : Shared) (hc : Γ.code = .call (.builtin id) x) : Returns (MM w) Γ p s (.ok (.ret v)) s := by
  show Runs (MM w) Γ p ((MM w).den Γ.code) [] s (.ret (.ok (.ret v))) s
  rw [hc, den_MM, h1]
  refine .again hq ?_
  rw [den_MM, h2]
  exact .done
theorem cmpOk (w : World) : CmpOk (MM w) := by
  intro id a b t u P v hP hv Γ p s hc
  have key : ∀ {id : String} {v' : Bool}, (id = "int.__lt__" ∨ id = "int.__gt__" ∨ id = "int.__le__" ∨ id = "int.__ge__" ∨ id = "int.__eq__" ∨ id = "int.__ne__") → Γ.code = .call (.builtin id) ⟨[.int a t, .int b u], []⟩ →
      (id.startsWith "lifetime.") = false → denQ (.builtin id ⟨[.int a t, .int b u], []⟩) = .pure (.done (.ret (.bool v'))) → v' = v → Returns (MM w) Γ p s (.ok (.ret (.bool v))) s := by
    intro id v' hid hc hl h2 e
    subst e
    exact cmp_run w (cmp_tree id hid a b t u) h2 (Code.quiet_builtin _ hl) Γ p s hc
  have bool : ∀ {Q : Prop} [Decidable Q], Q = (v = true) → decide Q = v := by
    intro Q _ e
    cases v
    · exact decide_eq_false (by rw [e]; exact Bool.false_ne_true)
    · exact decide_eq_true (by rw [e])
  unfold cmpOf at hP
  (repeat' split at hP) <;> first | (cases hP; done) | skip
  · rename_i e; subst e; cases hP; exact key (.inl rfl) hc (by decide +kernel) (lt_tree a b t u) (bool hv)
  · rename_i e; subst e; cases hP; exact key (.inr (.inl rfl)) hc (by decide +kernel) (gt_tree a b t u) (bool hv)
  · rename_i e; subst e; cases hP; exact key (.inr (.inr (.inl rfl))) hc (by decide +kernel) (le_tree a b t u) (bool hv)
  · rename_i e; subst e; cases hP; exact key (.inr (.inr (.inr (.inl rfl)))) hc (by decide +kernel) (ge_tree a b t u) (bool hv)
  · rename_i e; subst e; cases hP; exact key (.inr (.inr (.inr (.inr (.inl rfl))))) hc (by decide +kernel) (eq_tree a b t u) (bool hv)
  · rename_i e; subst e; cases hP
    refine key (.inr (.inr (.inr (.inr (.inr rfl))))) hc (by decide +kernel) (ne_tree a b t u) ?_
    have := bool hv
    rw [← this]
    by_cases q : a = b <;> simp [q]
end Mine
end
noncomputable section
open PySem PySem.W PyProof.Rows
set_option maxRecDepth 100000
set_option linter.unusedVariables false
namespace Mine

/-- what a call that is not run leaves: where new objects come, how many tokens, and its data -/
structure Ep where
  x : Nat → Addr
  toks : Nat
  t : Nat
  n : Nat
  v : Value
  vs : Array Value
  o : Obj
  os : List Obj
  tk : Nat → Nat
/-- a call that is not run, by its contract -/
structure Xs where
  sel : List Nat
  f : Ep → List (Addr × Obj) → Result × List Obj × List (Addr × Obj)
  gs : List GenState → List GenState
  I : Ep → Prop
  C : Option (List Env → Prop)
inductive Kd where
  | fr | fn | cp | gx | wh | bl | bi (id : String) | ct (id : String) | tc (id : String) | ot
structure CD where
  e : PySem.Expr
  cs : List Comprehension
  sc : Scope
  pos : Pos
  n : Nat
  v1 : Value
  v2 : Value
  b1 : List Stmt
  b2 : List Stmt
  env : Env
  args : Args
noncomputable def mkC : Kd → CD → Code
  | .fr, d => .forLoop d.e d.v1 d.b1 d.b2 d.env
  | .fn, d => .func d.b1 d.env
  | .cp, d => .compLoop (.ListComp d.e d.cs d.sc d.pos) d.n d.v1 d.v2 d.env
  | .gx, d => .compLoop (.GeneratorExp d.e d.cs d.sc d.pos) 0 d.v1 d.v2 d.env
  | .wh, d => .whileLoop d.e d.b1 d.b2 d.env
  | .bl, d => .block d.b1 d.env
  | .bi id, d => .builtin id d.args
  | .ct id, d => .call (.type id) d.args
  | .tc n, d => .builtin "type.__call__" ⟨.type n :: d.args.pos, d.args.kw⟩
  | .ot, d => .builtin "" d.args
noncomputable def kindC (c : Code) : Kd := match c with
  | .forLoop .. => .fr
  | .func .. => .fn
  | .compLoop e n _ _ _ => match e with
    | .ListComp .. => .cp
    | .GeneratorExp .. => match n with
      | 0 => .gx
      | _ => .ot
    | _ => .ot
  | .whileLoop .. => .wh
  | .block .. => .bl
  | .builtin id a => match decide (id = "type.__call__") with
    | true => match a.pos with
      | v :: _ => match v with
        | .type n => .tc n
        | _ => .ot
      | [] => .ot
    | false => .bi id
  | .call f _ => match f with
    | .type id => .ct id
    | _ => .ot
  | _ => .ot
noncomputable def okK : Kd → Bool
  | .ot => false
  | _ => true
theorem kind_mk (c : Code) (h : okK (kindC c) = true) : ∃ d, c = mkC (kindC c) d := by
  cases c with
  | forLoop t i b o e => exact ⟨⟨t, [], default, default, 0, i, .none, b, o, e, {}⟩, rfl⟩
  | func b e => exact ⟨⟨.Constant .none 0 default, [], default, default, 0, .none, .none, b, [], e, {}⟩, rfl⟩
  | compLoop e n i a env =>
    cases e with
    | ListComp el cs sc pos => exact ⟨⟨el, cs, sc, pos, n, i, a, [], [], env, {}⟩, rfl⟩
    | GeneratorExp el cs sc pos =>
      cases n with
      | zero => exact ⟨⟨el, cs, sc, pos, 0, i, a, [], [], env, {}⟩, rfl⟩
      | succ n => cases h
    | _ => cases h
  | whileLoop t b o e => exact ⟨⟨t, [], default, default, 0, .none, .none, b, o, e, {}⟩, rfl⟩
  | block b e => exact ⟨⟨.Constant .none 0 default, [], default, default, 0, .none, .none, b, [], e, {}⟩, rfl⟩
  | builtin id a =>
    by_cases hid : id = "type.__call__"
    · subst hid
      obtain ⟨pos, kw⟩ := a
      cases pos with
      | nil => cases h
      | cons v r =>
        cases v with
        | type n => exact ⟨⟨.Constant .none 0 default, [], default, default, 0, .none, .none, [], [], default, ⟨r, kw⟩⟩, rfl⟩
        | _ => cases h
    · have e : kindC (.builtin id a) = .bi id := by
        simp only [kindC, decide_eq_false hid]
      rw [e]
      exact ⟨⟨.Constant .none 0 default, [], default, default, 0, .none, .none, [], [], default, a⟩, rfl⟩
  | call f a =>
    cases f with
    | type id => exact ⟨⟨.Constant .none 0 default, [], default, default, 0, .none, .none, [], [], default, a⟩, rfl⟩
    | _ => cases h
  | _ => cases h
noncomputable def mkB : List Kd → (Nat → CD × Pos) → List (Code × Pos)
  | [], _ => []
  | k :: ks, D => (mkC k (D 0).1, (D 0).2) :: mkB ks (fun n => D (n + 1))
noncomputable def kinds : List (Code × Pos) → List Kd
  | [] => []
  | y :: r => kindC y.1 :: kinds r
noncomputable def okKs : List Kd → Bool
  | [] => true
  | k :: r => match okK k with
    | true => okKs r
    | false => false
theorem mkB_of : ∀ (l : List (Code × Pos)), okKs (kinds l) = true → ∃ D, l = mkB (kinds l) D
  | [], _ => ⟨fun _ => ⟨⟨.Constant .none 0 default, [], default, default, 0, .none, .none, [], [], default, {}⟩, default⟩, rfl⟩
  | (c, p) :: r, h => by
    simp only [kinds, okKs] at h
    cases hk : okK (kindC c) with
    | false => rw [hk] at h; cases h
    | true =>
      rw [hk] at h
      obtain ⟨D, e⟩ := mkB_of r h
      obtain ⟨d, e'⟩ := kind_mk c hk
      refine ⟨fun n => match n with | 0 => (d, p) | n + 1 => D n, ?_⟩
      show (c, p) :: r = (mkC (kindC c) d, p) :: mkB (kinds r) D
      rw [← e', ← e]

structure View where
  d : Code
  hd : Option Value
  own : Option Value
  past : Option Value
  ks : List Kd
  sel : List (Addr × Obj)
  gens : List GenState
inductive Ob where
  | p (P : Prop)
  | x (v : View)
structure Out2 where
  ok : Bool
  c : Conf
  ob : List (Addr × Addr)
  pr : List Ob
noncomputable def pickO (led : List (Addr × Obj)) : List Nat → Option (List (Addr × Obj))
  | [] => some []
  | i :: r => match gL led i with
    | some y => match pickO led r with
      | some l => some (y :: l)
      | none => none
    | none => none
noncomputable def setM : List (Addr × Obj) → List Nat → List Obj → List (Addr × Obj)
  | led, [], _ => led
  | led, i :: is, l => match l with
    | [] => led
    | o :: os => setM (sL led i (fun _ => o)) is os
noncomputable def xstep (X : Xs) (ρ : Ep) : Conf → Option (Conf × View)
  | ⟨Γ, p, t, κ, led, nx, toks, gens⟩ => match t with
    | .call d h _ _ k => match pickO led X.sel with
      | some sel => match X.f ρ sel with
        | (r, os, new) => some (⟨Γ, p, k r, κ, setM led X.sel os ++ new, 0, ρ.toks, X.gs gens⟩, ⟨d, markOver h Γ.handled Γ.past, markOver h Γ.own none, Γ.past, kinds ((Γ.code, p) :: Γ.below), sel, gens⟩)
      | none => none
    | _ => none
/-- what a call that is not run leaves to be shown -/
noncomputable def xobs (X : Xs) (v : View) : Conf → List Ob
  | ⟨Γ, p, _, _, _, _, _, _⟩ => match X.C with
    | none => [.x v]
    | some C => [.x v, .p (C (envsOf ((Γ.code, p) :: Γ.below)))]
noncomputable def withX (E : Env0) (x : Nat → Addr) : Env0 := match E with
  | ⟨d, S, t, _, i⟩ => ⟨d, S, t, x, i⟩
noncomputable def run2 : List Ev → Env0 → List Xs → (Nat → Ep) → Conf → List (Addr × Addr) → List Ob → Out2
  | [], _, xs, _, c, ob, pr => ⟨xs.isEmpty, c, ob, pr⟩
  | e :: es, E, xs, ρ, c, ob, pr => match e with
    | .x => match xs with
      | X :: xs' => match xstep X (ρ 0) c with
        | some (c', v) => run2 es (withX E (ρ 0).x) xs' (fun n => ρ (n + 1)) c' ob (xobs X v c ++ pr)
        | none => ⟨false, c, ob, pr⟩
      | [] => ⟨false, c, ob, pr⟩
    | e => match step1 E e c [] [] with
      | some (c', ob', pr') => run2 es E xs ρ c' (ob' ++ ob) (pr'.map .p ++ pr)
      | none => ⟨false, c, ob, pr⟩
/-- the events of a canonical run -/
noncomputable def run0 (m : Mode) (isx : Conf → Bool) (stop : Conf → Bool) : Nat → Env0 → List Xs → (Nat → Ep) → Nat → Conf → List Ev
  | 0, _, _, _, _, _ => []
  | n + 1, E, xs, ρ, q, c => match stop c with
    | true => []
    | false => match isx c with
      | true => match xs with
        | X :: xs' => match xstep X (ρ 0) c with
          | some (c', _) => .x :: run0 m isx stop n (withX E (ρ 0).x) xs' (fun n => ρ (n + 1)) q c'
          | none => []
        | [] => []
      | false => match evOf m q c with
        | (e, v) => match step1 ⟨E.den, E.S, E.top, E.x, fun _ => v⟩ e c [] [] with
          | some (c', _, _) => e :: run0 m isx stop n E xs ρ (nextQ e q) c'
          | none => []

/-- only the objects at `L` may be turned; all else stands, new ones may come -/
structure Ch (L : List Addr) (s s' : Shared) : Prop where
  keep : ∀ b o, s.heap.get? b = some o → b ∉ L → s'.heap.get? b = some o
  size : s.heap.objs.size ≤ s'.heap.objs.size
  dr : s'.drawn = s.drawn
  os : s'.os = s.os
theorem Ch.refl (L : List Addr) (s : Shared) : Ch L s s := ⟨fun _ _ e _ => e, Nat.le_refl _, rfl, rfl⟩
theorem Ch.trans {L L' : List Addr} {s s' s'' : Shared} (h : Ch L s s') (h' : Ch L' s' s'') (hL : ∀ b ∈ L', b ∈ L ∨ s.heap.objs.size ≤ b) : Ch L s s'' :=
  ⟨fun b o e hb => h'.keep b o (h.keep b o e hb) (fun q => (hL b q).elim hb fun z => absurd (Heap.lt_size e) (Nat.not_lt.mpr z)), Nat.le_trans h.size h'.size, h'.dr.trans h.dr, h'.os.trans h.os⟩
theorem Ch.mono {L L' : List Addr} {s s' : Shared} (h : Ch L s s') (hL : ∀ b ∈ L, b ∈ L') : Ch L' s s' :=
  ⟨fun b o e hb => h.keep b o e fun q => hb (hL b q), h.size, h.dr, h.os⟩
noncomputable def Led (s : Shared) (led : List (Addr × Obj)) : Prop := ∀ y ∈ led, s.heap.get? y.1 = some y.2
theorem Led.ch {s s' : Shared} {led : List (Addr × Obj)} {L : List Addr} (h : Led s led) (c : Ch L s s') (hL : ∀ y ∈ led, y.1 ∉ L) : Led s' led := fun y hy => c.keep _ _ (h y hy) (hL y hy)
noncomputable def Top (top : Nat → Option Obj) (s : Shared) : Prop := ∀ a o, top a = some o → s.heap.get? a = some o
/-- the ledger holds nothing of the top -/
noncomputable def Off (top : Nat → Option Obj) (led : List (Addr × Obj)) : Prop := ∀ y ∈ led, top y.1 = none
noncomputable def PutAt (s : Shared) : List (Addr × Obj) → List Obj → Prop
  | y :: ys, o :: os => s.heap.get? y.1 = some o ∧ PutAt s ys os
  | _, _ => True
structure XPost (X : Xs) (v : View) (s : Shared) (ρ : Ep) (r : Result) (s' : Shared) : Prop where
  x : ρ.x = fun j => s'.heap.objs.size + j
  tk : ρ.toks = s'.toks
  I : X.I ρ
  r : r = (X.f ρ v.sel).1
  put : PutAt s' v.sel (X.f ρ v.sel).2.1
  new : Led s' (X.f ρ v.sel).2.2
  nd : ((X.f ρ v.sel).2.2.map (·.1)).Nodup
  hi : ∀ y ∈ (X.f ρ v.sel).2.2, s.heap.objs.size ≤ y.1
  ch : Ch ((v.sel.take (X.f ρ v.sel).2.1.length).map (·.1)) s s'
  gens : s'.gens = (X.gs v.gens).toArray
structure CtxV (C : Option (List Env → Prop)) (Γ : Ctx) (p : Pos) (v : View) : Prop where
  at_ : ∃ c₀ rest, Γ.below = (c₀, p) :: rest
  code : Γ.code = v.d
  hd : Γ.handled = v.hd
  own : Γ.own = v.own
  past : Γ.past = v.past
  ks : kinds Γ.below = v.ks
  env : ∀ K, C = some K → K (envsOf Γ.below)
noncomputable def ReqOk (M : Model) (top : Nat → Option Obj) (X : Xs) (v : View) : Prop := ∀ (Γ : Ctx) (p : Pos) (s : Shared), CtxV X.C Γ p v → Top top s → Led s v.sel → Off top v.sel → (X.sel.Nodup → (v.sel.map (·.1)).Nodup) → s.gens = v.gens.toArray →
  wpCode M Γ (fun r s' => ∃ ρ, XPost X v s ρ r s') p s
noncomputable def AllObs (M : Model) (top : Nat → Option Obj) : List Xs → (Nat → Ep) → List Ob → Prop
  | _, _, [] => True
  | xs, ρ, .p P :: r => P ∧ AllObs M top xs ρ r
  | X :: xs, ρ, .x v :: r => ReqOk M top X v ∧ (X.I (ρ 0) → AllObs M top xs (fun n => ρ (n + 1)) r)
  | [], _, .x _ :: _ => False
noncomputable def Is : List Xs → (Nat → Ep) → Prop
  | [], _ => True
  | X :: xs, ρ => X.I (ρ 0) ∧ Is xs (fun n => ρ (n + 1))

theorem run2_acc : ∀ (es : List Ev) (E : Env0) (xs : List Xs) (ρ : Nat → Ep) (c : Conf) (ob : List (Addr × Addr)) (pr : List Ob),
    run2 es E xs ρ c ob pr = ⟨(run2 es E xs ρ c [] []).ok, (run2 es E xs ρ c [] []).c, (run2 es E xs ρ c [] []).ob ++ ob, (run2 es E xs ρ c [] []).pr ++ pr⟩
  | [], E, xs, ρ, c, ob, pr => rfl
  | e :: es, E, xs, ρ, c, ob, pr => by
    have key : ∀ e', (match step1 E e' c [] [] with
      | some (c', ob', pr') => run2 es E xs ρ c' (ob' ++ ob) (pr'.map .p ++ pr)
      | none => ⟨false, c, ob, pr⟩) = (⟨(match step1 E e' c [] [] with
      | some (c', ob', pr') => run2 es E xs ρ c' (ob' ++ []) (pr'.map .p ++ [])
      | none => ⟨false, c, [], []⟩ : Out2).ok, (match step1 E e' c [] [] with
      | some (c', ob', pr') => run2 es E xs ρ c' (ob' ++ []) (pr'.map .p ++ [])
      | none => ⟨false, c, [], []⟩ : Out2).c, (match step1 E e' c [] [] with
      | some (c', ob', pr') => run2 es E xs ρ c' (ob' ++ []) (pr'.map .p ++ [])
      | none => ⟨false, c, [], []⟩ : Out2).ob ++ ob, (match step1 E e' c [] [] with
      | some (c', ob', pr') => run2 es E xs ρ c' (ob' ++ []) (pr'.map .p ++ [])
      | none => ⟨false, c, [], []⟩ : Out2).pr ++ pr⟩ : Out2) := by
      intro e'
      cases h : step1 E e' c [] [] with
      | none => rfl
      | some y =>
        obtain ⟨c', ob', pr'⟩ := y
        dsimp only
        rw [run2_acc es E xs ρ c' (ob' ++ ob) (pr'.map Ob.p ++ pr), run2_acc es E xs ρ c' (ob' ++ []) (pr'.map Ob.p ++ [])]
        simp
    cases e with
    | x =>
      cases xs with
      | nil => rfl
      | cons X xs =>
        simp only [run2]
        cases h : xstep X (ρ 0) c with
        | none => rfl
        | some y =>
          obtain ⟨c', v⟩ := y
          dsimp only
          rw [run2_acc es _ xs _ c' ob (xobs X v c ++ pr), run2_acc es _ xs _ c' [] (xobs X v c ++ [])]
          simp
    | t => exact key _
    | l a => exact key _
    | i k => exact key _
    | c b => exact key _
    | n i j q => exact key _
    | e i j => exact key _
    | p i => exact key _

theorem pickO_get {led : List (Addr × Obj)} : ∀ {is : List Nat} {sel : List (Addr × Obj)}, pickO led is = some sel → is.length = sel.length ∧ ∀ (k i : Nat) (y : Addr × Obj), is[k]? = some i → sel[k]? = some y → gL led i = some y
  | [], sel, h => by cases h; exact ⟨rfl, fun k i y e => by simp at e⟩
  | i :: is, sel, h => by
    simp only [pickO] at h
    cases h1 : gL led i with
    | none => rw [h1] at h; cases h
    | some y =>
      rw [h1] at h
      cases h2 : pickO led is with
      | none => rw [h2] at h; cases h
      | some l =>
        rw [h2] at h
        cases h
        obtain ⟨e1, e2⟩ := pickO_get h2
        refine ⟨by simp [e1], fun k j z hj hz => ?_⟩
        cases k with
        | zero => simp at hj hz; subst hj; subst hz; exact h1
        | succ k => simp at hj hz; exact e2 k j z hj hz
theorem gL_lt {y : Addr × Obj} : ∀ {l : List (Addr × Obj)} {n : Nat}, gL l n = some y ↔ l[n]? = some y := by
  intro l
  induction l with
  | nil => intro n; simp [gL]
  | cons x r ih =>
    intro n
    cases n with
    | zero => simp [gL]
    | succ n => simp [gL, ih]
theorem sL_get (f : Obj → Obj) {z : Addr × Obj} : ∀ {l : List (Addr × Obj)} {n m : Nat}, gL (sL l n f) m = some z → (m = n ∧ ∃ y, gL l n = some y ∧ z = (y.1, f y.2)) ∨ (m ≠ n ∧ gL l m = some z) := by
  intro l
  induction l with
  | nil => intro n m h; cases h
  | cons x r ih =>
    intro n m h
    cases n with
    | zero =>
      cases m with
      | zero => exact .inl ⟨rfl, x, rfl, (Option.some.inj h).symm⟩
      | succ m => exact .inr ⟨by simp, h⟩
    | succ n =>
      cases m with
      | zero => exact .inr ⟨by simp, h⟩
      | succ m =>
        rcases ih (n := n) (m := m) h with ⟨e, y, h1, h2⟩ | ⟨e, h1⟩
        · exact .inl ⟨by rw [e], y, h1, h2⟩
        · exact .inr ⟨by simpa using e, h1⟩
theorem setM_fst : ∀ (is : List Nat) (led : List (Addr × Obj)) (os : List Obj), (setM led is os).map (·.1) = led.map (·.1)
  | [], led, os => by cases os <;> rfl
  | i :: is, led, [] => rfl
  | i :: is, led, o :: os => by
    show (setM (sL led i (fun _ => o)) is os).map (·.1) = _
    rw [setM_fst is, setL_fst]
theorem setM_get {z : Addr × Obj} : ∀ {is : List Nat} {led : List (Addr × Obj)} {os : List Obj} {m : Nat}, gL (setM led is os) m = some z →
    (∃ (k : Nat) (o : Obj) (y : Addr × Obj), is[k]? = some m ∧ os[k]? = some o ∧ gL led m = some y ∧ z = (y.1, o)) ∨ ((∀ k : Nat, is[k]? = some m → os[k]? = none) ∧ gL led m = some z)
  | [], led, os, m, h => .inr ⟨fun k e => by simp at e, by cases os <;> exact h⟩
  | i :: is, led, [], m, h => .inr ⟨fun k e => by simp, h⟩
  | i :: is, led, o :: os, m, h => by
    rcases setM_get (is := is) (led := sL led i (fun _ => o)) (os := os) (m := m) h with ⟨k, o', y, h1, h2, h3, h4⟩ | ⟨h1, h2⟩
    · rcases sL_get _ h3 with ⟨e, y', g1, g2⟩ | ⟨e, g⟩
      · subst e
        exact .inl ⟨k + 1, o', y', by simpa using h1, by simpa using h2, g1, by rw [h4, g2]⟩
      · exact .inl ⟨k + 1, o', y, by simpa using h1, by simpa using h2, g, h4⟩
    · rcases sL_get _ h2 with ⟨e, y', g1, g2⟩ | ⟨e, g⟩
      · subst e
        exact .inl ⟨0, o, y', by simp, by simp, g1, g2⟩
      · refine .inr ⟨fun k hk => ?_, g⟩
        cases k with
        | zero => simp at hk; exact absurd hk.symm e
        | succ k => simp at hk ⊢; simpa using h1 k hk
theorem putAt_get {s : Shared} : ∀ {sel : List (Addr × Obj)} {os : List Obj}, PutAt s sel os → ∀ (k : Nat) (y : Addr × Obj) (o : Obj), sel[k]? = some y → os[k]? = some o → s.heap.get? y.1 = some o
  | [], os, _, k, y, o, h, _ => by simp at h
  | y :: ys, [], _, k, z, o, _, h => by simp at h
  | y :: ys, o :: os, hp, k, z, o', h1, h2 => by
    cases k with
    | zero => simp at h1 h2; subst h1; subst h2; exact hp.1
    | succ k => simp at h1 h2; exact putAt_get hp.2 k z o' h1 h2

section
variable {M : Model} {R : Result → Shared → Prop} {s₀ : Shared} {L₀ : List Addr}
theorem Rep.top' {E : Env0} {c : Conf} {s : Shared} (h : Rep E s₀ L₀ c s) : Top E.top s := h.top
theorem nd_inj {α : Type} : ∀ {l : List α}, l.Nodup → ∀ {i j : Nat} {a : α}, l[i]? = some a → l[j]? = some a → i = j
  | [], _, i, j, a, h, _ => by simp at h
  | x :: l, nd, i, j, a, h1, h2 => by
    rw [List.nodup_cons] at nd
    cases i with
    | zero =>
      cases j with
      | zero => rfl
      | succ j =>
        simp at h1 h2
        subst h1
        exact absurd (List.mem_of_getElem? h2) nd.1
    | succ i =>
      cases j with
      | zero =>
        simp at h1 h2
        subst h2
        exact absurd (List.mem_of_getElem? h1) nd.1
      | succ j =>
        simp at h1 h2
        rw [nd_inj nd.2 h1 h2]
theorem nd_of {α : Type} : ∀ {l : List α}, (∀ (i j : Nat) (a : α), l[i]? = some a → l[j]? = some a → i = j) → l.Nodup
  | [], _ => List.nodup_nil
  | x :: l, h => by
    rw [List.nodup_cons]
    refine ⟨fun hx => ?_, nd_of fun i j a h1 h2 => ?_⟩
    · obtain ⟨j, hj⟩ := List.mem_iff_getElem?.mp hx
      have := h 0 (j + 1) x (by simp) (by simpa using hj)
      omega
    · have := h (i + 1) (j + 1) a (by simpa using h1) (by simpa using h2)
      omega
theorem gL_inj {led : List (Addr × Obj)} (nd : (led.map (·.1)).Nodup) {m n : Nat} {y z : Addr × Obj} (hy : gL led m = some y) (hz : gL led n = some z) (e : y.1 = z.1) : m = n :=
  nd_inj nd (a := y.1) (by rw [List.getElem?_map, gL_lt.mp hy]; rfl) (by rw [List.getElem?_map, gL_lt.mp hz, e]; rfl)

theorem xstep_sound {E : Env0} {X : Xs} {ρ : Ep} {c c' : Conf} {v : View} {s s' : Shared} {r : Result} (r0 : Rep E s₀ L₀ c s) (h : xstep X ρ c = some (c', v)) (hx : XPost X v s ρ r s') : Rep (withX E ρ.x) s₀ L₀ c' s' := by
  obtain ⟨Γ, p, t, κ, led, nx, toks, gens⟩ := c
  obtain ⟨den, S, top, x, it⟩ := E
  simp only [xstep] at h
  split at h
  · rename_i d hh g l k
    cases hp : pickO led X.sel with
    | none => rw [hp] at h; cases h
    | some sel =>
      rw [hp] at h
      simp only [Option.some.injEq, Prod.mk.injEq] at h
      obtain ⟨rfl, rfl⟩ := h
      obtain ⟨hx1, hx2, hI, hr, hput, hnew, hnd, hhi, hch, hgens⟩ := hx
      obtain ⟨e1, e2⟩ := pickO_get hp
      have lt : ∀ y ∈ led, y.1 < s.heap.objs.size := fun y hy => by
        obtain ⟨n, e⟩ := mem_getL hy
        exact Heap.lt_size (r0.led n y e)
      -- a changed address belongs to the ledger
      have chl : ∀ b ∈ ((sel.take (X.f ρ sel).2.1.length).map (·.1)), ∃ (k : Nat) (y : Addr × Obj) (o : Obj), sel[k]? = some y ∧ (X.f ρ sel).2.1[k]? = some o ∧ y.1 = b := by
        intro b hb
        obtain ⟨y, hy, rfl⟩ := List.mem_map.mp hb
        obtain ⟨k, hk, ek⟩ := List.getElem_of_mem hy
        rw [List.length_take] at hk
        rw [List.getElem_take] at ek
        refine ⟨k, y, (X.f ρ sel).2.1[k]'(by omega), ?_, by simp, rfl⟩
        rw [← ek]; exact List.getElem?_eq_getElem _
      have inled : ∀ b ∈ ((sel.take (X.f ρ sel).2.1.length).map (·.1)), ∃ m y, gL led m = some y ∧ y.1 = b := by
        intro b hb
        obtain ⟨k, y, o, h1, h2, h3⟩ := chl b hb
        have hk : k < sel.length := by
          rcases Nat.lt_or_ge k sel.length with h | h
          · exact h
          · rw [List.getElem?_eq_none h] at h1; cases h1
        exact ⟨_, y, e2 k (X.sel[k]'(by omega)) y (by simp) h1, h3⟩
      have oldled : ∀ m z, gL (setM led X.sel (X.f ρ sel).2.1) m = some z → s'.heap.get? z.1 = some z.2 := by
        intro m z hz
        rcases setM_get hz with ⟨k, o, y, h1, h2, h3, rfl⟩ | ⟨h1, h2⟩
        · have hk : k < X.sel.length := by
            rcases Nat.lt_or_ge k X.sel.length with h | h
            · exact h
            · rw [List.getElem?_eq_none h] at h1; cases h1
          have hy := e2 k m (sel[k]'(by omega)) h1 (List.getElem?_eq_getElem _)
          rw [h3] at hy
          cases hy
          exact putAt_get (sel := sel) hput k (sel[k]'(by omega)) o (List.getElem?_eq_getElem _) h2
        · refine hch.keep _ _ (r0.led m z h2) fun hb => ?_
          obtain ⟨k, y, o, q1, q2, q3⟩ := chl _ hb
          have hk : k < sel.length := by
            rcases Nat.lt_or_ge k sel.length with h | h
            · exact h
            · rw [List.getElem?_eq_none h] at q1; cases q1
          have q4 := e2 k (X.sel[k]'(by omega)) y (by simp) q1
          have q5 := gL_inj r0.nodup q4 h2 q3
          have q6 : X.sel[k]? = some m := by rw [← q5]; exact List.getElem?_eq_getElem _
          rw [h1 k q6] at q2
          cases q2
      have fst := setM_fst X.sel led (X.f ρ sel).2.1
      have memfst : ∀ z ∈ setM led X.sel (X.f ρ sel).2.1, ∃ z' ∈ led, z'.1 = z.1 := fun z hz => by
        have : z.1 ∈ (setM led X.sel (X.f ρ sel).2.1).map (·.1) := List.mem_map_of_mem hz
        rw [fst] at this
        obtain ⟨z', h1, h2⟩ := List.mem_map.mp this
        exact ⟨z', h1, h2⟩
      refine ⟨fun m z e => ?_, ?_, fun a o e => ?_, fun a o e z hz => ?_, fun j => ?_, fun z hz => ?_, Nat.le_trans r0.size hch.size, fun b o e hb => ?_, hx2.symm, hgens, hch.dr.trans r0.dr, hch.os.trans r0.os⟩
      · rcases List.mem_append.mp (getL_mem e) with hz | hz
        · obtain ⟨m', e'⟩ := mem_getL hz
          exact oldled m' z e'
        · exact hnew z hz
      · show ((setM led X.sel (X.f ρ sel).2.1 ++ (X.f ρ sel).2.2).map (·.1)).Nodup
        rw [List.map_append, fst]
        refine List.nodup_append.mpr ⟨r0.nodup, hnd, fun a ha b hb => ?_⟩
        obtain ⟨y, hy, rfl⟩ := List.mem_map.mp ha
        obtain ⟨z, hz, rfl⟩ := List.mem_map.mp hb
        exact Nat.ne_of_lt (Nat.lt_of_lt_of_le (lt y hy) (hhi z hz))
      · refine hch.keep _ _ (r0.top a o e) fun hb => ?_
        obtain ⟨m, y, q1, q2⟩ := inled a hb
        exact r0.off a o e y (getL_mem q1) q2
      · rcases List.mem_append.mp hz with hz | hz
        · obtain ⟨z', h1, h2⟩ := memfst z hz
          rw [← h2]; exact r0.off a o e z' h1
        · intro q
          have := hhi z hz
          have h2 := Heap.lt_size (r0.top a o e)
          rw [q] at this
          exact absurd h2 (Nat.not_lt.mpr this)
      · show ρ.x (0 + j) = s'.heap.objs.size + j
        rw [hx1, Nat.zero_add]
      · rcases List.mem_append.mp hz with hz | hz
        · obtain ⟨z', h1, h2⟩ := memfst z hz
          rw [← h2]; exact r0.newer z' h1
        · exact .inr (Nat.le_trans r0.size (hhi z hz))
      · refine hch.keep _ _ (r0.keep b o e hb) fun q => ?_
        obtain ⟨m, y, q1, q2⟩ := inled b q
        rcases r0.newer y (getL_mem q1) with z | z
        · rw [q2] at z; exact hb z
        · rw [q2] at z; exact absurd (Heap.lt_size e) (Nat.not_lt.mpr z)
  · cases h

theorem run2_sound (hS : ∀ E : Env0, True) (hC : CmpOk M) (hN : NextOk M) (hA : PushOk M) : ∀ (es : List Ev) (E : Env0) (hd : E.den = M.den) (hS : E.S = ⟨M.prog, M.w.params⟩) (xs : List Xs) (c : Conf) (s : Shared),
    (∀ ρ, (run2 es E xs ρ c [] []).ok = true) → (∀ ρ, ∀ y ∈ (run2 es E xs ρ c [] []).ob, y.1 = y.2) → (∀ ρ, AllObs M E.top xs ρ (run2 es E xs ρ c [] []).pr.reverse) → Rep E s₀ L₀ c s →
    (∀ ρ x s', Is xs ρ → Rep (withX E x) s₀ L₀ (run2 es E xs ρ c [] []).c s' → Goes M R (run2 es E xs ρ c [] []).c.Γ (run2 es E xs ρ c [] []).c.p (run2 es E xs ρ c [] []).c.t (run2 es E xs ρ c [] []).c.κ s') →
    Goes M R c.Γ c.p c.t c.κ s
  | [], E, hd, hS, xs, c, s, hok, ho, hp, r, next => by
    have ρ : Nat → Ep := fun _ => ⟨fun _ => 0, 0, 0, 0, .none, #[], default, [], fun _ => 0⟩
    have e := hok ρ
    cases xs with
    | nil =>
      refine next ρ E.x s trivial ?_
      cases E; exact r
    | cons X xs => cases e
  | e :: es, E, hd, hS, xs, c, s, hok, ho, hp, r, next => by
    have ρ₀ : Nat → Ep := fun _ => ⟨fun _ => 0, 0, 0, 0, .none, #[], default, [], fun _ => 0⟩
    have key : ∀ e', (∀ ρ, run2 (e :: es) E xs ρ c [] [] = (match step1 E e' c [] [] with
        | some (c', ob', pr') => run2 es E xs ρ c' (ob' ++ []) (pr'.map .p ++ [])
        | none => ⟨false, c, [], []⟩)) → Goes M R c.Γ c.p c.t c.κ s := by
      intro e' heq
      cases h : step1 E e' c [] [] with
      | none =>
        have := hok ρ₀
        rw [heq ρ₀, h] at this; cases this
      | some y =>
        obtain ⟨c', ob', pr'⟩ := y
        have heq' : ∀ ρ, run2 (e :: es) E xs ρ c [] [] = ⟨(run2 es E xs ρ c' [] []).ok, (run2 es E xs ρ c' [] []).c, (run2 es E xs ρ c' [] []).ob ++ ob', (run2 es E xs ρ c' [] []).pr ++ pr'.map .p⟩ := by
          intro ρ
          rw [heq ρ, h]
          dsimp only
          rw [run2_acc, List.append_nil, List.append_nil]
        have prs : ∀ (l : List Prop) (ob : List Ob) (ρ : Nat → Ep), AllObs M E.top xs ρ (l.map Ob.p ++ ob) → (∀ P ∈ l, P) ∧ AllObs M E.top xs ρ ob := by
          intro l
          induction l with
          | nil => intro ob ρ h; exact ⟨fun P hP => (nomatch hP), h⟩
          | cons Q l ih =>
            intro ob ρ h
            have h : Q ∧ AllObs M E.top xs ρ (l.map Ob.p ++ ob) := by
              cases xs <;> simpa only [List.map_cons, List.cons_append, AllObs] using h
            obtain ⟨h1, h2⟩ := ih ob ρ h.2
            exact ⟨fun P hP => by rcases List.mem_cons.mp hP with rfl | hP; exact h.1; exact h1 P hP, h2⟩
        have hp' : ∀ ρ, (∀ P ∈ pr', P) ∧ AllObs M E.top xs ρ (run2 es E xs ρ c' [] []).pr.reverse := by
          intro ρ
          have := hp ρ
          rw [heq' ρ] at this
          dsimp only at this
          rw [List.reverse_append, ← List.map_reverse] at this
          obtain ⟨h1, h2⟩ := prs _ _ ρ this
          exact ⟨fun P hP => h1 P (List.mem_reverse.mpr hP), h2⟩
        refine step1_sound hd hS hC hN hA h (fun y hy => ?_) (hp' ρ₀).1 r fun s' r' => run2_sound (fun _ => trivial) hC hN hA es E hd hS xs c' s' (fun ρ => ?_) (fun ρ y hy => ?_) (fun ρ => (hp' ρ).2) r' (fun ρ x s2 hI r2 => ?_)
        · refine ho ρ₀ y ?_
          rw [heq' ρ₀]; exact List.mem_append.mpr (.inr hy)
        · have := hok ρ
          rw [heq' ρ] at this; exact this
        · refine ho ρ y ?_
          rw [heq' ρ]; exact List.mem_append.mpr (.inl hy)
        · have := next ρ x s2 hI
          rw [heq' ρ] at this
          exact this r2
    cases e with
    | x =>
      cases xs with
      | nil => have := hok ρ₀; cases this
      | cons X xs =>
        have sh : ∀ (ρ : Nat → Ep) (ρ' : Ep), (fun n => (fun n => match n with | 0 => ρ' | n + 1 => ρ n : Nat → Ep) (n + 1)) = ρ := fun ρ ρ' => rfl
        obtain ⟨Γ, p, t, κ, led, nx, toks, gens⟩ := c
        -- the call's view does not lean on the epoch
        have hv : ∃ d h g l k sel, t = .call d h g l k ∧ pickO led X.sel = some sel ∧ ∀ ρ, xstep X ρ ⟨Γ, p, t, κ, led, nx, toks, gens⟩ = some (⟨Γ, p, k (X.f ρ sel).1, κ, setM led X.sel (X.f ρ sel).2.1 ++ (X.f ρ sel).2.2, 0, ρ.toks, X.gs gens⟩, ⟨d, markOver h Γ.handled Γ.past, markOver h Γ.own none, Γ.past, kinds ((Γ.code, p) :: Γ.below), sel, gens⟩) := by
          cases t with
          | call d h g l k =>
            cases hs : pickO led X.sel with
            | none =>
              have := hok ρ₀
              simp only [run2, xstep, hs] at this; cases this
            | some sel => exact ⟨d, h, g, l, k, sel, rfl, rfl, fun ρ => by simp only [xstep, hs]⟩
          | _ => have := hok ρ₀; simp only [run2, xstep] at this; cases this
        obtain ⟨d, h, g, l, k, sel, rfl, hsel, hx⟩ := hv
        generalize hvv : (⟨d, markOver h Γ.handled Γ.past, markOver h Γ.own none, Γ.past, kinds ((Γ.code, p) :: Γ.below), sel, gens⟩ : View) = v at hx
        generalize hxo : xobs X v ⟨Γ, p, .call d h g l k, κ, led, nx, toks, gens⟩ = xo
        have heq' : ∀ ρ, run2 (.x :: es) E (X :: xs) ρ ⟨Γ, p, .call d h g l k, κ, led, nx, toks, gens⟩ [] [] =
            (fun o : Out2 => ⟨o.ok, o.c, o.ob, o.pr ++ xo⟩) (run2 es (withX E (ρ 0).x) xs (fun n => ρ (n + 1)) ⟨Γ, p, k (X.f (ρ 0) sel).1, κ, setM led X.sel (X.f (ρ 0) sel).2.1 ++ (X.f (ρ 0) sel).2.2, 0, (ρ 0).toks, X.gs gens⟩ [] []) := by
          intro ρ
          simp only [run2, hx]
          rw [run2_acc, List.append_nil, List.append_nil, hxo]
        have hxs : ∀ (ρ : Nat → Ep) (l : List Ob), AllObs M E.top (X :: xs) ρ (xo.reverse ++ l) → (∀ K, X.C = some K → K (envsOf ((Γ.code, p) :: Γ.below))) ∧ ReqOk M E.top X v ∧ (X.I (ρ 0) → AllObs M E.top xs (fun n => ρ (n + 1)) l) := by
          intro ρ l hl
          rw [← hxo] at hl
          simp only [xobs] at hl
          cases hC : X.C with
          | none =>
            rw [hC] at hl
            exact ⟨fun K hK => (by cases hK), hl.1, hl.2⟩
          | some K =>
            rw [hC] at hl
            exact ⟨fun K' hK => (by cases hK; exact hl.1), hl.2.1, hl.2.2⟩
        have hall : ∀ ρ : Nat → Ep, (∀ K, X.C = some K → K (envsOf ((Γ.code, p) :: Γ.below))) ∧ ReqOk M E.top X v ∧ (X.I (ρ 0) → AllObs M E.top xs (fun n => ρ (n + 1)) (run2 es (withX E (ρ 0).x) xs (fun n => ρ (n + 1)) ⟨Γ, p, k (X.f (ρ 0) sel).1, κ, setM led X.sel (X.f (ρ 0) sel).2.1 ++ (X.f (ρ 0) sel).2.2, 0, (ρ 0).toks, X.gs gens⟩ [] []).pr.reverse) := by
          intro ρ
          have := hp ρ
          rw [heq' ρ] at this
          dsimp only at this
          rw [List.reverse_append] at this
          exact hxs ρ _ this
        have hreq : ReqOk M E.top X v := (hall ρ₀).2.1
        have hv2 : v.sel = sel := by rw [← hvv]
        have hv3 : v.gens = gens := by rw [← hvv]
        obtain ⟨e1, e2⟩ := pickO_get hsel
        have selin : ∀ y ∈ sel, ∃ m, gL led m = some y := by
          intro y hy
          obtain ⟨j, hj, ej⟩ := List.getElem_of_mem hy
          exact ⟨_, e2 j (X.sel[j]'(by omega)) y (by simp) (by rw [← ej]; simp)⟩
        have hq := hreq (Γ.enter d h p) p s (by rw [← hvv]; exact ⟨⟨_, _, rfl⟩, rfl, rfl, rfl, rfl, rfl, (hall ρ₀).1⟩) r.top (by rw [hv2]; exact fun y hy => by obtain ⟨m, q⟩ := selin y hy; exact r.led m y q)
          (by
            rw [hv2]
            intro y hy
            obtain ⟨m, q⟩ := selin y hy
            cases ht : E.top y.1 with
            | none => rfl
            | some o => exact absurd rfl (r.off _ _ ht y (getL_mem q)))
          (by
            intro nd
            rw [hv2]
            refine nd_of fun i j z h1 h2 => ?_
            simp only [List.getElem?_map, Option.map_eq_some_iff] at h1 h2
            obtain ⟨y1, h1, rfl⟩ := h1
            obtain ⟨y2, h2, h3⟩ := h2
            have li : i < sel.length := by
              rcases Nat.lt_or_ge i sel.length with h | h
              · exact h
              · rw [List.getElem?_eq_none h] at h1; cases h1
            have lj : j < sel.length := by
              rcases Nat.lt_or_ge j sel.length with h | h
              · exact h
              · rw [List.getElem?_eq_none h] at h2; cases h2
            have g1 := e2 i (X.sel[i]'(by omega)) y1 (by simp) h1
            have g2 := e2 j (X.sel[j]'(by omega)) y2 (by simp) h2
            have g3 := gL_inj r.nodup g1 g2 h3.symm
            exact nd_inj nd (a := X.sel[i]'(by omega)) (by simp) (by rw [g3]; simp))
          (by rw [hv3]; exact r.gn)
        obtain ⟨res, s', h1, ρ', hpost⟩ := hq
        have hr : res = (X.f ρ' sel).1 := by have := hpost.r; rw [hv2] at this; exact this
        have r' : Rep (withX E ρ'.x) s₀ L₀ ⟨Γ, p, k (X.f ρ' sel).1, κ, setM led X.sel (X.f ρ' sel).2.1 ++ (X.f ρ' sel).2.2, 0, ρ'.toks, X.gs gens⟩ s' := xstep_sound r (hx ρ') hpost
        have go := run2_sound (fun _ => trivial) hC hN hA es (withX E ρ'.x) (by cases E; exact hd) (by cases E; exact hS) xs ⟨Γ, p, k (X.f ρ' sel).1, κ, setM led X.sel (X.f ρ' sel).2.1 ++ (X.f ρ' sel).2.2, 0, ρ'.toks, X.gs gens⟩ s'
          (fun ρ => by have := hok (fun n => match n with | 0 => ρ' | n + 1 => ρ n); rw [heq'] at this; exact this)
          (fun ρ y hy => ho (fun n => match n with | 0 => ρ' | n + 1 => ρ n) y (by rw [heq']; exact hy))
          (fun ρ => by
            have q := (hall (fun n => match n with | 0 => ρ' | n + 1 => ρ n)).2.2 hpost.I
            cases E; exact q)
          r'
          (fun ρ x s2 hI r2 => by
            have := next (fun n => match n with | 0 => ρ' | n + 1 => ρ n) x s2 ⟨hpost.I, hI⟩
            rw [heq'] at this
            refine this ?_
            cases E; exact r2)
        obtain ⟨e, s2, g1, g2⟩ := go
        rw [← hr] at g1
        exact ⟨e, s2, .call h1 g1, g2⟩
    | t => exact key _ (fun ρ => rfl)
    | l a => exact key _ (fun ρ => rfl)
    | i k => exact key _ (fun ρ => rfl)
    | c b => exact key _ (fun ρ => rfl)
    | n i j q => exact key _ (fun ρ => rfl)
    | e i j => exact key _ (fun ρ => rfl)
    | p i => exact key _ (fun ρ => rfl)
end
end Mine
end
noncomputable section
open PySem PySem.W PyProof.Rows PySem.Calls
set_option maxRecDepth 100000
set_option maxHeartbeats 8000000
set_option linter.unusedVariables false
namespace Mine
section
variable {prog : Program} {w : World} {A : Around} {s : Shared} {R : Result → Shared → Prop}
theorem next_item {it l : Addr} {m : Int} {xs : Array Value} {n : Nat} {dd : Option Addr} {sl : Array (Option Value)} {x : Value} (hit : s.heap.get? it = some (iterObj (.ref l) m)) (hl : s.heap.get? l = some ⟨.type "list", dd, .seq xs n, sl⟩) (hx : xs[m.toNat]? = some x)
    (hR : ∀ h', h'.get? it = some (iterObj (.ref l) (m + 1)) → Heap.SameBut it s.heap h' → R (.ok (.ret x)) { s with heap := h' }) :
    codeAny (model prog w) A (.call (.builtin "list_iterator.__next__") ⟨[.ref it], []⟩) R s := by
  refine codeAny_call_builtin slot_listiter_next.plain entry_listiter_next (slot_listiter_next.check _ _ _ _ _ _ _ _ ⟨_, hit, rfl⟩ (args_listiter_next _) ?_)
  show wpAny _ _ (field (.ref it) 0 >>= _) _ _ s
  refine wpAny_bind (wpAny_field hit rfl (x := .ref l) rfl ?_)
  show wpAny _ _ (if (Value.ref l == Value.none) = true then _ else _) _ _ s
  rw [if_neg (show ¬ ((Value.ref l == Value.none) = true) from Bool.false_ne_true)]
  show wpAny _ _ (field (.ref it) 1 >>= _) _ _ s
  refine wpAny_bind (wpAny_field hit rfl (x := .int m 0) rfl ?_)
  show wpAny _ _ (seqItems? (.ref l) >>= _) _ _ s
  refine wpAny_bind (wpAny_seqItems hl rfl ?_)
  simp only [hx]
  refine wpAny_bind (wpAny_setField hit rfl (by simp) (wpAny_pure (hR _ ?_ (Heap.SameBut.update ..))))
  exact Heap.get?_update_self _ hit rfl

theorem next_end {it l : Addr} {m : Int} {xs : Array Value} {n : Nat} {dd : Option Addr} {sl : Array (Option Value)} (hh : A.handled = none) (hit : s.heap.get? it = some (iterObj (.ref l) m)) (hl : s.heap.get? l = some ⟨.type "list", dd, .seq xs n, sl⟩) (hx : xs[m.toNat]? = none)
    (hR : ∀ h', h'.get? it = some (iterObj .none m) → Heap.SameBut it s.heap h' → R (.error (.ref (s.heap.objs.size + 1))) { s with heap := (h'.push (tupObj [])).push (stopObj s.heap.objs.size) }) :
    codeAny (model prog w) A (.call (.builtin "list_iterator.__next__") ⟨[.ref it], []⟩) R s := by
  refine codeAny_call_builtin slot_listiter_next.plain entry_listiter_next (slot_listiter_next.check _ _ _ _ _ _ _ _ ⟨_, hit, rfl⟩ (args_listiter_next _) ?_)
  show wpAny _ _ (field (.ref it) 0 >>= _) _ _ s
  refine wpAny_bind (wpAny_field hit rfl (x := .ref l) rfl ?_)
  show wpAny _ _ (if (Value.ref l == Value.none) = true then _ else _) _ _ s
  rw [if_neg (show ¬ ((Value.ref l == Value.none) = true) from Bool.false_ne_true)]
  show wpAny _ _ (field (.ref it) 1 >>= _) _ _ s
  refine wpAny_bind (wpAny_field hit rfl (x := .int m 0) rfl ?_)
  show wpAny _ _ (seqItems? (.ref l) >>= _) _ _ s
  refine wpAny_bind (wpAny_seqItems hl rfl ?_)
  simp only [hx]
  refine wpAny_bind (wpAny_rule (wpAny_bind (wpAny_setField hit rfl (by simp) ?_)))
  show wpAny _ _ (newExc (.type "StopIteration") [] >>= _) _ _ _
  refine wpAny_bind ?_
  simp only [newExc, newTuple]
  refine wpAny_bind (wpAny_newObj_type ?_ (by size_fits))
  refine wpAny_bind (m := firstArgMember _ _) (wpAny_of_eq (a := Value.none) (by first | rfl | (simp only [firstArgMember]; rfl)) ?_)
  refine wpAny_newObj_type ?_ (by size_fits)
  simp only [raiseNew]
  refine wpAny_bind (wpAny_handled ?_)
  rw [show A.in1.handled = none from hh]
  refine wpAny_bind (wpAny_pure (wpAny_throw ?_))
  have q := hR (s.heap.update it (Obj.mapFields (·.setIfInBounds 0 .none))) (Heap.get?_update_self _ hit rfl) (Heap.SameBut.update ..)
  have e : (s.heap.update it (Obj.mapFields (·.setIfInBounds 0 .none))).objs.size = s.heap.objs.size := (Heap.SameBut.update ..).1
  rw [Heap.size_push, e]
  exact q
end
/-- any rule of the library at a context -/
noncomputable def AΓ (Γ : Ctx) : Around := { handled := Γ.handled, depth := frameCount Γ.below, frames := none, guards := none, units := unitsOf Γ.below }
theorem code_any {M : Model} {R : Result → Shared → Prop} {Γ : Ctx} {p : Pos} {s : Shared} (h : codeAny M (AΓ Γ) Γ.code R s) : wpCode M Γ R p s :=
  h Γ p rfl ⟨rfl, Nat.le_refl _, fun l hl => (nomatch hl), fun l hl => (nomatch hl), Nat.le_refl _⟩
theorem nextOk (w : World) : NextOk (MM w) := by
  refine ⟨?_, ?_⟩
  · intro Γ p s it l m xs n dd sl x hc hit hl hx
    obtain ⟨r, s', h1, h2, h', h3, h4, h5⟩ := code_any (M := MM w) (Γ := Γ) (p := p) (s := s) (R := fun r s' => r = .ok (.ret x) ∧ ∃ h', s' = { s with heap := h' } ∧ h'.get? it = some (iterObj (.ref l) (m + 1)) ∧ Heap.SameBut it s.heap h')
      (by rw [hc]; exact next_item hit hl hx fun h' g1 g2 => ⟨rfl, h', rfl, g1, g2⟩)
    subst h2 h3
    exact ⟨h', h1, h4, h5⟩
  · intro Γ p s it l m xs n dd sl hc hh hit hl hx
    obtain ⟨r, s', h1, h2, h', h3, h4, h5⟩ := code_any (M := MM w) (Γ := Γ) (p := p) (s := s) (R := fun r s' => r = .error (.ref (s.heap.objs.size + 1)) ∧ ∃ h', s' = { s with heap := (h'.push (tupObj [])).push (stopObj s.heap.objs.size) } ∧ h'.get? it = some (iterObj .none m) ∧ Heap.SameBut it s.heap h')
      (by rw [hc]; exact next_end hh hit hl hx fun h' g1 g2 => ⟨rfl, h', rfl, g1, g2⟩)
    subst h2 h3
    exact ⟨h', h1, h4, h5⟩
theorem push_item {prog : Program} {w : World} {A : Around} {s : Shared} {R : Result → Shared → Prop} {a : Addr} {v : Value} {xs : Array Value} {n : Nat} (ha : s.heap.get? a = some ⟨.type "list", none, .seq xs n, #[]⟩) (hz : xs.size ≤ sizeLine)
    (hR : ∀ h', h'.get? a = some ⟨.type "list", none, .seq (xs.push v) (n + 1), #[]⟩ → Heap.SameBut a s.heap h' → R (.ok (.ret .none)) { s with heap := h' }) :
    codeAny (model prog w) A (.call (.builtin "list.append") ⟨[.ref a, v], []⟩) R s := by
  refine codeAny_call_builtin slot_list_append.plain entry_list_append (slot_list_append.check _ _ _ _ _ _ _ _ ⟨_, ha, rfl⟩ (args_list_append _ _) ?_)
  show wpAny _ _ (updateSeq a (·.push v) >>= fun _ => ret .none) _ _ s
  refine wpAny_bind (wpAny_updateSeq ha rfl (wpAny_pure (hR _ ?_ (Heap.SameBut.update ..))))
  rw [Heap.get?_update_self _ ha rfl]
  have : ¬ ((xs.push v).size == xs.size) = true := by simp
  simp [Obj.mapSeq]
theorem pushOk (w : World) : PushOk (MM w) := by
  intro Γ p s a v xs n hc ha hz
  obtain ⟨r, s', h1, h2, h', h3, h4, h5⟩ := code_any (M := MM w) (Γ := Γ) (p := p) (s := s) (R := fun r s' => r = .ok (.ret .none) ∧ ∃ h', s' = { s with heap := h' } ∧ h'.get? a = some ⟨.type "list", none, .seq (xs.push v) (n + 1), #[]⟩ ∧ Heap.SameBut a s.heap h')
    (by rw [hc]; exact push_item ha hz fun h' g1 g2 => ⟨rfl, h', rfl, g1, g2⟩)
  subst h2 h3
  exact ⟨h', h1, h4, h5⟩
end Mine
end
noncomputable section
open PySem PySem.W PyProof.Rows
set_option maxRecDepth 100000
set_option maxHeartbeats 8000000
set_option linter.unusedVariables false
namespace Mine
/-- the two rows of the world that the law asks -/
noncomputable def wS (w : World) (a b : Bool) : World := (w.withFollow "special-get-raises" a).withFollow "comprehension-iter-twice" b
theorem wS_self (w : World) : wS w (w.params.followText "special-get-raises") (w.params.followText "comprehension-iter-twice") = w := by
  unfold wS
  rw [World.withFollow_self, World.withFollow_self]
noncomputable abbrev topG (w : World) : Nat → Option Obj := (topT w.params).get
noncomputable def EN (w : World) (x : Nat → Addr) (it : Nat → Value) : Env0 := ⟨denQ, ⟨pw, w.params⟩, (topT w.params).get, x, it⟩
theorem top_low {P : Params} {a : Nat} {o : Obj} (h : (topT P).get a = some o) : a < 828 ∧ a ≠ 773 := by
  have h1 : a ∈ (topT P).all.map (·.1) := List.mem_map.mpr ⟨_, tk_get h, rfl⟩
  rw [← topAs_is P] at h1
  have : topAs.all (fun a => decide (a < 828 ∧ a ≠ 773)) = true := by decide +kernel
  exact of_decide_eq_true (List.all_eq_true.mp this a h1)
noncomputable abbrev TopIn (w : World) (s : Shared) : Prop := Top (topG w) s
theorem off_low {w : World} {a : Nat} (h : 828 ≤ a ∨ a = 773) : topG w a = none := by
  cases e : topG w a with
  | none => rfl
  | some o =>
    have := top_low e
    rcases h with h | h
    · exact absurd this.1 (Nat.not_lt.mpr h)
    · exact absurd h this.2
theorem top_size {w : World} {s : Shared} (T : TopIn w s) : 828 ≤ s.heap.objs.size := by
  have h : topG w 827 = some (o827 w.params) := by kernel_rfl
  exact Heap.lt_size (T 827 _ h)
theorem Top.ch {w : World} {L : List Addr} {s s' : Shared} (T : TopIn w s) (h : Ch L s s') (hL : ∀ b ∈ L, topG w b = none) : TopIn w s' := fun b o e =>
  h.keep b o (T b o e) fun q => by rw [hL b q] at e; cases e

noncomputable def cx (c : Code) (ks : List Kd) (D : Nat → CD × Pos) : Ctx := ⟨c, none, none, mkB ks D, none⟩
noncomputable def conf (Γ : Ctx) (p : Pos) (led : List (Addr × Obj)) (toks : Nat) (gens : List GenState) : Conf := ⟨Γ, p, denQ Γ.code, .base, led, 0, toks, gens⟩
noncomputable def callCode (f : Nat) (args : List Value) : Code := .call (.ref f) ⟨args, []⟩
noncomputable def biCode (id : String) (args : List Value) : Code := .call (.builtin id) ⟨args, []⟩
/-- a run's knobs -/
structure Sp where
  m : Mode
  ids : List String
  fs : List Nat
  lp : Bool
  st : Nat := 0
noncomputable def memS (x : String) : List String → Bool
  | [] => false
  | y :: r => match decide (x = y) with
    | true => true
    | false => memS x r
noncomputable def memN (x : Nat) : List Nat → Bool
  | [] => false
  | y :: r => match Nat.beq x y with
    | true => true
    | false => memN x r
noncomputable def isx (k : Sp) (c : Conf) : Bool := match c with
  | ⟨_, _, t, _, _, _, _, _⟩ => match t with
    | .call d _ _ _ _ => match d with
      | .compStart .. => k.lp
      | .forLoop .. => k.lp
      | .whileLoop e _ _ _ => match e with
        | .Constant .. => k.lp
        | _ => false
      | .builtin id _ => memS id k.ids
      | .call f _ => match f with
        | .builtin id => memS id k.ids
        | .type id => memS id k.ids
        | .ref f => memN f k.fs
        | _ => false
      | _ => false
    | _ => false
/-- where a run ends: at the base; loops' heads; the load of `st` -/
noncomputable def stopB (st : Nat) (c : Conf) : Bool := match c with
  | ⟨_, _, t, κ, _, _, _, _⟩ => match κ with
    | .base => match t with
      | .pure fin => match fin with
        | .done _ => true
        | .again d => match d with
          | .compLoop .. => true
          | .forLoop .. => true
          | .whileLoop .. => true
          | .builtin id _ => memS id ["list.extend.loop", "list.__iadd__", "list.__init__"]
          | _ => false
      | .raise _ => true
      | .load a _ _ => match st with
        | 0 => false
        | _ => Nat.beq a st
      | _ => false
    | _ => false
noncomputable def can (sp : Sp) (w : World) (xs : List Xs) (ρc : Nat → Ep) (c : Conf) : List Ev := run0 sp.m (isx sp) (stopB sp.st) 20000 (EN w (fun j => 5000 + j) (fun _ => .none)) xs ρc 0 c
noncomputable def sim (sp : Sp) (w : World) (x : Nat → Addr) (it : Nat → Value) (xs0 xs : List Xs) (ρc : Nat → Ep) (c0 c : Conf) (ρ : Nat → Ep) : Out2 := run2 (can sp w xs0 ρc c0) (EN w x it) xs ρ c [] []
noncomputable def proj (pick : List Nat) (o : Out2) : Bool × List Addr × List Ob × Option (List (Addr × Obj)) × List GenState × Sem Fin × K × Ctx := (o.ok, o.ob.map (·.1), o.pr.reverse, pickO o.c.led pick, o.c.gens, o.c.t, o.c.κ, o.c.Γ)
noncomputable def want (o : Out2) (pr : List Ob) (led : List (Addr × Obj)) (gens : List GenState) (t : Sem Fin) (Γ : Ctx) : Bool × List Addr × List Ob × Option (List (Addr × Obj)) × List GenState × Sem Fin × K × Ctx := (true, o.ob.map (·.2), pr, some led, gens, t, .base, Γ)
noncomputable def xS (s : Shared) : Nat → Addr := fun j => s.heap.objs.size + j

theorem goes_code {M : Model} {R : Result → Shared → Prop} {Γ : Ctx} {p : Pos} {s : Shared} (h : Goes M R Γ p (M.den Γ.code) .base s) : wpCode M Γ R p s := by
  obtain ⟨e, s', h1, r, rfl, hR⟩ := h
  exact ⟨r, s', h1, hR⟩
theorem goes_done {M : Model} {R : Result → Shared → Prop} {Γ : Ctx} {p : Pos} {s : Shared} {f : Flow} (h : R (.ok f) s) : Goes M R Γ p (.pure (.done f)) .base s := ⟨_, _, .done, _, rfl, h⟩
theorem goes_raise {M : Model} {R : Result → Shared → Prop} {Γ : Ctx} {p : Pos} {s : Shared} {e : Value} (h : R (.error e) s) : Goes M R Γ p (.raise e) .base s := ⟨_, _, .raise, _, rfl, h⟩
theorem goes_again {M : Model} {R : Result → Shared → Prop} {Γ : Ctx} {p : Pos} {s : Shared} {d : Code} (hq : d.quiet = true) (h : wpCode M (Γ.goto d) R p s) : Goes M R Γ p (.pure (.again d)) .base s := by
  obtain ⟨r, s', h1, hR⟩ := h
  exact ⟨_, _, .again hq h1, _, rfl, hR⟩

theorem goes_wp {M : Model} {R : Result → Shared → Prop} {Γ : Ctx} {p : Pos} {t : Sem Fin} {s : Shared} (h : Sem.wp M Γ t (Sem.finPost M Γ R) (fun e _ s' => R (.error e) s') p s) : Goes M R Γ p t .base s := by
  obtain ⟨r, s', h1, h2⟩ := (Sem.wp_iff_runs M Γ t R p s).mp h
  exact ⟨_, s', h1, r, rfl, h2⟩
/-- what is known behind a run -/
structure After (w : World) (s : Shared) (L : List Addr) (pick : List Nat) (led' : List (Addr × Obj)) (gens' : List GenState) (s' : Shared) : Prop where
  top : TopIn w s'
  led : Led s' led'
  nd : pick.Nodup → (led'.map (·.1)).Nodup
  off : Off (topG w) led'
  gens : s'.gens = gens'.toArray
  ch : Ch L s s'
  new : ∀ y ∈ led', y.1 ∈ L ∨ s.heap.objs.size ≤ y.1

theorem sim_go {w : World} {R : Result → Shared → Prop} {s : Shared} {Γ : Ctx} {p : Pos} {led : List (Addr × Obj)} {gens : List GenState} (sp : Sp) (it : Nat → Value) (xs0 xs : List Xs) (ρc : Nat → Ep) (c0 : Conf) (pick : List Nat)
    {pr : (Nat → Ep) → List Ob} {led' : (Nat → Ep) → List (Addr × Obj)} {gens' : (Nat → Ep) → List GenState} {t' : (Nat → Ep) → Sem Fin} {Γ' : (Nat → Ep) → Ctx}
    (F : ∀ ρ, proj pick (sim sp w (xS s) it xs0 xs ρc c0 (conf Γ p led s.toks gens) ρ) = want (sim sp w (xS s) it xs0 xs ρc c0 (conf Γ p led s.toks gens) ρ) (pr ρ) (led' ρ) (gens' ρ) (t' ρ) (Γ' ρ))
    (T : TopIn w s) (hL : Led s led) (nd : (led.map (·.1)).Nodup) (off : Off (topG w) led) (hg : s.gens = gens.toArray)
    (H : ∀ ρ, AllObs (MM w) (topG w) xs ρ (pr ρ))
    (next : ∀ ρ s' p', Is xs ρ → After w s (led.map (·.1)) pick (led' ρ) (gens' ρ) s' → Goes (MM w) R (Γ' ρ) p' (t' ρ) .base s') : wpCode (MM w) Γ R p s := by
  refine goes_code ?_
  rw [den_MM]
  have f : ∀ ρ, (sim sp w (xS s) it xs0 xs ρc c0 (conf Γ p led s.toks gens) ρ).ok = true ∧ (sim sp w (xS s) it xs0 xs ρc c0 (conf Γ p led s.toks gens) ρ).ob.map (·.1) = (sim sp w (xS s) it xs0 xs ρc c0 (conf Γ p led s.toks gens) ρ).ob.map (·.2) ∧
      (sim sp w (xS s) it xs0 xs ρc c0 (conf Γ p led s.toks gens) ρ).pr.reverse = pr ρ ∧ pickO (sim sp w (xS s) it xs0 xs ρc c0 (conf Γ p led s.toks gens) ρ).c.led pick = some (led' ρ) ∧ (sim sp w (xS s) it xs0 xs ρc c0 (conf Γ p led s.toks gens) ρ).c.gens = gens' ρ ∧
      (sim sp w (xS s) it xs0 xs ρc c0 (conf Γ p led s.toks gens) ρ).c.t = t' ρ ∧ (sim sp w (xS s) it xs0 xs ρc c0 (conf Γ p led s.toks gens) ρ).c.κ = .base ∧ (sim sp w (xS s) it xs0 xs ρc c0 (conf Γ p led s.toks gens) ρ).c.Γ = Γ' ρ := by
    intro ρ
    have := F ρ
    simp only [proj, want, Prod.mk.injEq] at this
    exact this
  have key : ∀ (l : List (Addr × Addr)), l.map (·.1) = l.map (·.2) → ∀ y ∈ l, y.1 = y.2 := by
    intro l
    induction l with
    | nil => intro _ y hy; cases hy
    | cons z l ih =>
      intro e y hy
      simp only [List.map_cons, List.cons.injEq] at e
      rcases List.mem_cons.mp hy with rfl | hy
      · exact e.1
      · exact ih e.2 y hy
  have offT : ∀ a o, (EN w (xS s) it).top a = some o → ∀ y ∈ led, y.1 ≠ a := fun a o e y hy q => by
    have h1 := off y hy
    rw [q] at h1
    have e : topG w a = some o := e
    rw [h1] at e; cases e
  have r0 : Rep (EN w (xS s) it) s (led.map (·.1)) (conf Γ p led s.toks gens) s :=
    ⟨fun n y e => hL y (getL_mem e), nd, T, offT, fun j => (by show s.heap.objs.size + (0 + j) = _; rw [Nat.zero_add]), fun y hy => .inl (List.mem_map_of_mem hy), Nat.le_refl _, fun _ _ e _ => e, rfl, hg, rfl, rfl⟩
  refine run2_sound (fun _ => trivial) (cmpOk w) (nextOk w) (pushOk w) (can sp w xs0 ρc c0) (EN w (xS s) it) (den_MM w).symm rfl xs (conf Γ p led s.toks gens) s (fun ρ => (f ρ).1) (fun ρ => key _ (f ρ).2.1)
    (fun ρ => ?_) r0 (fun ρ x s' hI r => ?_)
  · have h := H ρ
    rw [← (f ρ).2.2.1] at h
    exact h
  · obtain ⟨h1, h2, h3, h4, h5, h6, h7, h8⟩ := f ρ
    have e : run2 (can sp w xs0 ρc c0) (EN w (xS s) it) xs ρ (conf Γ p led s.toks gens) [] [] = sim sp w (xS s) it xs0 xs ρc c0 (conf Γ p led s.toks gens) ρ := rfl
    rw [e, h6, h7, h8]
    rw [e] at r
    obtain ⟨e1, e2⟩ := pickO_get h4
    have selin : ∀ y ∈ led' ρ, ∃ m, gL (sim sp w (xS s) it xs0 xs ρc c0 (conf Γ p led s.toks gens) ρ).c.led m = some y := by
      intro y hy
      obtain ⟨j, hj, ej⟩ := List.getElem_of_mem hy
      exact ⟨_, e2 j (pick[j]'(by omega)) y (List.getElem?_eq_getElem _) (by rw [← ej]; exact List.getElem?_eq_getElem _)⟩
    refine next ρ s' _ hI ⟨r.top, fun y hy => ?_, fun npick => ?_, fun y hy => ?_, ?_, ⟨r.keep, r.size, r.dr, r.os⟩, fun y hy => ?_⟩
    · obtain ⟨m, q⟩ := selin y hy
      exact r.led m y q
    · refine nd_of fun i j z g1 g2 => ?_
      simp only [List.getElem?_map, Option.map_eq_some_iff] at g1 g2
      obtain ⟨y1, g1, rfl⟩ := g1
      obtain ⟨y2, g2, g3⟩ := g2
      have li : i < (led' ρ).length := by
        rcases Nat.lt_or_ge i (led' ρ).length with h | h
        · exact h
        · rw [List.getElem?_eq_none h] at g1; cases g1
      have lj : j < (led' ρ).length := by
        rcases Nat.lt_or_ge j (led' ρ).length with h | h
        · exact h
        · rw [List.getElem?_eq_none h] at g2; cases g2
      have q1 := e2 i (pick[i]'(by omega)) y1 (List.getElem?_eq_getElem _) g1
      have q2 := e2 j (pick[j]'(by omega)) y2 (List.getElem?_eq_getElem _) g2
      have q3 := gL_inj r.nodup q1 q2 g3.symm
      exact nd_inj npick (a := pick[i]'(by omega)) (List.getElem?_eq_getElem _) (by rw [q3]; exact List.getElem?_eq_getElem _)
    · obtain ⟨m, q⟩ := selin y hy
      cases ht : topG w y.1 with
      | none => rfl
      | some o => exact absurd rfl (r.off _ _ ht y (getL_mem q))
    · rw [r.gn, h5]
    · obtain ⟨m, q⟩ := selin y hy
      exact r.newer y (getL_mem q)

noncomputable def confT (Γ : Ctx) (p : Pos) (t : Sem Fin) (led : List (Addr × Obj)) (toks : Nat) (gens : List GenState) : Conf := ⟨Γ, p, t, .base, led, 0, toks, gens⟩
/-- the same from another word for the tree -/
theorem sim_goT {w : World} {R : Result → Shared → Prop} {s : Shared} {Γ : Ctx} {p : Pos} {led : List (Addr × Obj)} {gens : List GenState} {t0 : Sem Fin} (ht : denQ Γ.code = t0) (sp : Sp) (it : Nat → Value) (xs0 xs : List Xs) (ρc : Nat → Ep) (c0 : Conf) (pick : List Nat)
    {pr : (Nat → Ep) → List Ob} {led' : (Nat → Ep) → List (Addr × Obj)} {gens' : (Nat → Ep) → List GenState} {t' : (Nat → Ep) → Sem Fin} {Γ' : (Nat → Ep) → Ctx}
    (F : ∀ ρ, proj pick (sim sp w (xS s) it xs0 xs ρc c0 (confT Γ p t0 led s.toks gens) ρ) = want (sim sp w (xS s) it xs0 xs ρc c0 (confT Γ p t0 led s.toks gens) ρ) (pr ρ) (led' ρ) (gens' ρ) (t' ρ) (Γ' ρ))
    (T : TopIn w s) (hL : Led s led) (nd : (led.map (·.1)).Nodup) (off : Off (topG w) led) (hg : s.gens = gens.toArray)
    (H : ∀ ρ, AllObs (MM w) (topG w) xs ρ (pr ρ))
    (next : ∀ ρ s' p', Is xs ρ → After w s (led.map (·.1)) pick (led' ρ) (gens' ρ) s' → Goes (MM w) R (Γ' ρ) p' (t' ρ) .base s') : wpCode (MM w) Γ R p s := by
  subst ht
  exact sim_go sp it xs0 xs ρc c0 pick F T hL nd off hg H next

/-- a contract at every context of the kinds -/
theorem req_of {w : World} {X : Xs} {v : View} (hk : okKs v.ks = true)
    (h : ∀ (D : Nat → CD × Pos) (p : Pos) (s : Shared), TopIn w s → Led s v.sel → Off (topG w) v.sel → (X.sel.Nodup → (v.sel.map (·.1)).Nodup) → s.gens = v.gens.toArray → wpCode (MM w) ⟨v.d, v.hd, v.own, mkB v.ks D, v.past⟩ (fun r s' => ∃ ρ, XPost X v s ρ r s') p s) : ReqOk (MM w) (topG w) X v := by
  intro Γ p s hΓ T hL ho nd hg
  obtain ⟨code, hd, own, below, past⟩ := Γ
  obtain ⟨_, h1, h2, h3, h4, h5, _⟩ := hΓ
  dsimp only at h1 h2 h3 h4 h5
  subst h1 h2 h3 h4
  obtain ⟨D, e⟩ := mkB_of below (by rw [h5]; exact hk)
  rw [e, h5]
  exact h D p s T hL ho nd hg
/-- a value, and nothing turned -/
noncomputable def Xval (sel : List Nat) (val : Ep → Value) (I : Ep → Prop) : Xs := ⟨sel, fun ρ _ => (.ok (.ret (val ρ)), [], []), id, I, none⟩
theorem XPost.val {sel : List Nat} {val : Ep → Value} {I : Ep → Prop} {v : View} {s s' : Shared} {r : Result} (t n : Nat) (y : Value) (vs : Array Value) (hI : I ⟨xS s', s'.toks, t, n, y, vs, default, [], fun _ => 0⟩) (hr : r = .ok (.ret (val ⟨xS s', s'.toks, t, n, y, vs, default, [], fun _ => 0⟩)))
    (hc : Ch [] s s') (hg : s'.gens = v.gens.toArray) : ∃ ρ, XPost (Xval sel val I) v s ρ r s' :=
  ⟨⟨xS s', s'.toks, t, n, y, vs, default, [], fun _ => 0⟩, rfl, rfl, hI, hr, by cases v.sel <;> trivial, fun y hy => (nomatch hy), List.nodup_nil, fun y hy => (nomatch hy), hc.mono (fun b hb => nomatch hb), hg⟩
/-- canonical epochs -/
noncomputable def cEp (l : List (Value × Array Value × List Obj)) (k : Nat) : Ep := match l[k]? with
  | some (v, vs, os) => ⟨fun j => 10000 * (k + 1) + j, 0, 0, 0, v, vs, default, os, fun _ => 0⟩
  | none => ⟨fun j => 10000 * (k + 1) + j, 0, 0, 0, .none, #[], default, [], fun _ => 0⟩
noncomputable def lstObj (xs : Array Value) (n : Nat) : Obj := ⟨.type "list", none, .seq xs n, #[]⟩
/-- the entries of a dict, by names, values and the names' tokens -/
noncomputable def ents (P : Params) : List (String × Value) → (Nat → Nat) → List DictEntry
  | [], _ => []
  | (k, v) :: r, tk => ent P k (tk 0) v :: ents P r (fun n => tk (n + 1))
noncomputable def frO (P : Params) (es : List (String × Value)) (tk : Nat → Nat) (n : Nat) : Obj := ⟨.type "frame", none, .dict (ents P es tk).toArray n, #[]⟩
noncomputable def dcO (P : Params) (es : List (String × Value)) (tk : Nat → Nat) (n : Nat) : Obj := ⟨.type "dict", none, .dict (ents P es tk).toArray n, #[]⟩
noncomputable def tokV : Value → Nat
  | .int _ t => t
  | .str _ t => t
  | _ => 0
/-- the tokens of an object's names -/
noncomputable def tks (o : Out2) (i : Nat) (j : Nat) : Nat := match gL o.c.led i with
  | some (_, ⟨_, _, .dict es _, _⟩) => match es.toList[j]? with
    | some e => tokV e.key
    | none => 0
  | _ => 0
/-- the token of what was put last -/
noncomputable def lastTk (o : Out2) (i : Nat) : Nat := match gL o.c.led i with
  | some (_, ⟨_, _, .seq ⟨xs⟩ _, _⟩) => match xs.getLast? with
    | some v => tokV v
    | none => 0
  | _ => 0
noncomputable def retTk (o : Out2) : Nat := match o.c.t with
  | .pure (.done (.ret v)) => tokV v
  | _ => 0
/-- a rule of the library for a call, at the call's own context -/
theorem lib_code {M : Model} {Γ : Ctx} {p : Pos} {s : Shared} {R : Result → Shared → Prop} {f : Value} {args : List Value} (hb : ∃ c₀ rest, Γ.below = (c₀, p) :: rest) (hc : Γ.code = .call f ⟨args, []⟩)
    (h : ∀ A : Around, A.handled = Γ.handled → A.units = unitsOf Γ.below → A.depth = frameCount Γ.below → wpAny M A (call f args) (fun v s' => R (.ok (.ret v)) s') (fun e s' => R (.error e) s') s) : wpCode M Γ R p s := by
  obtain ⟨c₀, rest, hb⟩ := hb
  obtain ⟨code, hd, own, below, past⟩ := Γ
  dsimp only at hb hc
  subst hb hc
  have hin : Ctx.In ⟨c₀, hd, own, rest, past⟩ ((AΓ ⟨c₀, hd, own, rest, past⟩).under c₀) := Ctx.Below.in (Γ := ⟨c₀, hd, own, rest, past⟩) ⟨rfl, Nat.le_refl _, fun l hl => (nomatch hl), fun l hl => (nomatch hl), Nat.le_refl _⟩
  have q := h ((AΓ ⟨c₀, hd, own, rest, past⟩).under c₀) rfl (by rw [unitsOf_cons]; exact Nat.add_comm _ _) (by rw [frameCount_cons]; first | rfl | exact Nat.add_comm _ _) ⟨c₀, hd, own, rest, past⟩ p hin
  have q : Sem.wp M ⟨c₀, hd, own, rest, past⟩ (runValue (.call f ⟨args, []⟩)) (fun v _ s' => R (.ok (.ret v)) s') (fun e _ s' => R (.error e) s') p s := q
  unfold runValue at q
  rw [Sem.wp_bind'] at q
  unfold run at q
  rw [Sem.wp_call] at q
  refine wpCode_mono ?_ q
  intro r s' hr
  cases r with
  | error e => exact hr
  | ok f =>
    cases f with
    | ret v => exact hr
    | _ => exact False.elim hr
end Mine
namespace Mine
noncomputable def reqsOf : List Ob → List View → List View
  | [], acc => acc
  | .x v :: r, acc => reqsOf r (v :: acc)
  | .p _ :: r, acc => reqsOf r acc
/-- the calls that were not run, in their order -/
noncomputable def viewAt (o : Out2) (j : Nat) : Option View := (reqsOf o.pr [])[j]?
/-- the token of an argument of a call that was not run -/
noncomputable def argTk (o : Out2) (j k : Nat) : Nat := match viewAt o j with
  | some v => match v.d with
    | .call _ a => match a.pos[k]? with
      | some v => tokV v
      | none => 0
    | _ => 0
  | none => 0
noncomputable def absI (x : Int) : Int := if x < 0 then -x else x
noncomputable def Xint (n : Int) : Xs := Xval [] (fun ρ => .int n ρ.t) (fun _ => True)
end Mine
end
noncomputable section
open PySem PySem.W PyProof.Rows
set_option maxRecDepth 100000
set_option maxHeartbeats 8000000
set_option linter.unusedVariables false
namespace Mine
noncomputable abbrev PE := PySem.Expr
noncomputable def subE (e : PE) (i : Nat) : PE := match e with
  | .Call f args _ _ => match i with
    | 0 => f
    | i + 1 => (args[i]?).getD (.Constant .none 0 default)
  | .BinOp l _ r _ => match i with
    | 0 => l
    | _ => r
  | .Compare l _ cs _ => match i with
    | 0 => l
    | i + 1 => (cs[i]?).getD (.Constant .none 0 default)
  | .BoolOp _ vs _ => (vs[i]?).getD (.Constant .none 0 default)
  | .Subscript v s _ => match i with
    | 0 => v
    | _ => s
  | .UnaryOp _ o _ => o
  | .ListComp el gens _ _ => match i with
    | 0 => el
    | _ => match gens with
      | g :: _ => match i with
        | 1 => g.iter
        | _ => (g.ifs[i - 2]?).getD (.Constant .none 0 default)
      | _ => .Constant .none 0 default
  | _ => .Constant .none 0 default
noncomputable def stE (s : Stmt) : PE := match s with
  | .Return (some e) _ => e
  | .Assign _ e _ => e
  | .Expr e _ => e
  | .If t _ _ _ => t
  | .For _ i _ _ _ => i
  | .While t _ _ _ => t
  | _ => .Constant .none 0 default
noncomputable def stT (s : Stmt) : PE := match s with
  | .For t _ _ _ _ => t
  | _ => .Constant .none 0 default
noncomputable def stB (s : Stmt) : List Stmt := match s with
  | .For _ _ b _ _ => b
  | .While _ b _ _ => b
  | .If _ b _ _ => b
  | .Try b _ _ _ _ => b
  | _ => []
noncomputable def nthS (l : List Stmt) (i : Nat) : Stmt := (l[i]?).getD (.Pass default)
noncomputable def atE (s : Stmt) (path : List Nat) : PE := path.foldl subE (stE s)
/-- a comprehension of one clause -/
structure CX where
  el : PE
  tg : PE
  ir : PE
  ifs : List PE
  sc : Scope
  pos : Pos
noncomputable def CX.e (c : CX) : PE := .ListComp c.el [⟨c.tg, c.ir, c.ifs, 0⟩] c.sc c.pos
noncomputable def cxOf (e : PE) : CX := match e with
  | .ListComp el (g :: _) sc pos => ⟨el, g.target, g.iter, g.ifs, sc, pos⟩
  | _ => ⟨.Constant .none 0 default, .Constant .none 0 default, .Constant .none 0 default, [], default, default⟩
noncomputable def cscope (c : CX) (env : Env) : Scope := { c.sc with names := c.sc.names.map fun (n, k) => if (k == .free && env.scope.kind == .function && env.kindOf n == some .cell) then (n, .cell) else (n, k) }
noncomputable def cenv (c : CX) (env : Env) (dc : Addr) (cells : List (PySem.Str × Addr)) : Env := { scope := cscope c env, locals := dc, globals := 3, cells := cells, qual := env.qual, func := none, code := env.code, frame := env.frame, builtins := 0 }
noncomputable def cstart (c : CX) (it acc : Addr) (env : Env) : Code := .compStart c.e 0 (.ref it) (.ref acc) env
noncomputable def cloop (c : CX) (it acc : Addr) (env : Env) : Code := .compLoop c.e 0 (.ref it) (.ref acc) env
noncomputable def sp0 : Sp := ⟨⟨false, true⟩, [], [], true, 0⟩

theorem comp_start (w : World) (a b : Bool) (x : Nat → Addr) (c : CX) (it acc : Addr) (env : Env) (ks : List Kd) (D : Nat → CD × Pos) (p : Pos) (m : Value) (i : Int) (toks : Nat) (gens : List GenState) (ρ : Nat → Ep) :
    proj [0] (sim sp0 (wS w a b) x (fun _ => .none) [] [] (cEp []) (conf (cx (cstart c 4000 4001 env) ks D) p [(4000, iterObj m i)] toks gens) (conf (cx (cstart c it acc env) ks D) p [(it, iterObj m i)] toks gens) ρ) =
    want (sim sp0 (wS w a b) x (fun _ => .none) [] [] (cEp []) (conf (cx (cstart c 4000 4001 env) ks D) p [(4000, iterObj m i)] toks gens) (conf (cx (cstart c it acc env) ks D) p [(it, iterObj m i)] toks gens) ρ)
      [] [(it, iterObj m i)] gens (.pure (.again (cloop c it acc env))) (cx (cstart c it acc env) ks D) := by
  cases a <;> cases b <;> kernel_rfl
theorem comp_end (w : World) (a b : Bool) (x : Nat → Addr) (c : CX) (it acc l : Addr) (env : Env) (ks : List Kd) (D : Nat → CD × Pos) (p : Pos) (vs : Array Value) (n : Nat) (i : Int) (toks : Nat) (gens : List GenState) (ρ : Nat → Ep) :
    proj [0, 1] (sim sp0 (wS w a b) x (fun _ => .none) [] [] (cEp []) (conf (cx (cloop c 4000 4001 env) ks D) p [(4000, iterObj (.ref 4002) 0), (4002, lstObj #[] 0)] toks gens) (conf (cx (cloop c it acc env) ks D) p [(it, iterObj (.ref l) i), (l, lstObj vs n)] toks gens) ρ) =
    want (sim sp0 (wS w a b) x (fun _ => .none) [] [] (cEp []) (conf (cx (cloop c 4000 4001 env) ks D) p [(4000, iterObj (.ref 4002) 0), (4002, lstObj #[] 0)] toks gens) (conf (cx (cloop c it acc env) ks D) p [(it, iterObj (.ref l) i), (l, lstObj vs n)] toks gens) ρ)
      [.p (EndP (iterObj (.ref l) i) (lstObj vs n) l)] [(it, iterObj .none i), (l, lstObj vs n)] gens (.pure (.done .next)) (cx (cloop c it acc env) ks D) := by
  cases a <;> cases b <;> kernel_rfl

theorem Ch.less {L L1 : List Addr} {Rd : List (Addr × Obj)} {s s' : Shared} (h : Ch L s s') (h1 : Led s Rd) (h2 : Led s' Rd) (hL : ∀ b ∈ L, b ∈ L1 ∨ b ∈ Rd.map (·.1)) : Ch L1 s s' :=
  ⟨fun b o e hb => by
    by_cases q : b ∈ L
    · rcases hL b q with z | z
      · exact absurd z hb
      · obtain ⟨y, hy, rfl⟩ := List.mem_map.mp z
        have := h1 y hy
        rw [e] at this
        cases this
        exact h2 y hy
    · exact h.keep b o e q, h.size, h.dr, h.os⟩
/-- a comp's own dict: nothing bound yet, or its one name -/
noncomputable def dcN (P : Params) (tn : String) (nb : Bool) (tk : Nat → Nat) (y : Value) : Obj := match nb with
  | true => dcO P [] tk 0
  | false => dcO P [(tn, y)] tk 1
noncomputable def cled (P : Params) (tn : String) (A : Nat → Addr) (vs : Array Value) (n : Nat) (i : Int) (us : Array Value) (m : Nat) (nb : Bool) (tk : Nat → Nat) (y : Value) (rest : List (Addr × Obj)) : List (Addr × Obj) :=
  (A 0, iterObj (.ref (A 3)) i) :: (A 1, lstObj us m) :: (A 2, dcN P tn nb tk y) :: (A 3, lstObj vs n) :: rest
/-- what is known of a state -/
structure St (w : World) (g : List GenState) (l : List (Addr × Obj)) (s : Shared) : Prop where
  top : TopIn w s
  led : Led s l
  nd : (l.map (·.1)).Nodup
  off : Off (topG w) l
  gens : s.gens = g.toArray
theorem After.st {w : World} {s : Shared} {L : List Addr} {pick : List Nat} {led' : List (Addr × Obj)} {gens' : List GenState} {s' : Shared} (h : After w s L pick led' gens' s') (hp : pick.Nodup) : St w gens' led' s' := ⟨h.top, h.led, h.nd hp, h.off, h.gens⟩
theorem loop_ind {M : Model} {Γ : Ctx} {R : Result → Shared → Prop} (n : Nat) (Inv : Nat → Shared → Prop)
    (turn : ∀ i, i < n → ∀ p s, Inv i s → (∀ p' s', Inv (i + 1) s' → wpCode M Γ R p' s') → wpCode M Γ R p s) (fin : ∀ p s, Inv n s → wpCode M Γ R p s) :
    ∀ p s, Inv 0 s → wpCode M Γ R p s := by
  have key : ∀ j i, i + j = n → ∀ p s, Inv i s → wpCode M Γ R p s := by
    intro j
    induction j with
    | zero => intro i h p s hi; have : i = n := by omega
              subst this; exact fin p s hi
    | succ j ih => intro i h p s hi; exact turn i (by omega) p s hi fun p' s' h' => ih (i + 1) (by omega) p' s' h'
  exact key n 0 (by omega)
theorem comp_ok {w : World} {a b : Bool} {c : CX} {A : Nat → Addr} {env : Env} {ks : List Kd} {D : Nat → CD × Pos} {vs : Array Value} {n : Nat} {rest : List (Addr × Obj)} {gens : List GenState} {tn : String} (P : Nat → Array Value → Prop) (h0 : P 0 #[])
    (turn : ∀ (i : Nat) (us : Array Value) (nb : Bool) (tk : Nat → Nat) (y : Value) (p : Pos) (s : Shared) (R : Result → Shared → Prop), i < vs.size → P i us → us.size ≤ i → St (wS w a b) gens (cled w.params tn A vs n i us us.size nb tk y rest) s →
      (∀ us' m' tk' y' p' s', St (wS w a b) gens (cled w.params tn A vs n (i + 1 : Nat) us' m' false tk' y' rest) s' → m' = us'.size → P (i + 1) us' → us'.size ≤ i + 1 → Ch [A 0, A 1, A 2] s s' → wpCode (MM (wS w a b)) (cx (cloop c (A 0) (A 1) env) ks D) R p' s') →
      wpCode (MM (wS w a b)) (cx (cloop c (A 0) (A 1) env) ks D) R p s)
    {tk : Nat → Nat} {y : Value} {p : Pos} {s : Shared} (S0 : St (wS w a b) gens (cled w.params tn A vs n 0 #[] 0 true tk y rest) s) :
    wpCode (MM (wS w a b)) (cx (cstart c (A 0) (A 1) env) ks D) (fun r s' => r = .ok .next ∧ ∃ us o0 tk y, P vs.size us ∧ us.size ≤ vs.size ∧ St (wS w a b) gens ((A 0, o0) :: (A 1, lstObj us us.size) :: (A 2, dcN w.params tn (decide (vs.size = 0)) tk y) :: (A 3, lstObj vs n) :: rest) s' ∧ Ch [A 0, A 1, A 2] s s') p s := by
  refine sim_go (led := [(A 0, iterObj (.ref (A 3)) 0)]) sp0 (fun _ => .none) [] [] (cEp []) _ [0] (fun ρ => comp_start w a b (xS s) c (A 0) (A 1) env ks D p (.ref (A 3)) 0 s.toks gens ρ) S0.top (fun y hy => S0.led y (by simp at hy; subst hy; exact List.mem_cons_self)) (by simp) (fun y hy => S0.off y (by simp at hy; subst hy; exact List.mem_cons_self)) S0.gens (fun ρ => trivial) ?_
  intro ρ s1 p1 _ F1
  refine goes_again rfl ?_
  have keepR : ∀ (Rd : List (Addr × Obj)), Led s Rd → (∀ y ∈ Rd, y.1 ≠ A 0) → Led s1 Rd := fun Rd h1 h2 => h1.ch F1.ch (fun y hy q => by simp at q; exact h2 y hy q)
  have nd := S0.nd
  have nd0 : ∀ y' ∈ (A 1, lstObj #[] (#[] : Array Value).size) :: (A 2, dcN w.params tn true tk y) :: (A 3, lstObj vs n) :: rest, y'.1 ≠ A 0 := by
    intro y' hy q
    rw [cled, List.map_cons, List.nodup_cons] at nd
    exact nd.1 (by show A 0 ∈ _; rw [← q]; exact List.mem_map_of_mem (f := (·.1)) hy)
  have S1 : St (wS w a b) gens (cled w.params tn A vs n 0 #[] 0 true tk y rest) s1 := by
    refine ⟨F1.top, fun z hz => ?_, nd, S0.off, F1.gens⟩
    rcases List.mem_cons.mp hz with rfl | hz
    · exact F1.led _ (by simp)
    · exact keepR _ (fun z hz => S0.led z (List.mem_cons_of_mem _ hz)) nd0 z hz
  refine loop_ind (Γ := cx (cloop c (A 0) (A 1) env) ks D) vs.size (fun i s' => ∃ us nb tk y, nb = decide (i = 0) ∧ P i us ∧ us.size ≤ i ∧ St (wS w a b) gens (cled w.params tn A vs n (i : Nat) us us.size nb tk y rest) s' ∧ Ch [A 0, A 1, A 2] s s') ?_ ?_ _ s1 ⟨#[], true, tk, y, rfl, h0, by simp, S1, F1.ch.mono (fun b hb => by simp at hb; subst hb; simp)⟩
  · rintro i hi p s2 ⟨us, nb, tk, y, hnb, hP, hz, S2, C2⟩ next
    refine turn i us nb tk y p s2 _ hi hP hz S2 fun us' m' tk' y' p' s' S' hm hP' hz' C' => next p' s' ⟨us', false, tk', y', by simp, hP', hz', hm ▸ S', C2.trans C' fun b hb => .inl hb⟩
  · rintro p s2 ⟨us, nb, tk, y, hnb, hP, hz, S2, C2⟩
    have nd2 : A 0 ≠ A 1 ∧ A 0 ≠ A 3 ∧ A 1 ≠ A 3 ∧ (∀ z ∈ rest, z.1 ≠ A 0 ∧ z.1 ≠ A 3) ∧ A 0 ≠ A 2 ∧ A 2 ≠ A 3 := by
      have h := S2.nd
      simp only [cled, List.map_cons, List.nodup_cons, List.mem_cons, not_or] at h
      obtain ⟨⟨h1, h2, h3, h4⟩, ⟨h5, h6, h7⟩, ⟨h8, h9⟩, h10, h11⟩ := h
      exact ⟨h1, h3, h6, fun z hz => ⟨fun q => h4 (by rw [← q]; exact List.mem_map_of_mem (f := (·.1)) hz), fun q => h10 (by rw [← q]; exact List.mem_map_of_mem (f := (·.1)) hz)⟩, h2, h8⟩
    obtain ⟨n1, n2, n3, n4, n5, n6⟩ := nd2
    refine sim_go (led := [(A 0, iterObj (.ref (A 3)) (vs.size : Nat)), (A 3, lstObj vs n)]) sp0 (fun _ => .none) [] [] (cEp []) _ [0, 1] (fun ρ => comp_end w a b (xS s2) c (A 0) (A 1) (A 3) env ks D p vs n (vs.size : Nat) s2.toks gens ρ) S2.top (fun z hz => S2.led z (by simp at hz; rcases hz with rfl | rfl <;> simp [cled])) (by simp [n2]) (fun z hz => S2.off z (by simp at hz; rcases hz with rfl | rfl <;> simp [cled])) S2.gens (fun ρ => ⟨⟨vs, n, none, #[], rfl, rfl, by show vs[((vs.size : Nat) : Int).toNat]? = none; simp⟩, trivial⟩) ?_
    intro ρ s3 p3 _ F3
    have L3 : Led s3 ((A 0, iterObj .none (vs.size : Nat)) :: (A 1, lstObj us us.size) :: (A 2, dcN w.params tn nb tk y) :: (A 3, lstObj vs n) :: rest) := by
      intro z hz
      simp only [List.mem_cons] at hz
      rcases hz with rfl | rfl | rfl | rfl | h
      · exact F3.led _ (by simp)
      · exact F3.ch.keep _ _ (S2.led _ (by simp [cled])) (by simp [Ne.symm n1, n3])
      · exact F3.ch.keep _ _ (S2.led _ (by simp [cled])) (by simp [Ne.symm n5, n6])
      · exact F3.led _ (by simp)
      · exact F3.ch.keep _ _ (S2.led _ (by simp [cled, h])) (by simp [n4 z h])
    rw [← hnb]
    refine goes_done ⟨rfl, us, _, _, _, hP, hz, ⟨F3.top, L3, S2.nd, fun z hz => ?_, F3.gens⟩, ?_⟩
    · have := S2.off
      simp only [Off, cled, List.mem_cons] at this hz ⊢
      rcases hz with rfl | h | h | h | h
      · exact this (A 0, iterObj (.ref (A 3)) (vs.size : Nat)) (by simp)
      all_goals exact this z (by simp [h])
    · refine C2.trans (F3.ch.less (L1 := [A 0]) (Rd := [(A 3, lstObj vs n)]) (fun z hz => S2.led z (by simp at hz; subst hz; simp [cled])) (fun z hz => F3.led z (by simp at hz; subst hz; simp)) (by simp)) (fun b hb => .inl (by simp at hb; subst hb; simp))
noncomputable def getO (l : List Obj) (i : Nat) : Obj := (l[i]?).getD default
/-- a comp by its contract: it leaves a list -/
noncomputable def Xcomp (P : Params) (tn : String) (nb : Bool) (sel : List Nat) (I : Array Value → Prop) : Xs := ⟨sel, fun ρ l => (.ok .next, [ρ.o, lstObj ρ.vs ρ.vs.size, dcN P tn nb ρ.tk ρ.v], []), id, fun ρ => I ρ.vs, none⟩
theorem XPost.comp {w : World} {P : Params} {A : Nat → Addr} {gens : List GenState} {rest rest' : List (Addr × Obj)} {x0 x1 x2 : Obj} {vs us : Array Value} {n : Nat} {sel : List Nat} {I : Array Value → Prop} {v : View} {s s' : Shared} {o0 : Obj} {tn : String} {nb : Bool} {tk : Nat → Nat} {y : Value}
    (hv : v.sel = (A 0, x0) :: (A 1, x1) :: (A 2, x2) :: rest') (hg : v.gens = gens)
    (hI : I us) (S : St w gens ((A 0, o0) :: (A 1, lstObj us us.size) :: (A 2, dcN P tn nb tk y) :: (A 3, lstObj vs n) :: rest) s') (C : Ch [A 0, A 1, A 2] s s') : ∃ ρ, XPost (Xcomp P tn nb sel I) v s ρ (.ok .next) s' := by
  refine ⟨⟨xS s', s'.toks, 0, 0, y, us, o0, [], tk⟩, rfl, rfl, hI, rfl, ?_, fun y hy => (nomatch hy), List.nodup_nil, fun y hy => (nomatch hy), ?_, by rw [hg]; exact S.gens⟩
  · rw [hv]
    exact ⟨S.led (A 0, o0) (by simp), S.led (A 1, lstObj us us.size) (by simp), S.led (A 2, dcN P tn nb tk y) (by simp), by cases rest' <;> trivial⟩
  · rw [hv]; exact C
end Mine
namespace Mine
/-- a function's env -/
noncomputable def fenv (i : Nat) (name : String) (f c : Nat) (L : Addr) (cells : List (PySem.Str × Addr)) : Env := { scope := fScope [i], locals := L, globals := 3, cells := cells, qual := S name ++ S ".<locals>.", func := some f, code := .ref c, frame := some L, builtins := 0 }
end Mine
end
noncomputable section
open PySem PySem.W PyProof.Rows
set_option maxRecDepth 100000
set_option maxHeartbeats 8000000
set_option linter.unusedVariables false
namespace Mine
theorem runs_size {M : Model} {Γ : Ctx} {p : Pos} {t : Sem Fin} {fs : List Frame} {s s' : Shared} {e : End} (h : Runs M Γ p t fs s e s') : s.heap.objs.size ≤ s'.heap.objs.size := by
  induction h with
  | update _ _ ih =>
    have := (Heap.SameBut.update ..).1 ▸ ih
    exact Nat.le_trans (Nat.le_of_eq (Heap.SameBut.update ..).1.symm) ih
  | alloc _ ih =>
    rw [Heap.size_push] at ih
    exact Nat.le_of_succ_le ih
  | done => exact Nat.le_refl _
  | raise => exact Nat.le_refl _
  | «yield» => exact Nat.le_refl _
  | again _ _ ih => exact ih
  | rule _ ih => exact ih
  | «at» _ ih => exact ih
  | load _ _ ih => exact ih
  | loadIfAlive _ ih => exact ih
  | point _ ih => exact ih
  | fresh _ ih => exact ih
  | ask _ ih => exact ih
  | choose _ _ ih => exact ih
  | os _ ih => exact ih
  | handled _ ih => exact ih
  | genState _ _ ih => exact ih
  | stack _ ih => exact ih
  | thread _ ih => exact ih
  | newGen _ ih => exact ih
  | call _ _ i1 i2 => exact Nat.le_trans i1 i2
  | callSusp _ ih => exact ih
  | resumeFresh _ _ _ _ i1 i2 => exact Nat.le_trans i1 i2
  | resumeSuspended _ _ _ _ i1 i2 => exact Nat.le_trans i1 i2
  | resumeJustStarted _ _ _ ih => exact ih
  | resumeThrowFresh _ _ ih => exact ih
  | resumeRunning _ _ ih => exact ih
  | resumeFinished _ _ ih => exact ih
  | segRet _ _ i1 i2 => exact Nat.le_trans i1 i2
  | segGen _ _ i1 i2 => exact Nat.le_trans i1 i2
  | segSuspOut _ _ ih => exact ih
  | segSuspGen _ _ _ _ i1 i2 => exact Nat.le_trans i1 i2
theorem code_size {M : Model} {Γ : Ctx} {p : Pos} {s : Shared} {R : Result → Shared → Prop} (h : wpCode M Γ (fun r s' => s.heap.objs.size ≤ s'.heap.objs.size → R r s') p s) : wpCode M Γ R p s := by
  obtain ⟨r, s', h1, h2⟩ := h
  exact ⟨r, s', h1, h2 (runs_size h1)⟩
/-- a state that is only larger -/
theorem Ch.of_kept {s : Shared} {h' : Heap} {tk : Nat} (hz : s.heap.objs.size ≤ h'.objs.size) (hk : ∀ b o, s.heap.get? b = some o → h'.get? b = some o) : Ch [] s { s with heap := h', toks := tk } := ⟨fun b o e _ => hk b o e, hz, rfl, rfl⟩

theorem ints_get {vs : List Value} {ns : List Int} (h : IntsAre vs ns) : ∀ {i : Nat}, i < ns.length → ∃ t, vs[i]? = some (.int (ns[i]!) t) := by
  induction h with
  | nil => intro i hi; cases hi
  | cons n t h ih =>
    intro i hi
    cases i with
    | zero => exact ⟨t, rfl⟩
    | succ i =>
      obtain ⟨t', e⟩ := ih (i := i) (by simpa using hi)
      exact ⟨t', by simpa using e⟩
theorem ints_snoc {vs : List Value} {ns : List Int} (h : IntsAre vs ns) (n : Int) (t : Nat) : IntsAre (vs ++ [.int n t]) (ns ++ [n]) := by
  induction h with
  | nil => exact .cons n t .nil
  | cons m u h ih => exact .cons m u ih
theorem ints_app {vs vs' : List Value} {ns ns' : List Int} (h : IntsAre vs ns) (h' : IntsAre vs' ns') : IntsAre (vs ++ vs') (ns ++ ns') := by
  induction h with
  | nil => exact h'
  | cons m u h ih => exact .cons m u ih
/-- an array of ints -/
noncomputable def IA (vs : Array Value) (ns : List Int) : Prop := IntsAre vs.toList ns
theorem IA.size {vs : Array Value} {ns : List Int} (h : IA vs ns) : vs.size = ns.length := by
  have := IntsAre.length h
  simpa using this
theorem IA.get {vs : Array Value} {ns : List Int} (h : IA vs ns) {i : Nat} (hi : i < ns.length) : ∃ t, vs[i]? = some (.int (ns[i]!) t) := by
  obtain ⟨t, e⟩ := ints_get h hi
  exact ⟨t, by simpa using e⟩
theorem IA.push {vs : Array Value} {ns : List Int} (h : IA vs ns) (n : Int) (t : Nat) : IA (vs.push (.int n t)) (ns ++ [n]) := by
  unfold IA
  rw [Array.toList_push]
  exact ints_snoc h n t
theorem IA.append {vs vs' : Array Value} {ns ns' : List Int} (h : IA vs ns) (h' : IA vs' ns') : IA (vs ++ vs') (ns ++ ns') := by
  unfold IA
  rw [Array.toList_append]
  exact ints_app h h'
theorem IA.nil : IA #[] [] := IntsAre.nil
theorem IA.pairs {vs : Array Value} {ns : List Int} (h : IA vs ns) : ∃ xs : Array (Int × Tok), vs = intItems xs ∧ xs.toList.map (·.1) = ns := by
  obtain ⟨l⟩ := vs
  unfold IA at h
  dsimp only at h
  induction h with
  | nil => exact ⟨#[], by simp [intItems], rfl⟩
  | cons n t h ih =>
    obtain ⟨xs, e1, e2⟩ := ih
    refine ⟨⟨(n, t) :: xs.toList⟩, ?_, by simp [e2]⟩
    have e3 := congrArg Array.toList e1
    simp [intItems] at e3 ⊢
    exact e3
theorem preSum_eq (l : List (Int × Tok)) : preSum (numAt ⟨l⟩) l.length = (l.map (·.1)).sum := by
  have key : ∀ n, n ≤ l.length → preSum (numAt ⟨l⟩) n = ((l.take n).map (·.1)).sum := by
    intro n
    induction n with
    | zero => intro _; rfl
    | succ n ih =>
      intro h
      have e : l[n]? = some l[n] := List.getElem?_eq_getElem (by omega)
      have e2 : numAt ⟨l⟩ n = l[n].1 := by simp [numAt, e]
      rw [preSum, ih (by omega), List.take_add_one, e, e2, List.map_append, List.sum_append]
      simp
  have := key l.length (Nat.le_refl _)
  rw [List.take_length] at this
  exact this
theorem abs_req {w : World} {x : Int} {t : Nat} {hd own past : Option Value} {ks : List Kd} {sel : List (Addr × Obj)} {gens : List GenState} : ReqOk (MM w) (topG w) (Xint (absI x)) ⟨biCode "abs" [.int x t], hd, own, past, ks, sel, gens⟩ := by
  intro Γ p s hΓ T hL ho nd hg
  refine lib_code hΓ.at_ hΓ.code fun A _ _ _ => call_abs_int fun u tk => ?_
  exact XPost.val u 0 .none #[] trivial rfl ⟨fun b o e _ => e, Nat.le_refl _, rfl, rfl⟩ hg
/-- an int that depends on listed objects alone -/
noncomputable def XintS (sel : List Nat) (n : Int) : Xs := Xval sel (fun ρ => .int n ρ.t) (fun _ => True)
theorem sum_req {w : World} {l : Addr} {us : Array Value} {m : Nat} {ns : List Int} {i : Nat} {own past : Option Value} {ks : List Kd} {gens : List GenState} (h : IA us ns) : ReqOk (MM w) (topG w) (XintS [i] ns.sum) ⟨biCode "sum" [.ref l], none, own, past, ks, [(l, lstObj us m)], gens⟩ := by
  intro Γ p s hΓ T hL ho nd hg
  obtain ⟨xs, rfl, e2⟩ := h.pairs
  refine code_size (lib_code hΓ.at_ hΓ.code fun A hA _ _ => sum_intListG (hA.trans hΓ.hd) (xs := xs) ⟨_, hL _ List.mem_cons_self, rfl, m, rfl⟩ fun h' tk t' hk hz => ?_)
  refine XPost.val t' 0 .none #[] trivial ?_ (Ch.of_kept hz hk) hg
  have := preSum_eq xs.toList
  rw [e2] at this
  rw [← this]
  rfl
end Mine
end
noncomputable section
open PySem PySem.W PyProof.Rows
set_option maxRecDepth 100000
set_option maxHeartbeats 8000000
set_option linter.unusedVariables false
namespace Mine
noncomputable def cellO (v : Value) : Obj := ⟨.type "cell", none, .cell (some v), #[]⟩
noncomputable def fqual (name : String) : PySem.Str := S name ++ S ".<locals>."
/-- three ways -/
inductive Br where
  | g | l | e
namespace Br
noncomputable def G : Br → Bool
  | .g => true
  | _ => false
noncomputable def L : Br → Bool
  | .l => true
  | _ => false
noncomputable def r : Br → Int
  | .g => 1
  | .l => -1
  | .e => 0
end Br
noncomputable def sg (x y : Int) : Int := if x > y then 1 else if x < y then -1 else 0
theorem br_of (x y : Int) : ∃ j : Br, ((x > y) = (j.G = true)) ∧ ((x < y) = (j.L = true)) ∧ sg x y = j.r := by
  rcases Int.lt_trichotomy x y with h | h | h
  · exact ⟨.l, by simp [Br.G]; omega, by simp [Br.L, h], by unfold sg; rw [if_neg (by omega), if_pos h]; rfl⟩
  · exact ⟨.e, by simp [Br.G]; omega, by simp [Br.L]; omega, by unfold sg; rw [if_neg (by omega), if_neg (by omega)]; rfl⟩
  · exact ⟨.g, by simp [Br.G, h], by simp [Br.L]; omega, by unfold sg; rw [if_pos h]; rfl⟩
namespace Vote
noncomputable def C : CX := cxOf (atE (nthS (fBody [38]) 0) [1])
noncomputable def fn (A : Nat → Addr) : Env := fenv 38 "_law_vote" 817 816 (A 6) [(S "other", A 5), (S "one", A 4)]
noncomputable def env (A : Nat → Addr) : Env := cenv C (fn A) (A 2) [(S "other", A 5), (S "one", A 4)]
structure Dt where
  vs : Array Value
  n : Nat
  i : Int
  us : Array Value
  m : Nat
  tk : Nat → Nat
  y : Value
  t1 : Nat
  t2 : Nat
  tv : Nat
  D : Nat → CD × Pos
  p : Pos
  toks : Nat
  gens : List GenState
noncomputable def led (P : Params) (A : Nat → Addr) (d : Dt) (nb : Bool) (one other : Int) : List (Addr × Obj) := cled P "place" A d.vs d.n d.i d.us d.m nb d.tk d.y [(A 4, cellO (.int one d.t1)), (A 5, cellO (.int other d.t2))]
noncomputable def cT (P : Params) (ks : List Kd) (A : Nat → Addr) (d : Dt) (nb : Bool) (one other : Int) : Conf := conf (cx (cloop C (A 0) (A 1) (env A)) ks d.D) d.p (led P A d nb one other) d.toks d.gens
noncomputable def xs (v one other : Int) : List Xs := [Xint (absI (other - v)), Xint (absI (one - v))]
/-- samples -/
noncomputable def co (j : Br) : Int × Int := match j with
  | .g => (2, 1)
  | .l => (1, 2)
  | .e => (1, 5)
noncomputable def spT : Sp := ⟨⟨true, true⟩, ["abs"], [], true, 0⟩
noncomputable def can0 (w : World) (ks : List Kd) (d : Dt) (nb : Bool) (j : Br) : Conf := cT w.params ks (fun j => 4000 + j) { d with vs := #[.int 3 0], n := 0, i := 0 } nb (co j).1 (co j).2
noncomputable def sT (w : World) (ks : List Kd) (x A : Nat → Addr) (d : Dt) (nb : Bool) (j : Br) (v one other : Int) (ρ : Nat → Ep) : Out2 :=
  sim spT w x (fun _ => .int v d.tv) (xs 3 (co j).1 (co j).2) (xs v one other) (cEp []) (can0 w ks d nb j) (cT w.params ks A d nb one other) ρ
noncomputable def kC (k : Bool) : List Kd := match k with
  | true => [.fr, .fr, .fn, .bi "claim.caller"]
  | false => [.cp, .cp, .fn, .bi "claim.caller"]
noncomputable def kk (k : Bool) : List Kd := .fn :: kC k
/-- what a turn asks -/
noncomputable def prT (o : Out2) (ks : List Kd) (A : Nat → Addr) (d : Dt) (v one other : Int) (g l : Bool) : List Ob :=
  [.p (NextP (iterObj (.ref (A 3)) d.i) (lstObj d.vs d.n) (A 3) (.int v d.tv)), .x ⟨biCode "abs" [.int (other - v) (argTk o 0 0)], none, none, none, .cp :: ks, [], d.gens⟩, .x ⟨biCode "abs" [.int (one - v) (argTk o 1 0)], none, none, none, .cp :: ks, [], d.gens⟩,
    .p ((absI (other - v) > absI (one - v)) = (g = true)), .p ((absI (other - v) < absI (one - v)) = (l = true)), .p (PushP (lstObj d.us d.m))]
theorem factT (w : World) (a b k nb : Bool) (j : Br) (x A : Nat → Addr) (d : Dt) (v one other : Int) (ρ : Nat → Ep) :
    proj [0, 1, 2, 3, 4, 5] (sT (wS w a b) (kk k) x A d nb j v one other ρ) =
    want (sT (wS w a b) (kk k) x A d nb j v one other ρ) (prT (sT (wS w a b) (kk k) x A d nb j v one other ρ) (kk k) A d v one other j.G j.L)
      (led w.params A { d with i := d.i + 1, us := d.us.push (.int j.r ((ρ 1).toks + 2)), m := d.m + 1, tk := tks (sT (wS w a b) (kk k) x A d nb j v one other ρ) 2, y := .int v d.tv } false one other) d.gens
      (.pure (.again (cloop C (A 0) (A 1) (env A)))) (cx (cloop C (A 0) (A 1) (env A)) (kk k) d.D) := by
  cases j <;> cases nb <;> cases k <;> cases a <;> kernel_rfl
theorem comp {w : World} {a b : Bool} {A : Nat → Addr} {k : Bool} {D : Nat → CD × Pos} {vs : Array Value} {n : Nat} {gens : List GenState} {one other : Int} {t1 t2 : Nat} {ns : List Int} (hv : IA vs ns) (hz : ns.length ≤ 1000) {tk : Nat → Nat} {y : Value} {p : Pos} {s : Shared}
    (S0 : St (wS w a b) gens (cled w.params "place" A vs n 0 #[] 0 true tk y [(A 4, cellO (.int one t1)), (A 5, cellO (.int other t2))]) s) :
    wpCode (MM (wS w a b)) (cx (cstart C (A 0) (A 1) (env A)) (kk k) D) (fun r s' => r = .ok .next ∧ ∃ us o0 tk y, IA us (ns.map fun v => sg (absI (other - v)) (absI (one - v))) ∧
      St (wS w a b) gens ((A 0, o0) :: (A 1, lstObj us us.size) :: (A 2, dcN w.params "place" (decide (vs.size = 0)) tk y) :: (A 3, lstObj vs n) :: [(A 4, cellO (.int one t1)), (A 5, cellO (.int other t2))]) s' ∧ Ch [A 0, A 1, A 2] s s') p s := by
  refine wpCode_mono ?_ (comp_ok (tn := "place") (fun i us => IA us ((ns.take i).map fun v => sg (absI (other - v)) (absI (one - v)))) IA.nil ?_ S0)
  · rintro r s' ⟨rfl, us, o0, tk, y, h1, _, h2, h3⟩
    refine ⟨rfl, us, o0, tk, y, ?_, h2, h3⟩
    rw [hv.size, List.take_length] at h1
    exact h1
  · intro i us nb tk y p s R hi hP hz' S next
    rw [hv.size] at hi
    obtain ⟨tv, hx⟩ := hv.get hi
    obtain ⟨j, j1, j2, j3⟩ := br_of (absI (other - ns[i]!)) (absI (one - ns[i]!))
    refine sim_go (led := led w.params A ⟨vs, n, i, us, us.size, tk, y, t1, t2, tv, D, p, s.toks, gens⟩ nb one other) spT (fun _ => .int ns[i]! tv) (xs 3 (co j).1 (co j).2) (xs ns[i]! one other) (cEp []) (can0 (wS w a b) (kk k) ⟨vs, n, i, us, us.size, tk, y, t1, t2, tv, D, p, s.toks, gens⟩ nb j) [0, 1, 2, 3, 4, 5]
      (fun ρ => factT w a b k nb j (xS s) A ⟨vs, n, i, us, us.size, tk, y, t1, t2, tv, D, p, s.toks, gens⟩ ns[i]! one other ρ) S.top S.led S.nd S.off S.gens ?_ ?_
    · intro ρ
      refine ⟨⟨vs, n, none, #[], rfl, rfl, ?_⟩, abs_req, fun _ => ⟨abs_req, fun _ => ⟨j1, j2, ⟨us, us.size, rfl, ?_⟩, trivial⟩⟩⟩
      · show vs[((i : Int)).toNat]? = some _
        rw [Int.toNat_natCast]; exact hx
      · rw [sizeLine_eq]; omega
    · intro ρ s' p' hI F
      refine goes_again rfl ?_
      refine next _ _ _ _ p' s' (F.st (by decide)) (by simp) ?_ (by simp; omega) ?_
      · rw [List.take_add_one, List.map_append]
        have e : ns[i]? = some ns[i]! := by simp [hi]
        rw [e]
        dsimp only [Option.toList, List.map]
        rw [j3]
        exact hP.push _ _
      · refine F.ch.less (Rd := [(A 3, lstObj vs n), (A 4, cellO (.int one t1)), (A 5, cellO (.int other t2))]) (fun y hy => S.led y ?_) (fun y hy => F.led y ?_) ?_
        · simp at hy; rcases hy with rfl | rfl | rfl <;> simp [cled]
        · simp at hy; rcases hy with rfl | rfl | rfl <;> simp [led, cled]
        · intro q hq; simp [led, cled] at hq; rcases hq with rfl | rfl | rfl | rfl | rfl | rfl <;> simp
end Vote
end Mine
end
noncomputable section
open PySem PySem.W PyProof.Rows
set_option maxRecDepth 100000
set_option maxHeartbeats 8000000
set_option linter.unusedVariables false
namespace Mine
/-- addresses by their places -/
noncomputable def adr (l : List Addr) (i : Nat) : Addr := match l, i with
  | [], _ => 0
  | a :: _, 0 => a
  | _ :: r, i + 1 => adr r i
namespace Vote
structure Da where
  vs : Array Value
  n : Nat
  t1 : Nat
  t2 : Nat
  D : Nat → CD × Pos
  p : Pos
  toks : Nat
  gens : List GenState
noncomputable def cA (ks : List Kd) (pl : Addr) (d : Da) (one other : Int) : Conf := conf (cx (callCode 817 [.int one d.t1, .int other d.t2, .ref pl]) ks d.D) d.p [(pl, lstObj d.vs d.n)] d.toks d.gens
noncomputable def xA (P : Params) (nb : Bool) (us : List Int) : List Xs := [Xcomp P "place" nb [4, 5, 6, 0, 2, 3] (fun vs => IA vs us), XintS [5] us.sum]
noncomputable def spA : Sp := ⟨⟨false, true⟩, ["sum"], [], true, 0⟩
noncomputable def sA (w : World) (ks : List Kd) (x : Nat → Addr) (pl : Addr) (d : Da) (nb : Bool) (us : List Int) (one other : Int) (ρ : Nat → Ep) : Out2 :=
  sim spA w x (fun _ => .none) (xA w.params nb us) (xA w.params nb us) (cEp []) (cA ks 4000 d one other) (cA ks pl d one other) ρ
noncomputable def A' (x : Nat → Addr) (pl : Addr) : Nat → Addr := adr [x 3, x 4, x 5, pl, x 1, x 2, x 0]
noncomputable def prA (o : Out2) (P : Params) (ks : List Kd) (x : Nat → Addr) (pl : Addr) (d : Da) (one other : Int) (ρ : Nat → Ep) : List Ob :=
  [.x ⟨cstart C (x 3) (x 4) (env (A' x pl)), none, none, none, .fn :: ks, cled P "place" (A' x pl) d.vs d.n 0 #[] 0 true (fun _ => 0) .none [(x 1, cellO (.int one d.t1)), (x 2, cellO (.int other d.t2))], d.gens⟩,
   .x ⟨biCode "sum" [.ref (x 4)], none, none, none, .fn :: ks, [(x 4, lstObj (ρ 0).vs (ρ 0).vs.size)], d.gens⟩]
theorem factA (w : World) (a b k : Bool) (x : Nat → Addr) (pl : Addr) (d : Da) (nb : Bool) (us : List Int) (one other : Int) (ρ : Nat → Ep) :
    proj [0] (sA (wS w a b) (kC k) x pl d nb us one other ρ) = want (sA (wS w a b) (kC k) x pl d nb us one other ρ) (prA (sA (wS w a b) (kC k) x pl d nb us one other ρ) w.params (kC k) x pl d one other ρ)
      [(pl, lstObj d.vs d.n)] d.gens (.pure (.done (.ret (.int us.sum (ρ 1).t)))) (cx (.func (fBody [38]) (fn (A' x pl))) (kC k) d.D) := by
  cases nb <;> cases k <;> cases a <;> kernel_rfl
noncomputable def total (one other : Int) (ns : List Int) : Int := (ns.map fun v => sg (absI (other - v)) (absI (one - v))).sum
theorem req {w : World} {a b k : Bool} {pl : Addr} {vs : Array Value} {n t1 t2 i : Nat} {one other : Int} {ns : List Int} {gens : List GenState} (hv : IA vs ns) (hz : ns.length ≤ 1000) :
    ReqOk (MM (wS w a b)) (topG (wS w a b)) (XintS [i] (total one other ns)) ⟨callCode 817 [.int one t1, .int other t2, .ref pl], none, none, none, kC k, [(pl, lstObj vs n)], gens⟩ := by
  refine req_of (by cases k <;> rfl) fun D p s T hL ho nd hg => ?_
  refine sim_go (led := [(pl, lstObj vs n)]) spA (fun _ => .none) _ (xA w.params (decide (vs.size = 0)) (ns.map fun v => sg (absI (other - v)) (absI (one - v)))) (cEp []) _ [0]
    (fun ρ => factA w a b k (xS s) pl ⟨vs, n, t1, t2, D, p, s.toks, gens⟩ (decide (vs.size = 0)) (ns.map fun v => sg (absI (other - v)) (absI (one - v))) one other ρ) T hL (by simp) ho hg (fun ρ => ⟨?_, fun hI => ⟨sum_req hI, fun _ => trivial⟩⟩) ?_
  · refine req_of (by cases k <;> rfl) fun D p s2 T hL ho nd hg => ?_
    refine wpCode_mono ?_ (comp (A := A' (xS s) pl) (k := k) hv hz ⟨T, hL, nd (by show [4, 5, 6, 0, 2, 3].Nodup; decide), ho, hg⟩)
    rintro r s' ⟨rfl, us, o0, tk, y, h1, h2, h3⟩
    exact XPost.comp (A := A' (xS s) pl) rfl rfl h1 h2 h3
  · intro ρ s' p' hI F
    exact goes_done (XPost.val (ρ 1).t 0 .none #[] trivial rfl (F.ch.less (L1 := []) (Rd := [(pl, lstObj vs n)]) hL F.led (by simp)) F.gens)
end Vote
end Mine
end
noncomputable section
open PySem PySem.W PyProof.Rows
set_option maxRecDepth 100000
set_option maxHeartbeats 8000000
set_option linter.unusedVariables false
namespace Mine
noncomputable def word : Nat → PySem.Str
  | 0 => S ""
  | 1 => S "a"
  | 2 => S "'"
  | 3 => S " a"
  | 4 => S "aa"
  | 5 => S "'a"
  | 6 => S " '"
  | 7 => S "a'"
  | _ => S "''"
/-- what `quote` makes of them -/
noncomputable def qword : Nat → PySem.Str
  | 0 => S "''"
  | 1 => S "a"
  | 2 => S "''\"'\"''"
  | 3 => S "' a'"
  | 4 => S "aa"
  | 5 => S "''\"'\"'a'"
  | 6 => S "' '\"'\"''"
  | 7 => S "'a'\"'\"''"
  | _ => S "''\"'\"''\"'\"''"
namespace Join
/-- the code table of join: empty, or filled by the first call -/
noncomputable def tab (f : Bool) (c : Addr) : Obj := match f with
  | true => ⟨.none, none, .fields #[], #[]⟩
  | false => ⟨.none, none, .fields #[.int 752 0, .int 20 0, .ref c], #[]⟩
noncomputable def gs (f : Bool) : List GenState := match f with
  | true => []
  | false => [.finished]
noncomputable def ks : List Kd := [.fn, .bi "claim.caller"]
structure Da where
  vs : Array Value
  n : Nat
  D : Nat → CD × Pos
  p : Pos
  toks : Nat
noncomputable def spA : Sp := ⟨⟨false, true⟩, ["str.join"], [], true, 0⟩
noncomputable def gen (f : Bool) (t1 t2 : Nat) : Obj := ⟨.type "generator", none, .fields #[.int (if f then 0 else 1) 0, .str (S "<genexpr>") t1, .str (S "join.<locals>.<genexpr>") t2], #[]⟩
/-- the generator's expression -/
noncomputable def ge : PE := atE (nthS (fBody [28]) 0) [1]
noncomputable def geSc (e : PE) : Scope := match e with
  | .GeneratorExp _ _ sc _ => sc
  | _ => default
/-- it, frame, generator, list, code -/
noncomputable def genv (A : Nat → Addr) : Env := { scope := geSc ge, locals := A 1, globals := 3, cells := [], qual := S "join.<locals>.<genexpr>.", func := none, code := .ref (A 4), frame := some (A 1), builtins := 0 }
noncomputable def gcode (A : Nat → Addr) : Code := .compStart ge 0 (.ref (A 0)) .none (genv A)
noncomputable def gloop (A : Nat → Addr) : Code := .compLoop ge 0 (.ref (A 0)) .none (genv A)
noncomputable def ledG (P : Params) (f : Bool) (A : Nat → Addr) (vs : Array Value) (n : Nat) (i : Int) (tk : Nat → Nat) (t1 t2 : Nat) : List (Addr × Obj) := [(A 0, iterObj (.ref (A 3)) i), (A 1, frO P [(".0", .ref (A 0))] tk 1), (A 2, gen f t1 t2), (A 3, lstObj vs n)]
noncomputable def A' (f : Bool) (x : Nat → Addr) (l c : Addr) : Nat → Addr := match f with
  | true => adr [x 1, x 5, x 6, l, x 4]
  | false => adr [x 1, x 2, x 3, l, c]
noncomputable def xA (str : PySem.Str) : List Xs := [⟨[3, 7, 8, 0], fun ρ _ => (.ok (.ret (.str str ρ.t)), [], []), fun _ => [], fun _ => True, none⟩]
noncomputable def cA (f : Bool) (A : Nat → Addr) (d : Da) : Conf := conf (cx (callCode 778 [.ref (A 0)]) ks d.D) d.p [(A 0, lstObj d.vs d.n), (773, tab f (A 1))] d.toks (gs f)
noncomputable def sel (f : Bool) : List Nat := match f with
  | true => [3, 7, 8, 0]
  | false => [3, 4, 5, 0]
/-- str.join over the generator -/
noncomputable def Xj (f : Bool) (str : PySem.Str) : Xs := ⟨sel f, fun ρ _ => (.ok (.ret (.str str ρ.t)), [getO ρ.os 0, getO ρ.os 1, getO ρ.os 2], []), fun _ => gs f ++ [.finished], fun _ => True, none⟩
noncomputable def sA (w : World) (f : Bool) (x A : Nat → Addr) (d : Da) (str : PySem.Str) (ρ : Nat → Ep) : Out2 := sim spA w x (fun _ => .none) [Xj f (S "")] [Xj f str] (cEp []) (cA f (fun j => 4000 + j) d) (cA f A d) ρ
noncomputable def tkS (o : Out2) (j i : Nat) : Nat → Nat := fun k => match viewAt o j with
  | some v => match gL v.sel i with
    | some (_, ⟨_, _, .dict es _, _⟩) => match es.toList[k]? with
      | some e => tokV e.key
      | none => 0
    | some (_, ⟨_, _, .fields xs, _⟩) => match xs.toList[k]? with
      | some v => tokV v
      | none => 0
    | _ => 0
  | none => 0
noncomputable def prA (o : Out2) (P : Params) (f : Bool) (x A : Nat → Addr) (d : Da) : List Ob :=
  [.x ⟨biCode "str.join" [.str (S " ") (argTk o 0 0), .ref (A' f x (A 0) (A 1) 2)], none, none, none, .fn :: ks, ledG P f (A' f x (A 0) (A 1)) d.vs d.n 0 (tkS o 0 1) (tkS o 0 2 1) (tkS o 0 2 2), gs f ++ [.fresh (gcode (A' f x (A 0) (A 1)))]⟩]
theorem factA (w : World) (a b f : Bool) (x A : Nat → Addr) (d : Da) (str : PySem.Str) (ρ : Nat → Ep) :
    proj [0, 1] (sA (wS w a b) f x A d str ρ) = want (sA (wS w a b) f x A d str ρ) (prA (sA (wS w a b) f x A d str ρ) w.params f x A d)
      [(A 0, lstObj d.vs d.n), (773, tab false (A' f x (A 0) (A 1) 4))] (gs f ++ [.finished]) (.pure (.done (.ret (.str str (ρ 0).t)))) (cx (.func (fBody [28]) (fenv 28 "join" 778 777 (x 0) [])) ks d.D) := by
  cases f <;> cases a <;> kernel_rfl
end Join
end Mine
end
noncomputable section
open PySem PySem.W PyProof.Rows
set_option maxRecDepth 100000
set_option maxHeartbeats 8000000
set_option linter.unusedVariables false
namespace Mine
namespace Join
structure Db where
  vs : Array Value
  n : Nat
  tk : Nat → Nat
  t1 : Nat
  t2 : Nat
  tj : Nat
  D : Nat → CD × Pos
  p : Pos
  toks : Nat
/-- collect over the generator -/
noncomputable def Xc (f : Bool) (I : Array Value → Prop) : Xs := ⟨[0, 1, 2, 3], fun ρ _ => (.ok (.ret (.ref ρ.n)), [getO ρ.os 0, getO ρ.os 1, getO ρ.os 2], [(ρ.n, lstObj ρ.vs ρ.t)]), fun _ => gs f ++ [.finished], fun ρ => I ρ.vs, none⟩
noncomputable def spB : Sp := ⟨⟨false, true⟩, ["proto.collect"], [], true, 9000⟩
noncomputable def cB (P : Params) (f : Bool) (A : Nat → Addr) (d : Db) : Conf := conf (cx (biCode "str.join" [.str (S " ") d.tj, .ref (A 2)]) (.fn :: ks) d.D) d.p (ledG P f A d.vs d.n 0 d.tk d.t1 d.t2) d.toks (gs f ++ [.fresh (gcode A)])
noncomputable def ρB : Nat → Ep := fun k => { cEp [] k with n := 9000 }
noncomputable def sB (w : World) (f : Bool) (x A : Nat → Addr) (d : Db) (I : Array Value → Prop) (ρ : Nat → Ep) : Out2 := sim spB w x (fun _ => .none) [Xc f I] [Xc f I] ρB (cB w.params f (fun j => 4000 + j) d) (cB w.params f A d) ρ
noncomputable def collT (a : Addr) : Sem (List Value) := do
  match (← load a).data with
  | .seq xs _ => pure xs.toList
  | _ => unsupported "internal:collect"
noncomputable def prB (P : Params) (f : Bool) (A : Nat → Addr) (d : Db) : List Ob :=
  [.x ⟨.builtin "proto.collect" ⟨[.ref (A 2)], []⟩, none, none, none, .bi "str.join" :: .fn :: ks, ledG P f A d.vs d.n 0 d.tk d.t1 d.t2, gs f ++ [.fresh (gcode A)]⟩]
/-- the same run over the plain trees -/
noncomputable def denO : Code → Sem Fin := denote treeTable
theorem denO_eq : denO = denQ := by
  have h := den_eq
  rw [table_eq_tree] at h
  exact h
noncomputable def runO (es : List Ev) (w : World) (x : Nat → Addr) (it : Nat → Value) (xs : List Xs) (Γ : Ctx) (p : Pos) (led : List (Addr × Obj)) (toks : Nat) (gens : List GenState) (ρ : Nat → Ep) : Out2 :=
  run2 es ⟨denO, ⟨pw, w.params⟩, (topT w.params).get, x, it⟩ xs ρ ⟨Γ, p, denO Γ.code, .base, led, 0, toks, gens⟩ [] []
theorem simO (sp : Sp) (w : World) (x : Nat → Addr) (it : Nat → Value) (xs0 xs : List Xs) (ρc : Nat → Ep) (c0 : Conf) (Γ : Ctx) (p : Pos) (led : List (Addr × Obj)) (toks : Nat) (gens : List GenState) (ρ : Nat → Ep) :
    sim sp w x it xs0 xs ρc c0 (conf Γ p led toks gens) ρ = runO (can sp w xs0 ρc c0) w x it xs Γ p led toks gens ρ := by
  unfold sim runO conf EN
  rw [denO_eq]
noncomputable def oB (w : World) (f : Bool) (x A : Nat → Addr) (d : Db) (I : Array Value → Prop) (ρ : Nat → Ep) : Out2 :=
  runO (can spB w [Xc f I] ρB (cB w.params f (fun j => 4000 + j) d)) w x (fun _ => .none) [Xc f I] (cx (biCode "str.join" [.str (S " ") d.tj, .ref (A 2)]) (.fn :: ks) d.D) d.p (ledG w.params f A d.vs d.n 0 d.tk d.t1 d.t2) d.toks (gs f ++ [.fresh (gcode A)]) ρ
theorem factB (w : World) (a b f : Bool) (x A : Nat → Addr) (d : Db) (I : Array Value → Prop) (ρ : Nat → Ep) :
    proj [0, 1, 2, 3, 4] (oB (wS w a b) f x A d I ρ) = want (oB (wS w a b) f x A d I ρ) (prB w.params f A d)
      [(A 0, getO (ρ 0).os 0), (A 1, getO (ρ 0).os 1), (A 2, getO (ρ 0).os 2), (A 3, lstObj d.vs d.n), ((ρ 0).n, lstObj (ρ 0).vs (ρ 0).t)] (gs f ++ [.finished]) (collT (ρ 0).n >>= fun items => joinTail (S " ") items) (cx (.builtin "str.join" ⟨[.str (S " ") d.tj, .ref (A 2)], []⟩) (.fn :: ks) d.D) := by
  cases f <;> cases a <;> kernel_rfl
theorem factB' (w : World) (a b f : Bool) (x A : Nat → Addr) (d : Db) (I : Array Value → Prop) (ρ : Nat → Ep) :
    proj [0, 1, 2, 3, 4] (sB (wS w a b) f x A d I ρ) = want (sB (wS w a b) f x A d I ρ) (prB w.params f A d)
      [(A 0, getO (ρ 0).os 0), (A 1, getO (ρ 0).os 1), (A 2, getO (ρ 0).os 2), (A 3, lstObj d.vs d.n), ((ρ 0).n, lstObj (ρ 0).vs (ρ 0).t)] (gs f ++ [.finished]) (collT (ρ 0).n >>= fun items => joinTail (S " ") items) (cx (.builtin "str.join" ⟨[.str (S " ") d.tj, .ref (A 2)], []⟩) (.fn :: ks) d.D) := by
  have e : sB (wS w a b) f x A d I ρ = oB (wS w a b) f x A d I ρ := simO _ _ _ _ _ _ _ _ _ _ _ _ _ _
  rw [e]
  exact factB w a b f x A d I ρ
end Join
end Mine
end
noncomputable section
open PySem PySem.W PyProof.Rows
set_option maxRecDepth 100000
set_option maxHeartbeats 8000000
set_option linter.unusedVariables false
namespace Mine
theorem den_bi {id : String} {b : Builtin} (h : entryFor table id = some b) (args : Args) : denQ (.builtin id args) = b args := by
  rw [← den_eq]
  show (match entryFor table id with | some b => b args | none => unsupported ((withoutEnding? id "#data").getD id)) = _
  rw [h]
/-- extending a list by another object's items, where the two are two -/
noncomputable def extT (L I : Addr) (res : Value) : { t : Sem Fin // L ≠ I → Builtin.List.listExtendWith (.ref L) (.ref I) res = t } := by
  refine ⟨?_, fun h => ?_⟩
  rotate_left
  · have e : Builtin.List.listSameRef (.ref L) (.ref I) = false := by simp [Builtin.List.listSameRef, h]
    unfold Builtin.List.listExtendWith
    rw [e]
noncomputable def xloop (L g : Addr) (r : Value) : Code := .builtin "list.extend.loop" ⟨[.ref L, .ref g, r], []⟩
noncomputable def xtree (L g : Addr) (r : Value) : Sem Fin := Builtin.«list.extend.loop» ⟨[.ref L, .ref g, r], []⟩
theorem xtree_eq (L g : Addr) (r : Value) : denQ (xloop L g r) = xtree L g r := den_bi F.entry_extend_loop _
theorem iadd_eq {L g : Addr} (h : L ≠ g) : denQ (.builtin "list.__iadd__" ⟨[.ref L, .ref g], []⟩) = (extT L g (.ref L)).1 := by
  rw [den_bi F.entry_list_iadd, ← (extT L g (.ref L)).2 h]
  rfl
noncomputable def pushT (L : Addr) (v : Value) (c : Code) : Sem Fin := updateSeq L (·.push v) >>= fun _ => again c
theorem goes_push {w : World} {R : Result → Shared → Prop} {Γ : Ctx} {p : Pos} {s : Shared} {L : Addr} {v : Value} {c : Code} {us : Array Value} {m : Nat} (hL : s.heap.get? L = some (lstObj us m)) (hz : us.size ≤ 1000) (hq : c.quiet = true)
    (next : ∀ h' p', h'.get? L = some (lstObj (us.push v) (m + 1)) → Heap.SameBut L s.heap h' → wpCode (MM w) (Γ.goto c) R p' { s with heap := h' }) : Goes (MM w) R Γ p (pushT L v c) .base s := by
  refine goes_wp ?_
  have hin : Γ.In ((AΓ Γ).under Γ.code) := Ctx.Below.in ⟨rfl, Nat.le_refl _, fun l hl => (nomatch hl), fun l hl => (nomatch hl), Nat.le_refl _⟩
  unfold pushT
  rw [Sem.wp_bind']
  have h := wpAny_updateSeq (M := MM w) (A := (AΓ Γ).under Γ.code) (E := fun _ _ => False) (f := (·.push v)) (Q := fun _ s' => ∀ p', Sem.wp (MM w) Γ (again c) (Sem.finPost (MM w) Γ R) (fun e _ s' => R (.error e) s') p' s') hL rfl
    (fun p' => ⟨hq, next _ p' (by rw [Heap.get?_update_self _ hL rfl]; simp [Obj.mapSeq, lstObj]) (Heap.SameBut.update ..)⟩) (by rw [sizeLine_eq]; omega) (by rw [sizeLine_eq, Array.size_push]; omega) Γ p hin
  exact Sem.wp_mono _ _ _ (fun a p' s' h => h p') (fun _ _ _ h => h.elim) _ _ h
end Mine
end
noncomputable section
open PySem PySem.W PyProof.Rows
set_option maxRecDepth 100000
set_option maxHeartbeats 8000000
set_option linter.unusedVariables false
namespace Mine
namespace Join
noncomputable def kJ : List Kd := .bi "str.join" :: .fn :: ks
noncomputable def spC : Sp := ⟨⟨false, true⟩, [], [], true, 0⟩
noncomputable def cC (P : Params) (f : Bool) (A : Nat → Addr) (d : Db) : Conf := conf (cx (.builtin "proto.collect" ⟨[.ref (A 2)], []⟩) kJ d.D) d.p (ledG P f A d.vs d.n 0 d.tk d.t1 d.t2) d.toks (gs f ++ [.fresh (gcode A)])
noncomputable def sC (w : World) (f : Bool) (x A : Nat → Addr) (d : Db) (ρ : Nat → Ep) : Out2 := sim spC w x (fun _ => .none) [] [] (cEp []) (cC w.params f (fun j => 4000 + j) d) (cC w.params f A d) ρ
theorem factC (w : World) (a b f : Bool) (x A : Nat → Addr) (d : Db) (ρ : Nat → Ep) :
    proj [0, 1, 2, 3, 4] (sC (wS w a b) f x A d ρ) = want (sC (wS w a b) f x A d ρ) []
      (ledG w.params f A d.vs d.n 0 d.tk d.t1 d.t2 ++ [(x 0, lstObj #[] 0)]) (gs f ++ [.fresh (gcode A)]) (.pure (.again (.builtin "list.__iadd__" ⟨[.ref (x 0), .ref (A 2)], []⟩))) (cx (.builtin "proto.collect" ⟨[.ref (A 2)], []⟩) kJ d.D) := by
  cases f <;> cases a <;> kernel_rfl
noncomputable def cI (P : Params) (f : Bool) (A : Nat → Addr) (d : Db) : Conf := confT (cx (.builtin "list.__iadd__" ⟨[.ref (A 5), .ref (A 2)], []⟩) kJ d.D) d.p (extT (A 5) (A 2) (.ref (A 5))).1 (ledG P f A d.vs d.n 0 d.tk d.t1 d.t2 ++ [(A 5, lstObj #[] 0)]) d.toks (gs f ++ [.fresh (gcode A)])
noncomputable def sI (w : World) (f : Bool) (x A : Nat → Addr) (d : Db) (ρ : Nat → Ep) : Out2 := sim spC w x (fun _ => .none) [] [] (cEp []) (cI w.params f (fun j => 4000 + j) d) (cI w.params f A d) ρ
theorem factI (w : World) (a b f : Bool) (x A : Nat → Addr) (d : Db) (ρ : Nat → Ep) :
    proj [0, 1, 2, 3, 4] (sI (wS w a b) f x A d ρ) = want (sI (wS w a b) f x A d ρ) []
      (ledG w.params f A d.vs d.n 0 d.tk d.t1 d.t2 ++ [(A 5, lstObj #[] 2)]) (gs f ++ [.fresh (gcode A)]) (.pure (.again (xloop (A 5) (A 2) (.ref (A 5))))) (cx (.builtin "list.__iadd__" ⟨[.ref (A 5), .ref (A 2)], []⟩) kJ d.D) := by
  cases f <;> cases a <;> kernel_rfl
/-- a turn of the loop -/
structure Dd where
  vs : Array Value
  n : Nat
  i : Int
  tk : Nat → Nat
  y : Value
  t1 : Nat
  t2 : Nat
  tv : Nat
  D : Nat → CD × Pos
  p : Pos
  toks : Nat
noncomputable def gfr (P : Params) (A : Nat → Addr) (nb : Bool) (tk : Nat → Nat) (y : Value) : Obj := match nb with
  | true => frO P [(".0", .ref (A 0))] tk 1
  | false => frO P [(".0", .ref (A 0)), ("arg", y)] tk 2
noncomputable def ledD (P : Params) (f : Bool) (A : Nat → Addr) (nb : Bool) (vs : Array Value) (n : Nat) (i : Int) (tk : Nat → Nat) (y : Value) (t1 t2 : Nat) : List (Addr × Obj) :=
  [(A 0, iterObj (.ref (A 3)) i), (A 1, gfr P A nb tk y), (A 2, gen f t1 t2), (A 3, lstObj vs n)]
noncomputable def kQ : List Kd := .gx :: .bi "generator.__next__" :: .bi "list.extend.loop" :: kJ
/-- the word with its quotes written out -/
noncomputable def rword : Nat → PySem.Str
  | 2 => S "'\"'\"'"
  | 3 => S " a"
  | 5 => S "'\"'\"'a"
  | 6 => S " '\"'\"'"
  | 7 => S "a'\"'\"'"
  | _ => S "'\"'\"''\"'\"'"
noncomputable def XstrS (sel : List Nat) (y : PySem.Str) : Xs := Xval sel (fun ρ => .str y ρ.t) (fun _ => True)
theorem XPost.str {sel : List Nat} {y : PySem.Str} {t : Nat} {v : View} {s s' : Shared} (hc : Ch [] s s') (hg : s'.gens = v.gens.toArray) : ∃ ρ, XPost (XstrS sel y) v s ρ (.ok (.ret (.str y t))) s' := XPost.val t 0 .none #[] trivial rfl hc hg
noncomputable def xQ (k : Nat) : List Xs := match k with
  | 0 => []
  | 1 => []
  | 4 => []
  | k => [XstrS [] (rword k)]
noncomputable def spQ : Sp := ⟨⟨false, true⟩, ["str.replace"], [], true, 0⟩
noncomputable def sQ (w : World) (x : Nat → Addr) (k tk : Nat) (D : Nat → CD × Pos) (p : Pos) (toks : Nat) (gens : List GenState) (ρ : Nat → Ep) : Out2 :=
  sim spQ w x (fun _ => .none) (xQ k) (xQ k) (cEp []) (conf (cx (callCode 786 [.str (word k) tk]) kQ D) p [] toks gens) (conf (cx (callCode 786 [.str (word k) tk]) kQ D) p [] toks gens) ρ
noncomputable def codeO (o : Out2) : Ctx := o.c.Γ
noncomputable def prQ (k tk toks : Nat) (gens : List GenState) : List Ob := match k with
  | 0 => []
  | 1 => []
  | 4 => []
  | k => [.x ⟨biCode "str.replace" [.str (word k) tk, .str (S "'") (toks + 4), .str (S "'\"'\"'") (toks + 5)], none, none, none, .fn :: kQ, [], gens⟩]
theorem factQ (w : World) (a b : Bool) (x : Nat → Addr) (k : Nat) (hk : k < 9) (tk : Nat) (D : Nat → CD × Pos) (p : Pos) (toks : Nat) (gens : List GenState) (ρ : Nat → Ep) :
    proj [] (sQ (wS w a b) x k tk D p toks gens ρ) = want (sQ (wS w a b) x k tk D p toks gens ρ) (prQ k tk toks gens) [] gens (.pure (.done (.ret (.str (qword k) (retTk (sQ (wS w a b) x k tk D p toks gens ρ)))))) (codeO (sQ (wS w a b) x k tk D p toks gens ρ)) := by
  match k, hk with
  | 0, _ => cases a <;> kernel_rfl
  | 1, _ => cases a <;> kernel_rfl
  | 2, _ => cases a <;> kernel_rfl
  | 3, _ => cases a <;> kernel_rfl
  | 4, _ => cases a <;> kernel_rfl
  | 5, _ => cases a <;> kernel_rfl
  | 6, _ => cases a <;> kernel_rfl
  | 7, _ => cases a <;> kernel_rfl
  | 8, _ => cases a <;> kernel_rfl
noncomputable def ol : Nat → List Nat
  | 2 => [0]
  | 3 => []
  | 5 => [0]
  | 6 => [1]
  | 7 => [1]
  | _ => [0, 1]
theorem occ_at {k : Nat} (hk : k = 2 ∨ k = 3 ∨ k = 5 ∨ k = 6 ∨ k = 7 ∨ k = 8) : Builtin.Str.occurrences (word k) (S "'") 0 (word k).length ((word k).length + 1) = ol k := by
  rw [StrLaws.occ_eq]
  rcases hk with rfl | rfl | rfl | rfl | rfl | rfl <;> decide +kernel
theorem replace_req {w : World} {k tk T : Nat} {ks : List Kd} {gens : List GenState} (hk : k = 2 ∨ k = 3 ∨ k = 5 ∨ k = 6 ∨ k = 7 ∨ k = 8) :
    ReqOk (MM w) (topG w) (XstrS [] (rword k)) ⟨biCode "str.replace" [.str (word k) tk, .str (S "'") (T + 4), .str (S "'\"'\"'") (T + 5)], none, none, none, ks, [], gens⟩ := by
  intro Γ p s hΓ T' hL ho nd hg
  refine lib_code hΓ.at_ hΓ.code fun A _ _ _ => ?_
  have hf : (T + 4 == 0 || T + 5 == 0) = false ∧ (T + 4 == T + 5) = false := by simp
  have g := gives_str_replace (word k) (S "'") (S "'\"'\"'") tk (T + 4) (T + 5) (fun _ => ⟨hf.1, hf.2, by decide +kernel, by rw [occ_at hk]; rcases hk with rfl | rfl | rfl | rfl | rfl | rfl <;> decide +kernel⟩)
  rw [occ_at hk] at g
  refine call_meets F.slot_str_replace (typeIs_str _ _ _) F.entry_str_replace (F.args_str_replace_3 _ _ _) g.meets ?_
  rcases hk with rfl | rfl | rfl | rfl | rfl | rfl
  · rw [if_neg (by decide +kernel), show Builtin.Str.glued (S "'\"'\"'") (Builtin.Str.partsBetween (word 2) (ol 2) (S "'").length) = rword 2 from by decide +kernel]; exact ⟨by decide +kernel, XPost.str (sel := []) (t := s.toks) (s := s) (s' := { s with toks := s.toks + 1 }) ⟨fun b o e _ => e, Nat.le_refl _, rfl, rfl⟩ hg⟩
  · rw [if_pos (by decide +kernel)]; exact XPost.val tk 0 .none #[] trivial rfl ⟨fun b o e _ => e, Nat.le_refl _, rfl, rfl⟩ hg
  · rw [if_neg (by decide +kernel), show Builtin.Str.glued (S "'\"'\"'") (Builtin.Str.partsBetween (word 5) (ol 5) (S "'").length) = rword 5 from by decide +kernel]; exact ⟨by decide +kernel, XPost.str (sel := []) (t := s.toks) (s := s) (s' := { s with toks := s.toks + 1 }) ⟨fun b o e _ => e, Nat.le_refl _, rfl, rfl⟩ hg⟩
  · rw [if_neg (by decide +kernel), show Builtin.Str.glued (S "'\"'\"'") (Builtin.Str.partsBetween (word 6) (ol 6) (S "'").length) = rword 6 from by decide +kernel]; exact ⟨by decide +kernel, XPost.str (sel := []) (t := s.toks) (s := s) (s' := { s with toks := s.toks + 1 }) ⟨fun b o e _ => e, Nat.le_refl _, rfl, rfl⟩ hg⟩
  · rw [if_neg (by decide +kernel), show Builtin.Str.glued (S "'\"'\"'") (Builtin.Str.partsBetween (word 7) (ol 7) (S "'").length) = rword 7 from by decide +kernel]; exact ⟨by decide +kernel, XPost.str (sel := []) (t := s.toks) (s := s) (s' := { s with toks := s.toks + 1 }) ⟨fun b o e _ => e, Nat.le_refl _, rfl, rfl⟩ hg⟩
  · rw [if_neg (by decide +kernel), show Builtin.Str.glued (S "'\"'\"'") (Builtin.Str.partsBetween (word 8) (ol 8) (S "'").length) = rword 8 from by decide +kernel]; exact ⟨by decide +kernel, XPost.str (sel := []) (t := s.toks) (s := s) (s' := { s with toks := s.toks + 1 }) ⟨fun b o e _ => e, Nat.le_refl _, rfl, rfl⟩ hg⟩
theorem quote_req {w : World} {a b : Bool} {k tk : Nat} {gens : List GenState} (hk : k < 9) : ReqOk (MM (wS w a b)) (topG (wS w a b)) (XstrS [] (qword k)) ⟨callCode 786 [.str (word k) tk], none, none, none, kQ, [], gens⟩ := by
  refine req_of rfl fun D p s T hL ho nd hg => ?_
  refine sim_go (led := []) spQ (fun _ => .none) (xQ k) (xQ k) (cEp []) _ [] (fun ρ => factQ w a b (xS s) k hk tk D p s.toks gens ρ) T hL (by simp) ho hg (fun ρ => ?_) ?_
  · match k, hk with
    | 0, _ => trivial
    | 1, _ => trivial
    | 4, _ => trivial
    | 2, _ => exact ⟨replace_req (by simp), fun _ => trivial⟩
    | 3, _ => exact ⟨replace_req (by simp), fun _ => trivial⟩
    | 5, _ => exact ⟨replace_req (by simp), fun _ => trivial⟩
    | 6, _ => exact ⟨replace_req (by simp), fun _ => trivial⟩
    | 7, _ => exact ⟨replace_req (by simp), fun _ => trivial⟩
    | 8, _ => exact ⟨replace_req (by simp), fun _ => trivial⟩
  · intro ρ s' p' hI F
    exact goes_done (XPost.val _ 0 .none #[] trivial rfl (F.ch) F.gens)
noncomputable def spD : Sp := ⟨⟨false, true⟩, [], [786], true, 4005⟩
noncomputable def cD (P : Params) (f : Bool) (g : GenState) (A : Nat → Addr) (nb : Bool) (d : Dd) : Conf := confT (cx (xloop (A 5) (A 2) (.ref (A 5))) kJ d.D) d.p (xtree (A 5) (A 2) (.ref (A 5))) (ledD P f A nb d.vs d.n d.i d.tk d.y d.t1 d.t2) d.toks (gs f ++ [g])
noncomputable def sD (w : World) (f : Bool) (g0 g : GenState) (nb : Bool) (x A : Nat → Addr) (d : Dd) (s q : PySem.Str) (ρ : Nat → Ep) : Out2 :=
  sim spD w x (fun _ => .str s d.tv) [XstrS [] (S "a")] [XstrS [] q] (cEp []) (cD w.params f g0 (fun j => 4000 + j) nb { d with vs := #[.str (S "a") d.tv], n := 0, i := 0 }) (cD w.params f g A nb d) ρ
noncomputable def cdD : CD := ⟨.Constant .none 0 default, [], default, default, 0, .none, .none, [], [], default, {}⟩
noncomputable def ddD : Dd := ⟨#[], 0, 0, fun _ => 0, .none, 0, 0, 0, fun _ => (cdD, default), default, 0⟩
/-- where the generator waits -/
noncomputable def kG (w : World) (f : Bool) (A : Nat → Addr) : Resume → Sem Fin := match (sD w f (.fresh (gcode (fun j => 4000 + j))) (.fresh (gcode A)) true (fun _ => 0) A ddD (S "a") (S "a") (cEp [])).c.gens.getLast? with
  | some (.suspended k _ _ _ _ _) => k
  | _ => fun _ => .unsupported ""
noncomputable def lvG (o : Out2) : List Value := match o.c.gens.getLast? with
  | some (.suspended _ l _ _ _ _) => l
  | _ => []
noncomputable def psG (o : Out2) : Pos := match o.c.gens.getLast? with
  | some (.suspended _ _ _ p _ _) => p
  | _ => default
noncomputable def gSt (w : World) (f : Bool) (A : Nat → Addr) (nb : Bool) (l : List Value) (q : Pos) : GenState := match nb with
  | true => .fresh (gcode A)
  | false => .suspended (kG w f A) l (gloop A) q [] false
noncomputable def sT (w : World) (f nb : Bool) (x A : Nat → Addr) (d : Dd) (s t : PySem.Str) (l : List Value) (q : Pos) (ρ : Nat → Ep) : Out2 := sD w f (gSt w f (fun j => 4000 + j) nb l q) (gSt w f A nb l q) nb x A d s t ρ
noncomputable def prT (A : Nat → Addr) (d : Dd) (s : PySem.Str) (g : List GenState) : List Ob := [.p (NextP (iterObj (.ref (A 3)) d.i) (lstObj d.vs d.n) (A 3) (.str s d.tv)), .x ⟨callCode 786 [.str s d.tv], none, none, none, kQ, [], g⟩]
theorem factT (w : World) (a b f nb : Bool) (x A : Nat → Addr) (d : Dd) (s t : PySem.Str) (l : List Value) (q : Pos) (ρ : Nat → Ep) :
    proj [0, 1, 2, 3] (sT (wS w a b) f nb x A d s t l q ρ) = want (sT (wS w a b) f nb x A d s t l q ρ) (prT A d s (gs f ++ [.running]))
      (ledD w.params f A false d.vs d.n (d.i + 1) (tks (sT (wS w a b) f nb x A d s t l q ρ) 1) (.str s d.tv) d.t1 d.t2) (gs f ++ [gSt (wS w a b) f A false (lvG (sT (wS w a b) f nb x A d s t l q ρ)) (psG (sT (wS w a b) f nb x A d s t l q ρ))])
      (pushT (A 5) (.str t (ρ 0).t) (xloop (A 5) (A 2) (.ref (A 5)))) (cx (xloop (A 5) (A 2) (.ref (A 5))) kJ d.D) := by
  cases nb <;> cases f <;> cases a <;> cases b <;> kernel_rfl
noncomputable def sE (w : World) (f nb : Bool) (x A : Nat → Addr) (d : Dd) (l : List Value) (q : Pos) (ρ : Nat → Ep) : Out2 :=
  sim spD w x (fun _ => .none) [] [] (cEp []) (cD w.params f (gSt w f (fun j => 4000 + j) nb l q) (fun j => 4000 + j) nb { d with vs := #[], n := 0, i := 0 }) (cD w.params f (gSt w f A nb l q) A nb d) ρ
theorem factE (w : World) (a b f nb : Bool) (x A : Nat → Addr) (d : Dd) (l : List Value) (q : Pos) (ρ : Nat → Ep) :
    proj [0, 1, 2, 3] (sE (wS w a b) f nb x A d l q ρ) = want (sE (wS w a b) f nb x A d l q ρ) [.p (EndP (iterObj (.ref (A 3)) d.i) (lstObj d.vs d.n) (A 3))]
      [(A 0, iterObj .none d.i), (A 1, gfr w.params A nb d.tk d.y), (A 2, gen f d.t1 d.t2), (A 3, lstObj d.vs d.n)] (gs f ++ [.finished]) (.pure (.done (.ret (.ref (A 5))))) (cx (xloop (A 5) (A 2) (.ref (A 5))) kJ d.D) := by
  cases nb <;> cases f <;> cases a <;> cases b <;> kernel_rfl
end Join
end Mine
end
noncomputable section
open PySem PySem.W PyProof.Rows
set_option maxRecDepth 100000
set_option maxHeartbeats 8000000
set_option linter.unusedVariables false
namespace Mine
/-- an array of texts -/
noncomputable def SA (vs : Array Value) (ss : List PySem.Str) : Prop := PyProof.Rows.StrsAre vs.toList ss
theorem SA.nil : SA #[] [] := PyProof.Rows.StrsAre.nil
theorem SA.size {vs : Array Value} {ss : List PySem.Str} (h : SA vs ss) : vs.size = ss.length := by
  have := PyProof.Rows.StrsAre.length h
  simpa using this
theorem SA.get {vs : Array Value} {ss : List PySem.Str} (h : SA vs ss) {i : Nat} {x : PySem.Str} (hi : ss[i]? = some x) : ∃ t, vs[i]? = some (.str x t) := by
  obtain ⟨t, e⟩ := PyProof.Rows.StrsAre.get h i x hi
  exact ⟨t, by simpa using e⟩
theorem SA.push {vs : Array Value} {ss : List PySem.Str} (h : SA vs ss) (x : PySem.Str) (t : Nat) : SA (vs.push (.str x t)) (ss ++ [x]) := by
  unfold SA
  rw [Array.toList_push]
  exact PyProof.Rows.StrsAre.append' h (.cons x t .nil)
theorem SA.pairs {vs : Array Value} {ss : List PySem.Str} (h : SA vs ss) : ∃ l : List (PySem.Str × Tok), vs.toList = strValues l ∧ l.map (·.1) = ss := by
  obtain ⟨l⟩ := vs
  unfold SA at h
  dsimp only at h
  induction h with
  | nil => exact ⟨[], rfl, rfl⟩
  | cons y t h ih =>
    obtain ⟨l, e1, e2⟩ := ih
    dsimp only at e1
    exact ⟨(y, t) :: l, by simp [strValues, e1], by simp [e2]⟩
theorem St.put {w : World} {g : List GenState} {l : List (Addr × Obj)} {s : Shared} {a : Addr} {o : Obj} {h' : Heap} (S : St w g l s) (ha : a ∉ l.map (·.1)) (hoff : topG w a = none) (hs : Heap.SameBut a s.heap h') (hg : h'.get? a = some o) : St w g (l ++ [(a, o)]) { s with heap := h' } := by
  refine ⟨fun b o' e => ?_, fun y hy => ?_, ?_, fun y hy => ?_, S.gens⟩
  · have : b ≠ a := by rintro rfl; rw [hoff] at e; cases e
    exact (hs.2 b this).trans (S.top b o' e)
  · rcases List.mem_append.mp hy with hy | hy
    · have : y.1 ≠ a := fun q => ha (by rw [← q]; exact List.mem_map_of_mem hy)
      exact (hs.2 y.1 this).trans (S.led y hy)
    · rw [List.mem_singleton.mp hy]; exact hg
  · rw [List.map_append]
    refine List.nodup_append.mpr ⟨S.nd, by simp, fun b hb c hc => ?_⟩
    have : c = a := by simpa using hc
    rintro rfl; subst this; exact ha hb
  · rcases List.mem_append.mp hy with hy | hy
    · exact S.off y hy
    · rw [List.mem_singleton.mp hy]; exact hoff
theorem Ch.put {s : Shared} {a : Addr} {h' : Heap} (hs : Heap.SameBut a s.heap h') : Ch [a] s { s with heap := h' } :=
  ⟨fun b o e hb => (hs.2 b (by simpa using hb)).trans e, Nat.le_of_eq hs.1.symm, rfl, rfl⟩
/-- part of what is known -/
theorem St.sub {w : World} {g : List GenState} {l l' : List (Addr × Obj)} {s : Shared} (S : St w g l s) (h : l'.Sublist l) : St w g l' s :=
  ⟨S.top, fun y hy => S.led y (h.subset hy), (h.map (·.1)).nodup S.nd, fun y hy => S.off y (h.subset hy), S.gens⟩
namespace Join
theorem loop {w : World} {a b f : Bool} {A : Nat → Addr} {D : Nat → CD × Pos} {vs : Array Value} {n t1 t2 : Nat} {js : List Nat} (hv : SA vs (js.map word)) (hj : ∀ j ∈ js, j < 9) (hz : js.length ≤ 900) {tk : Nat → Nat} {p : Pos} {s : Shared}
    (S0 : St (wS w a b) (gs f ++ [.fresh (gcode A)]) (ledG w.params f A vs n 0 tk t1 t2 ++ [(A 5, lstObj #[] 2)]) s) :
    wpCode (MM (wS w a b)) (cx (xloop (A 5) (A 2) (.ref (A 5))) kJ D) (fun r s' => r = .ok (.ret (.ref (A 5))) ∧ ∃ us m o0 o1, SA us (js.map qword) ∧
      St (wS w a b) (gs f ++ [.finished]) ([(A 0, o0), (A 1, o1), (A 2, gen f t1 t2), (A 3, lstObj vs n)] ++ [(A 5, lstObj us m)]) s' ∧ Ch [A 0, A 1, A 5] s s') p s := by
  have hlen : vs.size = js.length := by rw [hv.size, List.length_map]
  have nd := S0.nd
  simp only [ledG, List.map_append, List.map_cons, List.map_nil, List.cons_append, List.nil_append, List.nodup_cons, List.mem_cons, List.not_mem_nil, not_or, or_false, List.nodup_nil, and_true, not_false_eq_true] at nd
  obtain ⟨⟨n01, n02, n03, n05⟩, ⟨n12, n13, n15⟩, ⟨n23, n25⟩, n35⟩ := nd
  have off5 : topG (wS w a b) (A 5) = none := S0.off (A 5, lstObj #[] 2) (by simp)
  have not5 : ∀ (o0 o1 o2 o3 : Obj), A 5 ∉ ([(A 0, o0), (A 1, o1), (A 2, o2), (A 3, o3)] : List (Addr × Obj)).map (·.1) := by
    intro o0 o1 o2 o3; simp; exact ⟨Ne.symm n05, Ne.symm n15, Ne.symm n25, Ne.symm n35⟩
  refine loop_ind (Γ := cx (xloop (A 5) (A 2) (.ref (A 5))) kJ D) js.length (fun i s' => ∃ us m nb tk y l q, nb = decide (i = 0) ∧ SA us ((js.take i).map qword) ∧
    St (wS w a b) (gs f ++ [gSt (wS w a b) f A nb l q]) (ledD w.params f A nb vs n (i : Nat) tk y t1 t2 ++ [(A 5, lstObj us m)]) s' ∧ Ch [A 0, A 1, A 5] s s') ?_ ?_ p s
    ⟨#[], 2, true, tk, .none, [], default, rfl, SA.nil, S0, Ch.refl _ _⟩
  · rintro i hi p s1 ⟨us, m, nb, tk, y, l, q, rfl, hus, S1, C1⟩ next
    have hlt : i < js.length := hi
    have hji : js[i]? = some js[i] := List.getElem?_eq_getElem hlt
    obtain ⟨tv, hx⟩ := hv.get (i := i) (x := word js[i]) (by rw [List.getElem?_map, hji]; rfl)
    have S1a : St (wS w a b) (gs f ++ [gSt (wS w a b) f A (decide (i = 0)) l q]) (ledD w.params f A (decide (i = 0)) vs n (i : Nat) tk y t1 t2) s1 := S1.sub (List.sublist_append_left _ _)
    refine sim_goT (xtree_eq _ _ _) (led := ledD w.params f A (decide (i = 0)) vs n (i : Nat) tk y t1 t2) spD (fun _ => .str (word js[i]) tv) [XstrS [] (S "a")] [XstrS [] (qword js[i])] (cEp []) _ [0, 1, 2, 3]
      (fun ρ => factT w a b f (decide (i = 0)) (xS s1) A ⟨vs, n, (i : Nat), tk, y, t1, t2, tv, D, p, s1.toks⟩ (word js[i]) (qword js[i]) l q ρ) S1a.top S1a.led S1a.nd S1a.off S1a.gens (fun ρ => ⟨⟨vs, n, none, #[], rfl, rfl, ?_⟩, quote_req (hj _ (List.getElem_mem _)), fun _ => trivial⟩) ?_
    · show vs[((i : Nat) : Int).toNat]? = some _
      rw [Int.toNat_natCast]; exact hx
    · intro ρ s2 p2 hI F
      have S2 := F.st (by decide)
      have L5 : s2.heap.get? (A 5) = some (lstObj us m) := F.ch.keep _ _ (S1.led (A 5, lstObj us m) (by simp)) (not5 _ _ _ _)
      refine goes_push L5 (by rw [hus.size]; simp; omega) (plainId_quiet PySem.F.plain_extend_loop _) fun h' p' g1 g2 => ?_
      refine next p' _ ⟨us.push (.str (qword js[i]) (ρ 0).t), m + 1, false, _, _, _, _, by simp, ?_, S2.put (not5 _ _ _ _) off5 g2 g1, ?_⟩
      · rw [List.take_add_one, hji, List.map_append]
        exact hus.push _ _
      · have Cx : Ch [A 0, A 1] s1 s2 := F.ch.less (Rd := [(A 2, gen f t1 t2), (A 3, lstObj vs n)]) (fun y hy => S1a.led y (by simp at hy; rcases hy with rfl | rfl <;> simp [ledD])) (fun y hy => F.led y (by simp at hy; rcases hy with rfl | rfl <;> simp [ledD])) (by simp [ledD])
        exact (C1.trans Cx (fun b hb => .inl (by simp at hb; rcases hb with rfl | rfl <;> simp))).trans (Ch.put g2) (fun b hb => .inl (by simp at hb; subst hb; simp))
  · rintro p s1 ⟨us, m, nb, tk, y, l, q, rfl, hus, S1, C1⟩
    have S1a : St (wS w a b) (gs f ++ [gSt (wS w a b) f A (decide (js.length = 0)) l q]) (ledD w.params f A (decide (js.length = 0)) vs n (js.length : Nat) tk y t1 t2) s1 := S1.sub (List.sublist_append_left _ _)
    refine sim_goT (xtree_eq _ _ _) (led := ledD w.params f A (decide (js.length = 0)) vs n (js.length : Nat) tk y t1 t2) spD (fun _ => .none) [] [] (cEp []) _ [0, 1, 2, 3]
      (fun ρ => factE w a b f (decide (js.length = 0)) (xS s1) A ⟨vs, n, (js.length : Nat), tk, y, t1, t2, 0, D, p, s1.toks⟩ l q ρ) S1a.top S1a.led S1a.nd S1a.off S1a.gens (fun ρ => ⟨⟨vs, n, none, #[], rfl, rfl, ?_⟩, trivial⟩) ?_
    · show vs[((js.length : Nat) : Int).toNat]? = none
      rw [Int.toNat_natCast, ← hlen]; simp
    · intro ρ s2 p2 hI F
      have S2 := F.st (by decide)
      have L5 : s2.heap.get? (A 5) = some (lstObj us m) := F.ch.keep _ _ (S1.led (A 5, lstObj us m) (by simp)) (not5 _ _ _ _)
      have Cx : Ch [A 0, A 1] s1 s2 := F.ch.less (Rd := [(A 2, gen f t1 t2), (A 3, lstObj vs n)]) (fun y hy => S1a.led y (by simp at hy; rcases hy with rfl | rfl <;> simp [ledD])) (fun y hy => F.led y (by simp at hy; rcases hy with rfl | rfl <;> simp)) (by simp [ledD])
      refine goes_done ⟨rfl, us, m, _, _, by rw [List.take_length] at hus; exact hus, S2.put (h' := s2.heap) (not5 _ _ _ _) off5 ⟨rfl, fun _ _ => rfl⟩ L5, C1.trans Cx (fun b hb => .inl (by simp at hb; rcases hb with rfl | rfl <;> simp))⟩
/-- collect over the generator -/
theorem collect_ok {w : World} {a b f : Bool} {A : Nat → Addr} {D : Nat → CD × Pos} {vs : Array Value} {n t1 t2 : Nat} {js : List Nat} (hv : SA vs (js.map word)) (hj : ∀ j ∈ js, j < 9) (hz : js.length ≤ 900) {tk : Nat → Nat} {p : Pos} {s : Shared}
    (S0 : St (wS w a b) (gs f ++ [.fresh (gcode A)]) (ledG w.params f A vs n 0 tk t1 t2) s) :
    wpCode (MM (wS w a b)) (cx (.builtin "proto.collect" ⟨[.ref (A 2)], []⟩) kJ D) (fun r s' => ∃ L us m o0 o1, r = .ok (.ret (.ref L)) ∧ SA us (js.map qword) ∧ s.heap.objs.size ≤ L ∧
      St (wS w a b) (gs f ++ [.finished]) ([(A 0, o0), (A 1, o1), (A 2, gen f t1 t2), (A 3, lstObj vs n)] ++ [(L, lstObj us m)]) s' ∧ Ch [A 0, A 1] s s') p s := by
  refine sim_go (led := ledG w.params f A vs n 0 tk t1 t2) spC (fun _ => .none) [] [] (cEp []) _ [0, 1, 2, 3, 4] (fun ρ => factC w a b f (xS s) A ⟨vs, n, tk, t1, t2, 0, D, p, s.toks⟩ ρ) S0.top S0.led S0.nd S0.off S0.gens (fun ρ => trivial) ?_
  intro ρ s1 p1 _ F1
  refine goes_again (plainId_quiet PySem.F.plain_list_iadd _) ?_
  have S1 := F1.st (by decide)
  have hL : xS s 0 ≠ A 2 := fun q => by
    have := S1.nd
    simp [ledG] at this
    exact this.2.2.1.2 q.symm
  let B : Nat → Addr := adr [A 0, A 1, A 2, A 3, A 4, xS s 0]
  refine sim_goT (Γ := cx (.builtin "list.__iadd__" ⟨[.ref (xS s 0), .ref (A 2)], []⟩) kJ D) (iadd_eq hL) (led := ledG w.params f A vs n 0 tk t1 t2 ++ [(xS s 0, lstObj #[] 0)]) spC (fun _ => .none) [] [] (cEp []) _ [0, 1, 2, 3, 4]
    (fun ρ => factI w a b f (xS s1) B ⟨vs, n, tk, t1, t2, 0, D, p1, s1.toks⟩ ρ) S1.top S1.led S1.nd S1.off S1.gens (fun ρ => trivial) ?_
  intro ρ s2 p2 _ F2
  refine goes_again (plainId_quiet PySem.F.plain_extend_loop _) ?_
  have S2 : St (wS w a b) (gs f ++ [.fresh (gcode B)]) (ledG w.params f B vs n 0 tk t1 t2 ++ [(B 5, lstObj #[] 2)]) s2 := F2.st (by decide)
  have C1 : Ch [] s s1 := F1.ch.less (Rd := ledG w.params f A vs n 0 tk t1 t2) S0.led (fun y hy => F1.led y (List.mem_append.mpr (.inl hy))) (fun b hb => .inr hb)
  have C2 : Ch [xS s 0] s1 s2 := F2.ch.less (Rd := ledG w.params f A vs n 0 tk t1 t2) (fun y hy => S1.led y (List.mem_append.mpr (.inl hy))) (fun y hy => F2.led y (List.mem_append.mpr (.inl hy))) (fun b hb => by
    rw [List.map_append] at hb
    rcases List.mem_append.mp hb with h | h
    · exact .inr h
    · exact .inl h)
  have C12 : Ch [] s s2 := C1.trans C2 (fun b hb => .inr (by simp at hb; subst hb; exact Nat.le_add_right _ _))
  refine wpCode_mono ?_ (loop (A := B) (D := D) (p := p2) hv hj hz S2)
  rintro r s' ⟨rfl, us, m, o0, o1, h1, h2, h3⟩
  refine ⟨xS s 0, us, m, o0, o1, rfl, h1, Nat.le_add_right _ _, h2, ?_⟩
  refine (C12.mono (L' := [A 0, A 1]) (fun b hb => nomatch hb)).trans h3 (fun b hb => ?_)
  have hb : b = A 0 ∨ b = A 1 ∨ b = xS s 0 := by simpa [B, adr] using hb
  rcases hb with rfl | rfl | rfl
  · exact .inl (by simp)
  · exact .inl (by simp)
  · exact .inr (Nat.le_add_right _ _)
end Join
end Mine
end
noncomputable section
open PySem PySem.W PyProof.Rows
set_option maxRecDepth 100000
set_option maxHeartbeats 8000000
set_option linter.unusedVariables false
namespace Mine
theorem qword_len (k : Nat) : (qword k).length ≤ 12 := by
  unfold qword
  split <;> decide +kernel
namespace Join
/-- the names in one line -/
noncomputable def line (js : List Nat) : PySem.Str := Txt.join (S " ") (js.map qword)
theorem fits (js : List Nat) (hz : js.length ≤ 900) : Builtin.Str.tooLong ((js.map qword).toArray.foldl (· + ·.length + (S " ").length) 0) = false := by
  have h : ((js.map qword).map (·.length)).sum ≤ 12 * js.length := by
    clear hz
    induction js with
    | nil => simp
    | cons j js ih =>
      simp only [List.map_cons, List.sum_cons, List.length_cons]
      have := qword_len j
      omega
  rw [StrLaws.joinTotal]
  have e : (S " ").length = 1 := by decide +kernel
  rw [e, List.length_map]
  unfold Builtin.Str.tooLong
  rw [decide_eq_false_iff_not, sizeLine_eq]
  omega
theorem joinTail_goes {w : World} {R : Result → Shared → Prop} {Γ : Ctx} {p : Pos} {s : Shared} {L : Addr} {us : Array Value} {m : Nat} {js : List Nat} (hL : s.heap.get? L = some (lstObj us m)) (hu : SA us (js.map qword)) (hz : js.length ≤ 900) (hc : ∃ args, Γ.code = .builtin "str.join" args)
    (hR : ∀ t k, R (.ok (.ret (.str (line js) t))) { s with toks := k }) : Goes (MM w) R Γ p (collT L >>= fun items => joinTail (S " ") items) .base s := by
  refine goes_wp ?_
  obtain ⟨args, hc⟩ := hc
  have hin : Γ.In ((AΓ Γ).in1) := by
    have h : Γ.In ((AΓ Γ).under Γ.code) := Ctx.Below.in ⟨rfl, Nat.le_refl _, fun l hl => (nomatch hl), fun l hl => (nomatch hl), Nat.le_refl _⟩
    rw [hc, Around.under_plainId F.slot_str_join.plain] at h
    exact h
  obtain ⟨l, e1, e2⟩ := hu.pairs
  have g : Gives (joinTail (S " ") (strValues l)) (joinMade (S " ") l) := by
    have g0 := gives_joinTail (S " ") l (by rw [e2]; exact fits js hz)
    cases l with
    | nil => exact g0
    | cons p r => cases r with
      | nil => exact g0
      | cons q r' => exact g0
  have h : wpAny (MM w) (AΓ Γ).in1 (collT L >>= fun items => joinTail (S " ") items) (fun fin s' => match fin with | .done f => R (.ok f) s' | .again c' => c'.quiet = true ∧ codeAny (MM w) (AΓ Γ) c' R s') (fun e s' => R (.error e) s') s := by
    refine wpAny_bind ?_
    unfold collT
    refine wpAny_bind (wpAny_load hL ?_)
    refine wpAny_pure ?_
    rw [e1]
    refine g pw w (AΓ Γ) R s (post_join l ⟨joinFit_length (by rw [e2]; exact fits js hz), fun t k => ?_⟩)
    rw [e2]
    exact hR t k
  refine Sem.wp_mono _ _ _ (fun fin p' s' h => ?_) (fun _ _ _ h => h) _ _ (h Γ p hin)
  cases fin with
  | done f => exact h
  | again c => exact ⟨h.1, h.2 (Γ.goto c) p' rfl ⟨rfl, Nat.le_refl _, fun l hl => (nomatch hl), fun l hl => (nomatch hl), Nat.le_refl _⟩⟩
theorem strjoin_ok {w : World} {a b f : Bool} {A : Nat → Addr} {D : Nat → CD × Pos} {vs : Array Value} {n t1 t2 tj : Nat} {js : List Nat} (hv : SA vs (js.map word)) (hj : ∀ j ∈ js, j < 9) (hz : js.length ≤ 900) {tk : Nat → Nat} {p : Pos} {s : Shared}
    (S0 : St (wS w a b) (gs f ++ [.fresh (gcode A)]) (ledG w.params f A vs n 0 tk t1 t2) s) :
    wpCode (MM (wS w a b)) (cx (biCode "str.join" [.str (S " ") tj, .ref (A 2)]) (.fn :: ks) D) (fun r s' => ∃ t o0 o1 o2, r = .ok (.ret (.str (line js) t)) ∧
      Led s' [(A 0, o0), (A 1, o1), (A 2, o2)] ∧ s'.gens = (gs f ++ [GenState.finished]).toArray ∧ Ch [A 0, A 1, A 2] s s') p s := by
  refine sim_go (led := ledG w.params f A vs n 0 tk t1 t2) spB (fun _ => .none) [Xc f (fun us => SA us (js.map qword))] [Xc f (fun us => SA us (js.map qword))] ρB (cB w.params f (fun j => 4000 + j) ⟨vs, n, tk, t1, t2, tj, D, p, s.toks⟩) [0, 1, 2, 3, 4]
    (fun ρ => factB' w a b f (xS s) A ⟨vs, n, tk, t1, t2, tj, D, p, s.toks⟩ (fun us => SA us (js.map qword)) ρ) S0.top S0.led S0.nd S0.off S0.gens (fun ρ => ⟨?_, fun _ => trivial⟩) ?_
  · refine req_of rfl fun D2 p2 s2 T2 hL2 ho2 nd2 hg2 => ?_
    refine wpCode_mono ?_ (collect_ok (A := A) (D := D2) (p := p2) hv hj hz ⟨T2, hL2, nd2 (by show [0, 1, 2, 3].Nodup; decide), ho2, hg2⟩)
    rintro r s' ⟨L, us, m, o0, o1, rfl, h1, h2, h3, h4⟩
    refine ⟨⟨xS s', s'.toks, m, L, .none, us, default, [o0, o1, gen f t1 t2], fun _ => 0⟩, rfl, rfl, h1, rfl, ?_, ?_, by simp [Xc], ?_, ?_, h3.gens⟩
    · exact ⟨h3.led (A 0, o0) (by simp), h3.led (A 1, o1) (by simp), h3.led (A 2, gen f t1 t2) (by simp), trivial⟩
    · intro y hy
      simp [Xc] at hy
      subst hy
      exact h3.led (L, lstObj us m) (by simp)
    · intro y hy
      simp [Xc] at hy
      subst hy
      exact h2
    · exact h4.mono (fun b hb => by simp at hb; rcases hb with rfl | rfl <;> simp [Xc, ledG])
  · intro ρ s' p' hI F
    refine joinTail_goes (js := js) (F.led ((ρ 0).n, lstObj (ρ 0).vs (ρ 0).t) (by simp)) hI.1 hz ⟨_, rfl⟩ fun t k => ?_
    refine ⟨t, getO (ρ 0).os 0, getO (ρ 0).os 1, getO (ρ 0).os 2, rfl, fun y hy => F.led y (by simp at hy ⊢; rcases hy with rfl | rfl | rfl <;> simp), F.gens, ?_⟩
    have C : Ch [A 0, A 1, A 2] s s' := F.ch.less (Rd := [(A 3, lstObj vs n)]) (fun y hy => S0.led y (by simp at hy; subst hy; simp [ledG])) (fun y hy => F.led y (by simp at hy; subst hy; simp)) (by simp [ledG])
    exact ⟨C.keep, C.size, C.dr, C.os⟩
/-- join by its contract -/
noncomputable def Xjoin (i7 il : Nat) (y : PySem.Str) : Xs := ⟨[i7, il], fun ρ _ => (.ok (.ret (.str y ρ.t)), [tab false ρ.n], []), fun g => g ++ [.finished], fun _ => True, none⟩
theorem req {w : World} {a b f : Bool} {l c : Addr} {vs : Array Value} {n i7 il : Nat} {js : List Nat} (hv : SA vs (js.map word)) (hj : ∀ j ∈ js, j < 9) (hz : js.length ≤ 900) (hi : i7 ≠ il) :
    ReqOk (MM (wS w a b)) (topG (wS w a b)) (Xjoin i7 il (line js)) ⟨callCode 778 [.ref l], none, none, none, ks, [(773, tab f c), (l, lstObj vs n)], gs f⟩ := by
  refine req_of rfl fun D p s T hL ho nd hg => ?_
  have nd := nd (by simp [Xjoin, hi])
  let A : Nat → Addr := adr [l, c]
  refine sim_go (led := [(l, lstObj vs n), (773, tab f c)]) spA (fun _ => .none) [Xj f (S "")] [Xj f (line js)] (cEp []) (cA f (fun j => 4000 + j) ⟨vs, n, D, p, s.toks⟩) [0, 1]
    (fun ρ => factA w a b f (xS s) A ⟨vs, n, D, p, s.toks⟩ (line js) ρ) T (fun y hy => hL y (by simp at hy ⊢; exact hy.symm)) (by simp at nd ⊢; exact Ne.symm nd) (fun y hy => ho y (by simp at hy ⊢; exact hy.symm)) hg (fun ρ => ⟨?_, fun _ => trivial⟩) ?_
  · refine req_of rfl fun D2 p2 s2 T2 hL2 ho2 nd2 hg2 => ?_
    refine wpCode_mono ?_ (strjoin_ok (A := A' f (xS s) l c) (D := D2) (p := p2) hv hj hz ⟨T2, hL2, nd2 (by cases f <;> (show [_, _, _, _].Nodup; decide)), ho2, hg2⟩)
    rintro r s' ⟨t, o0, o1, o2, rfl, h1, h2, h3⟩
    refine ⟨⟨xS s', s'.toks, t, 0, .none, #[], default, [o0, o1, o2], fun _ => 0⟩, rfl, rfl, trivial, rfl, ?_, fun y hy => (nomatch hy), List.nodup_nil, fun y hy => (nomatch hy), h3, h2⟩
    exact ⟨h1 (A' f (xS s) l c 0, o0) (by simp), h1 (A' f (xS s) l c 1, o1) (by simp), h1 (A' f (xS s) l c 2, o2) (by simp), trivial⟩
  · intro ρ s' p' hI F
    refine goes_done ⟨⟨xS s', s'.toks, (ρ 0).t, A' f (xS s) l c 4, .none, #[], default, [], fun _ => 0⟩, rfl, rfl, trivial, rfl, ?_, fun y hy => (nomatch hy), List.nodup_nil, fun y hy => (nomatch hy), ?_, F.gens⟩
    · exact ⟨F.led (773, tab false (A' f (xS s) l c 4)) (by simp [A, adr]), trivial⟩
    · exact F.ch.less (Rd := [(l, lstObj vs n)]) (fun y hy => hL y (by simp at hy ⊢; exact .inr hy)) (fun y hy => F.led y (by simp at hy; subst hy; simp [A, adr])) (by simp [Xjoin])
end Join
end Mine
end
noncomputable section
open PySem PySem.W PyProof.Rows
set_option maxRecDepth 100000
set_option maxHeartbeats 8000000
set_option linter.unusedVariables false
namespace Mine
noncomputable def strC (e : PE) : PySem.Str := match e with
  | .Constant (.str s) _ _ => s
  | _ => S ""
noncomputable def augE (s : Stmt) : PE := match s with
  | .AugAssign _ _ e _ => e
  | _ => .Constant .none 0 default
namespace Split
noncomputable def ks : List Kd := [.fn, .bi "claim.caller"]
/-- the signs of words, as the text has them -/
noncomputable def wcs : PySem.Str := strC (stE (nthS (fBody [26, 0]) 5)) ++ strC (augE (nthS (stB (nthS (fBody [26, 0]) 6)) 0))
/-- the lexer's dict, the stream's dict, the list, the lexer, the stream, two deques -/
noncomputable def lexD (P : Params) (A : Nat → Addr) (tk u : Nat → Nat) (st tok : Value) : Obj :=
  dcO P [("instream", .ref (A 4)), ("infile", .none), ("posix", .bool true), ("eof", .none), ("commenters", .str (S "") (u 4)), ("wordchars", .str wcs (u 5)), ("whitespace", .str (S " \t\r\n") (u 6)), ("whitespace_split", .bool true),
    ("quotes", .str (S "'\"") (u 8)), ("escape", .str (S "\\") (u 9)), ("escapedquotes", .str (S "\"") (u 10)), ("state", st), ("pushback", .ref (A 5)), ("lineno", .int 1 (u 13)), ("debug", .int 0 (u 14)), ("token", tok), ("filestack", .ref (A 6)), ("source", .none), ("_punctuation_chars", .str (S "") (u 18))] tk 19
noncomputable def lexO (A : Nat → Addr) : Obj := ⟨.ref 759, some (A 0), .plain, #[]⟩
noncomputable def sioD (P : Params) (tk u : Nat → Nat) (ln : PySem.Str) (pos : Int) (tp : Nat) : Obj := dcO P [("_StringIO__newline", .str (S "\n") (u 0)), ("_StringIO__buf", .str ln (u 1)), ("_StringIO__pos", .int pos tp)] tk 3
noncomputable def sioO (A : Nat → Addr) : Obj := ⟨.ref 624, some (A 1), .plain, #[]⟩
noncomputable def dqO : Obj := ⟨.type "collections.deque", none, .fields #[.none, .int 0 0], #[]⟩
/-- tokens of names and values in what a call sees -/
noncomputable def vwN (o : Out2) (j i k : Nat) : Nat := match viewAt o j with
  | some v => match gL v.sel i with
    | some (_, ⟨_, _, .dict es _, _⟩) => match es.toList[k]? with
      | some e => tokV e.key
      | none => 0
    | _ => 0
  | none => 0
noncomputable def vwV (o : Out2) (j i k : Nat) : Nat := match viewAt o j with
  | some v => match gL v.sel i with
    | some (_, ⟨_, _, .dict es _, _⟩) => match es.toList[k]? with
      | some e => tokV e.val
      | none => 0
    | _ => 0
  | none => 0
structure Da where
  ln : PySem.Str
  t : Nat
  D : Nat → CD × Pos
  p : Pos
  toks : Nat
  gens : List GenState
noncomputable def spA : Sp := ⟨⟨false, true⟩, ["list.__init__"], [], true, 0⟩
noncomputable def cA (d : Da) (ln : PySem.Str) : Conf := conf (cx (callCode 771 [.str ln d.t]) ks d.D) d.p [] d.toks d.gens
noncomputable def Xi (I : Array Value → Prop) : Xs := ⟨[1, 7, 13, 2, 8, 11, 12], fun ρ _ => (.ok (.ret .none), [getO ρ.os 0, getO ρ.os 1, lstObj ρ.vs ρ.t], []), id, fun ρ => I ρ.vs, none⟩
noncomputable def sA (w : World) (x : Nat → Addr) (d : Da) (I : Array Value → Prop) (ρ : Nat → Ep) : Out2 := sim spA w x (fun _ => .none) [Xi I] [Xi I] (cEp []) (cA d (S "a")) (cA d d.ln) ρ
noncomputable def A' (x : Nat → Addr) : Nat → Addr := adr [x 1, x 7, x 13, x 2, x 8, x 11, x 12]
noncomputable def led0 (P : Params) (A : Nat → Addr) (tk u tk2 u2 : Nat → Nat) (ln : PySem.Str) (tp t1 t2 : Nat) : List (Addr × Obj) :=
  [(A 0, lexD P A tk u (.str (S " ") t1) (.str (S "") t2)), (A 1, sioD P tk2 u2 ln 0 tp), (A 2, lstObj #[] 0), (A 3, lexO A), (A 4, sioO A), (A 5, dqO), (A 6, dqO)]
noncomputable def kI : List Kd := .tc "list" :: .fn :: ks
noncomputable def prA (o : Out2) (P : Params) (x : Nat → Addr) (d : Da) : List Ob :=
  [.x ⟨biCode "list.__init__" [.ref (x 13), .ref (x 2)], none, none, none, kI, led0 P (A' x) (vwN o 0 0) (vwV o 0 0) (vwN o 0 1) (vwV o 0 1) d.ln (vwV o 0 1 2) (vwV o 0 0 11) (vwV o 0 0 15), d.gens⟩]
theorem factA (w : World) (a b : Bool) (x : Nat → Addr) (d : Da) (I : Array Value → Prop) (ρ : Nat → Ep) :
    proj [13] (sA (wS w a b) x d I ρ) = want (sA (wS w a b) x d I ρ) (prA (sA (wS w a b) x d I ρ) w.params x d)
      [(x 13, lstObj (ρ 0).vs (ρ 0).t)] d.gens (.pure (.done (.ret (.ref (x 13))))) (cx (.func (fBody [27]) (fenv 27 "split" 771 770 (x 0) [])) ks d.D) := by
  cases a <;> kernel_rfl
end Split
end Mine
end
noncomputable section
open PySem PySem.W PyProof.Rows
set_option maxRecDepth 100000
set_option maxHeartbeats 8000000
set_option linter.unusedVariables false
namespace Mine
noncomputable def ledV (o : Out2) (i k : Nat) : Nat := match gL o.c.led i with
  | some (_, ⟨_, _, .dict es _, _⟩) => match es.toList[k]? with
    | some e => tokV e.val
    | none => 0
  | _ => 0
namespace Split
open Join (XstrS XPost.str)
noncomputable def sliceO (a b : Value) : Obj := ⟨.type "slice", none, .fields #[a, b, .none], #[]⟩
theorem slice_req {w : World} {ln : PySem.Str} {t i ta tb isl : Nat} {b : Int} {c : Nat} {a : Addr} {ks : List Kd} {gens : List GenState} (hc : ln.cps[i]? = some c) (hb : b = i + 1) :
    ReqOk (MM w) (topG w) (XstrS [isl] ⟨#[c]⟩) ⟨biCode "str.__getitem__" [.str ln t, .ref a], none, none, none, ks, [(a, sliceO (.int i ta) (.int b tb))], gens⟩ := by
  intro Γ p s hΓ T hL ho nd hg
  have hi : i < ln.length := by
    rcases Nat.lt_or_ge i ln.cps.size with h | h
    · exact h
    · rw [Array.getElem?_eq_none h] at hc; cases hc
  have hp : slicePicked ln (some ((i : Int), ta)) (some (b, tb)) none = [i] := by
    subst hb
    show Builtin.Str.strSliceIndices (some (i : Int)) (some (((i + 1 : Nat)) : Int)) 1 ln.length = [i]
    rw [StrLaws.strSliceIndices_plain (Nat.le_succ i) hi]
    simp
  refine lib_code hΓ.at_ hΓ.code fun A _ _ _ => call_meets F.slot_str_getitem (typeIs_str _ _ _) F.entry_str_getitem (F.args_str_getitem_2 _ _) (meets_str_getitem_slice ln t a (some (i, ta)) (some (b, tb)) none (by decide)) ⟨⟨_, hL _ List.mem_cons_self, rfl, rfl⟩, ?_⟩
  unfold sliceMade
  rw [hp]
  split
  · rename_i h
    have hl : ln.length = 1 := by
      simp at h
      exact h.symm
    have h0 : i = 0 := by omega
    subst h0
    have e : ln = ⟨#[c]⟩ := by
      obtain ⟨⟨l⟩⟩ := ln
      have hl : l.length = 1 := hl
      match l, hl with
      | [x], _ => simp at hc; subst hc; rfl
    refine ?_
    have := XPost.str (sel := [isl]) (y := ⟨#[c]⟩) (t := t) (v := ⟨biCode "str.__getitem__" [.str ln t, .ref a], none, none, none, ks, [(a, sliceO (.int ((0 : Nat) : Int) ta) (.int b tb))], gens⟩) (s := s) (s' := s) (Ch.refl _ _) hg
    rw [e]
    rw [e] at this
    exact this
  · have e : (⟨(([i] : List Nat).filterMap (ln.cps[·]?)).toArray⟩ : PySem.Str) = ⟨#[c]⟩ := by simp [hc]
    rw [e]
    refine ⟨by rw [sizeLine_eq]; simp [Str.length], ?_⟩
    exact XPost.str (sel := [isl]) (t := s.toks) (s := s) (s' := { s with toks := s.toks + 1 }) ⟨fun b o e _ => e, Nat.le_refl _, rfl, rfl⟩ hg
theorem len_req {w : World} {ln : PySem.Str} {t : Nat} {hd own past : Option Value} {ks : List Kd} {sel : List (Addr × Obj)} {gens : List GenState} (h : ln.length ≤ 1000000) : ReqOk (MM w) (topG w) (Xint (ln.length : Int)) ⟨biCode "len" [.str ln t], hd, own, past, ks, sel, gens⟩ := by
  intro Γ p s hΓ T hL ho nd hg
  refine lib_code hΓ.at_ hΓ.code fun A _ _ _ => P.len_str (by omega) ?_
  exact XPost.val (s.toks + 1) 0 .none #[] trivial rfl ⟨fun b o e _ => e, Nat.le_refl _, rfl, rfl⟩ hg
noncomputable def kT : List Kd := .fn :: .fn :: .fn :: .bi "list.extend.loop" :: kI
noncomputable def kR : List Kd := .wh :: kT
structure Dr where
  tk : Nat → Nat
  u : Nat → Nat
  tp : Nat
  t1 : Nat
  D : Nat → CD × Pos
  p : Pos
  toks : Nat
  gens : List GenState
inductive Md where
  | m | l | e
noncomputable def Md.ln : Md → PySem.Str
  | .m => S "aaa"
  | .l => S "a"
  | .e => S ""
noncomputable def spR : Sp := ⟨⟨true, true⟩, ["str.__getitem__", "len"], [], true, 0⟩
noncomputable def cR (P : Params) (A : Nat → Addr) (d : Dr) (ln : PySem.Str) (pos : Int) : Conf := conf (cx (callCode 570 [.ref (A 4), .int 1 d.t1]) kR d.D) d.p [(A 1, sioD P d.tk d.u ln pos d.tp), (A 4, sioO A)] d.toks d.gens
noncomputable def xR (j : Md) (n : Int) (c : PySem.Str) : List Xs := match j with
  | .e => [Xint n]
  | _ => [Xint n, XstrS [5] c]
noncomputable def sR (w : World) (j : Md) (x A : Nat → Addr) (d : Dr) (ln : PySem.Str) (pos : Int) (c : PySem.Str) (ρ : Nat → Ep) : Out2 :=
  sim spR w x (fun _ => .none) (xR j j.ln.length (S "a")) (xR j ln.length c) (cEp []) (cR w.params (fun j => 4000 + j) d j.ln 0) (cR w.params A d ln pos) ρ
noncomputable def prR (o : Out2) (j : Md) (ρ : Nat → Ep) (A : Nat → Addr) (d : Dr) (ln : PySem.Str) (pos : Int) : List Ob := match j with
  | .e => [.p (((1 : Int) > 1099511627776) = (false = true)), .p (((1 : Int) < -1099511627776) = (false = true)), .x ⟨biCode "len" [.str ln (d.u 1)], none, none, none, .fn :: kR, [], d.gens⟩, .p ((pos ≥ (ln.length : Int)) = (true = true))]
  | .m => [.p (((1 : Int) > 1099511627776) = (false = true)), .p (((1 : Int) < -1099511627776) = (false = true)), .x ⟨biCode "len" [.str ln (d.u 1)], none, none, none, .fn :: kR, [], d.gens⟩, .p ((pos ≥ (ln.length : Int)) = (false = true)), .p (((1 : Int) ≥ 0) = (true = true)), .p ((pos + 1 < (ln.length : Int)) = (true = true)),
      .x ⟨biCode "str.__getitem__" [.str ln (d.u 1), .ref ((ρ 0).x 0)], none, none, none, .fn :: kR, [((ρ 0).x 0, sliceO (.int pos d.tp) (.int (pos + 1) (ledV o 0 2)))], d.gens⟩]
  | .l => [.p (((1 : Int) > 1099511627776) = (false = true)), .p (((1 : Int) < -1099511627776) = (false = true)), .x ⟨biCode "len" [.str ln (d.u 1)], none, none, none, .fn :: kR, [], d.gens⟩, .p ((pos ≥ (ln.length : Int)) = (false = true)), .p (((1 : Int) ≥ 0) = (true = true)), .p ((pos + 1 < (ln.length : Int)) = (false = true)),
      .x ⟨biCode "str.__getitem__" [.str ln (d.u 1), .ref ((ρ 0).x 0)], none, none, none, .fn :: kR, [((ρ 0).x 0, sliceO (.int pos d.tp) (.int (ln.length : Int) (ledV o 0 2)))], d.gens⟩]
noncomputable def Md.pos (j : Md) (ln : PySem.Str) (pos : Int) : Int := match j with
  | .m => pos + 1
  | .l => (ln.length : Int)
  | .e => pos
noncomputable def Md.v (j : Md) (tr : Nat) (c : PySem.Str) (ρ : Nat → Ep) : Value := match j with
  | .e => .str (S "") tr
  | _ => .str c (ρ 1).t
theorem factR (w : World) (a b : Bool) (j : Md) (x A : Nat → Addr) (d : Dr) (ln : PySem.Str) (pos : Int) (c : PySem.Str) (ρ : Nat → Ep) :
    proj [0, 1] (sR (wS w a b) j x A d ln pos c ρ) = want (sR (wS w a b) j x A d ln pos c ρ) (prR (sR (wS w a b) j x A d ln pos c ρ) j ρ A d ln pos)
      [(A 1, sioD w.params d.tk d.u ln (j.pos ln pos) (ledV (sR (wS w a b) j x A d ln pos c ρ) 0 2)), (A 4, sioO A)] d.gens (.pure (.done (.ret (j.v (retTk (sR (wS w a b) j x A d ln pos c ρ)) c ρ)))) (Join.codeO (sR (wS w a b) j x A d ln pos c ρ)) := by
  cases j <;> cases a <;> kernel_rfl
end Split
end Mine
end
noncomputable section
open PySem PySem.W PyProof.Rows
set_option maxRecDepth 100000
set_option maxHeartbeats 400000
set_option linter.unusedVariables false
namespace Mine
namespace Split
open Join (XstrS XPost.str)
/-- one sign read, or the end -/
noncomputable def Xread (P : Params) (A : Nat → Addr) (tk u : Nat → Nat) (ln c : PySem.Str) (pos : Int) (i1 i4 : Nat) : Xs := ⟨[i1, i4], fun ρ _ => (.ok (.ret (.str c ρ.t)), [sioD P tk u ln pos ρ.n], []), id, fun _ => True, none⟩
theorem read_req {w : World} {a b : Bool} {A : Nat → Addr} {tk u : Nat → Nat} {tp t1 i1 i4 pos c : Nat} {ln : PySem.Str} {gens : List GenState} (hl : ln.length ≤ 1000000) (hc : ln.cps[pos]? = some c) (hi : i1 ≠ i4) :
    ReqOk (MM (wS w a b)) (topG (wS w a b)) (Xread w.params A tk u ln ⟨#[c]⟩ (pos + 1 : Nat) i1 i4) ⟨callCode 570 [.ref (A 4), .int 1 t1], none, none, none, kR, [(A 1, sioD w.params tk u ln (pos : Nat) tp), (A 4, sioO A)], gens⟩ := by
  have hp : pos < ln.length := by
    rcases Nat.lt_or_ge pos ln.cps.size with h | h
    · exact h
    · rw [Array.getElem?_eq_none h] at hc; cases hc
  refine req_of rfl fun D p s T hL ho nd hg => ?_
  have nd := nd (by simp [Xread, hi])
  have key : ∀ (j : Md), (j = .m ∨ j = .l) → ((pos : Int) + 1 < (ln.length : Int)) = ((match j with | .m => true | _ => false) = true) → j.pos ln pos = ((pos + 1 : Nat) : Int) →
      wpCode (MM (wS w a b)) ⟨callCode 570 [.ref (A 4), .int 1 t1], none, none, mkB kR D, none⟩ (fun r s' => ∃ ρ, XPost (Xread w.params A tk u ln ⟨#[c]⟩ (pos + 1 : Nat) i1 i4) ⟨callCode 570 [.ref (A 4), .int 1 t1], none, none, none, kR, [(A 1, sioD w.params tk u ln (pos : Nat) tp), (A 4, sioO A)], gens⟩ s ρ r s') p s := by
    intro j hj hlt hpos
    refine sim_go (led := [(A 1, sioD w.params tk u ln (pos : Nat) tp), (A 4, sioO A)]) spR (fun _ => .none) (xR j j.ln.length (S "a")) (xR j ln.length ⟨#[c]⟩) (cEp []) _ [0, 1]
      (fun ρ => factR w a b j (xS s) A ⟨tk, u, tp, t1, D, p, s.toks, gens⟩ ln pos ⟨#[c]⟩ ρ) T hL nd ho hg (fun ρ => ?_) ?_
    · have e1 : (((1 : Int) > 1099511627776) = (false = true)) := by simp
      have e2 : (((1 : Int) < -1099511627776) = (false = true)) := by simp
      have e3 : (((pos : Int) ≥ (ln.length : Int)) = (false = true)) := by simp; omega
      have e4 : (((1 : Int) ≥ 0) = (true = true)) := by simp
      rcases hj with rfl | rfl
      · exact ⟨e1, e2, len_req hl, fun _ => ⟨e3, e4, hlt, slice_req hc (by simp), fun _ => trivial⟩⟩
      · exact ⟨e1, e2, len_req hl, fun _ => ⟨e3, e4, hlt, slice_req hc (by have := hpos; simp [Md.pos] at this; omega), fun _ => trivial⟩⟩
    · intro ρ s' p' hI F
      have F1 := F.led
      have F2 := F.ch
      have F3 := F.gens
      generalize ledV _ 0 2 = tq at F1
      clear F
      rw [hpos] at F1
      refine goes_done ⟨⟨xS s', s'.toks, (ρ 1).t, tq, .none, #[], default, [], fun _ => 0⟩, rfl, rfl, trivial, ?_, ?_, fun y hy => (nomatch hy), List.nodup_nil, fun y hy => (nomatch hy), ?_, F3⟩
      · rcases hj with rfl | rfl <;> rfl
      · exact ⟨F1 _ List.mem_cons_self, trivial⟩
      · exact F2.less (Rd := [(A 4, sioO A)]) (fun y hy => hL y (by simp at hy; subst hy; simp)) (fun y hy => F1 y (by simp at hy; subst hy; simp)) (by simp [Xread])
  by_cases h : pos + 1 < ln.length
  · exact key .m (.inl rfl) (by simp; omega) (by simp [Md.pos])
  · exact key .l (.inr rfl) (by simp; omega) (by simp [Md.pos]; omega)
theorem readEnd_req {w : World} {a b : Bool} {A : Nat → Addr} {tk u : Nat → Nat} {tp t1 i1 i4 pos : Nat} {ln : PySem.Str} {gens : List GenState} (hl : ln.length ≤ 1000000) (hp : pos = ln.length) (hi : i1 ≠ i4) :
    ReqOk (MM (wS w a b)) (topG (wS w a b)) (Xread w.params A tk u ln (S "") (pos : Nat) i1 i4) ⟨callCode 570 [.ref (A 4), .int 1 t1], none, none, none, kR, [(A 1, sioD w.params tk u ln (pos : Nat) tp), (A 4, sioO A)], gens⟩ := by
  refine req_of rfl fun D p s T hL ho nd hg => ?_
  have nd := nd (by simp [Xread, hi])
  refine sim_go (led := [(A 1, sioD w.params tk u ln (pos : Nat) tp), (A 4, sioO A)]) spR (fun _ => .none) (xR .e (Md.e).ln.length (S "a")) (xR .e ln.length (S "")) (cEp []) _ [0, 1]
    (fun ρ => factR w a b .e (xS s) A ⟨tk, u, tp, t1, D, p, s.toks, gens⟩ ln pos (S "") ρ) T hL nd ho hg (fun ρ => ?_) ?_
  · exact ⟨by simp, by simp, len_req hl, fun _ => ⟨by simp; omega, trivial⟩⟩
  · intro ρ s' p' hI F
    have F1 := F.led
    have F2 := F.ch
    have F3 := F.gens
    clear F
    generalize ledV _ 0 2 = tq at F1
    generalize retTk _ = tr
    refine goes_done ⟨⟨xS s', s'.toks, tr, tq, .none, #[], default, [], fun _ => 0⟩, rfl, rfl, trivial, rfl, ⟨F1 _ List.mem_cons_self, trivial⟩, fun y hy => (nomatch hy), List.nodup_nil, fun y hy => (nomatch hy), ?_, F3⟩
    exact F2.less (Rd := [(A 4, sioO A)]) (fun y hy => hL y (by simp at hy; subst hy; simp)) (fun y hy => F1 y (by simp at hy; subst hy; simp)) (by simp [Xread])
end Split
end Mine
end
noncomputable section
open PySem PySem.W PyProof.Rows
set_option maxRecDepth 100000
set_option maxHeartbeats 8000000
set_option linter.unusedVariables false
namespace Mine
noncomputable def fenvP (path : List Nat) (name : String) (f c : Nat) (L : Addr) : Env := { scope := fScope path, locals := L, globals := 3, cells := [], qual := S name ++ S ".<locals>.", func := some f, code := .ref c, frame := some L, builtins := 0 }
namespace Split
open Join (XstrS XPost.str)
structure Tr where
  st : String
  c : String
  st' : String
  ap : Nat
  qt : Bool
noncomputable def tr : Nat → Tr
  | 0 => ⟨" ", "a", "a", 2, false⟩
  | 1 => ⟨" ", "'", "'", 0, false⟩
  | 2 => ⟨"a", "a", "a", 1, false⟩
  | 3 => ⟨"a", "'", "'", 0, false⟩
  | 4 => ⟨"a", "\"", "\"", 0, false⟩
  | 5 => ⟨"'", "'", "a", 0, true⟩
  | 6 => ⟨"'", " ", "'", 1, true⟩
  | 7 => ⟨"'", "a", "'", 1, true⟩
  | 8 => ⟨"\"", "'", "\"", 1, true⟩
  | _ => ⟨"\"", "\"", "a", 0, true⟩
noncomputable def rtS : Stmt := nthS (fBody [26, 6]) 2
noncomputable def renv (L : Addr) : Env := fenvP [26, 6] "shlex.read_token" 727 726 L
noncomputable def wloop (L : Addr) : Code := .whileLoop (stE rtS) (stB rtS) [] (renv L)
noncomputable def rtF (P : Params) (A : Nat → Addr) (tk : Nat → Nat) (nb q : Bool) (te : Nat) (y : Value) : Obj := match nb with
  | true => frO P [("self", .ref (A 3)), ("quoted", .bool q), ("escapedstate", .str (S " ") te)] tk 3
  | false => frO P [("self", .ref (A 3)), ("quoted", .bool q), ("escapedstate", .str (S " ") te), ("nextchar", y)] tk 4
structure Dw where
  tk : Nat → Nat
  u : Nat → Nat
  tk2 : Nat → Nat
  u2 : Nat → Nat
  tk3 : Nat → Nat
  te : Nat
  y : Value
  ts : Nat
  tt : Nat
  tp : Nat
  D : Nat → CD × Pos
  p : Pos
  toks : Nat
  gens : List GenState
noncomputable def ledW (P : Params) (A : Nat → Addr) (d : Dw) (nb q : Bool) (st : Value) (T : PySem.Str) (ln : PySem.Str) (pos : Int) : List (Addr × Obj) :=
  [(A 0, lexD P A d.tk d.u st (.str T d.tt)), (A 1, sioD P d.tk2 d.u2 ln pos d.tp), (A 7, rtF P A d.tk3 nb q d.te d.y), (A 3, lexO A), (A 4, sioO A)]
noncomputable def spW : Sp := ⟨⟨false, true⟩, ["str.__add__", "tuple.__contains__"], [570], true, 0⟩
noncomputable def Xtru (i : Nat) : Xs := Xval [i] (fun _ => .bool true) (fun _ => True)
noncomputable def aOf (t : Tr) : Bool := decide (t.st = "a")
noncomputable def tupO (t1 t2 : Nat) : Obj := tupObj [.str (S "a") t1, .str (S "c") t2]
noncomputable def nbOf (t : Tr) : Bool := decide (t.st = " ")
noncomputable def cW (P : Params) (A : Nat → Addr) (d : Dw) (t : Tr) (q : Bool) (T ln : PySem.Str) (pos : Int) : Conf := conf (cx (wloop (A 7)) kT d.D) d.p (ledW P A d (nbOf t) q (.str (S t.st) d.ts) T ln pos) d.toks d.gens
noncomputable def xW (P : Params) (A : Nat → Addr) (d : Dw) (t : Tr) (T ln : PySem.Str) (pos : Int) : List Xs := Xread P A d.tk2 d.u2 ln (S t.c) (pos + 1) 1 4 :: ((match aOf t with
  | true => [Xtru 6]
  | false => []) ++ (match t.ap with
  | 1 => [XstrS [] (T ++ S t.c)]
  | _ => []))
noncomputable def sW (w : World) (k : Nat) (x A : Nat → Addr) (d : Dw) (q : Bool) (T ln : PySem.Str) (pos : Int) (ρ : Nat → Ep) : Out2 :=
  sim spW w x (fun _ => .none) (xW w.params (fun j => 4000 + j) d (tr k) (S "aa") (S "aaa") 0) (xW w.params A d (tr k) T ln pos) (cEp []) (cW w.params (fun j => 4000 + j) d (tr k) q (S "aa") (S "aaa") 0) (cW w.params A d (tr k) q T ln pos) ρ
noncomputable def newT (t : Tr) (T : PySem.Str) : PySem.Str := match t.ap with
  | 0 => T
  | 1 => T ++ S t.c
  | _ => S t.c
noncomputable def vwI (o : Out2) (j i k : Nat) : Nat := match viewAt o j with
  | some v => match gL v.sel i with
    | some (_, ⟨_, _, .seq xs _, _⟩) => match xs.toList[k]? with
      | some e => tokV e
      | none => 0
    | _ => 0
  | none => 0
noncomputable def prW (o : Out2) (P : Params) (A : Nat → Addr) (d : Dw) (t : Tr) (T ln : PySem.Str) (pos : Int) (t1 : Nat) (ρ : Nat → Ep) : List Ob :=
  .x ⟨callCode 570 [.ref (A 4), .int 1 t1], none, none, none, kR, [(A 1, sioD P d.tk2 d.u2 ln pos d.tp), (A 4, sioO A)], d.gens⟩ ::
  ((match aOf t with
  | true => [.x ⟨biCode "tuple.__contains__" [.ref ((ρ 0).x 0), .str (S "a") d.ts], none, none, none, kR, [((ρ 0).x 0, tupO (vwI o 1 0 0) (vwI o 1 0 1))], d.gens⟩]
  | false => []) ++ (match t.ap with
  | 1 => [.x ⟨biCode "str.__add__" [.str T d.tt, .str (S t.c) (ρ 0).t], none, none, none, kR, [], d.gens⟩]
  | _ => []))
theorem factW (w : World) (a b : Bool) (k : Nat) (hk : k < 10) (x A : Nat → Addr) (d : Dw) (q : Bool) (T ln : PySem.Str) (pos : Int) (ρ : Nat → Ep) :
    proj [0, 1, 2, 3, 4] (sW (wS w a b) k x A d q T ln pos ρ) = want (sW (wS w a b) k x A d q T ln pos ρ) (prW (sW (wS w a b) k x A d q T ln pos ρ) w.params A d (tr k) T ln pos (argTk (sW (wS w a b) k x A d q T ln pos ρ) 0 1) ρ)
      (ledW w.params A { d with tt := ledV (sW (wS w a b) k x A d q T ln pos ρ) 0 15, tp := (ρ 0).n, tk3 := tks (sW (wS w a b) k x A d q T ln pos ρ) 2, y := .str (S (tr k).c) (ρ 0).t } false ((tr k).qt || q) (.str (S (tr k).st') (ledV (sW (wS w a b) k x A d q T ln pos ρ) 0 11)) (newT (tr k) T) ln (pos + 1)) d.gens
      (.pure (.again (wloop (A 7)))) (cx (wloop (A 7)) kT d.D) := by
  match k, hk with
  | 0, _ => cases a <;> kernel_rfl
  | 1, _ => cases a <;> kernel_rfl
  | 2, _ => cases a <;> kernel_rfl
  | 3, _ => cases a <;> kernel_rfl
  | 4, _ => cases a <;> kernel_rfl
  | 5, _ => cases a <;> kernel_rfl
  | 6, _ => cases a <;> kernel_rfl
  | 7, _ => cases a <;> kernel_rfl
  | 8, _ => cases a <;> kernel_rfl
  | 9, _ => cases a <;> kernel_rfl
end Split
end Mine
end
noncomputable section
open PySem PySem.W PyProof.Rows
set_option maxRecDepth 100000
set_option maxHeartbeats 8000000
set_option linter.unusedVariables false
namespace Mine
namespace Split
open Join (XstrS XPost.str)
/-- the ends of the loop: a blank behind a word; the end behind a word; the end again -/
inductive Fi where
  | sp | ef | no
noncomputable def Fi.st (f : Fi) (ts : Nat) : Value := match f with
  | .no => .none
  | _ => .str (S "a") ts
noncomputable def Fi.c : Fi → String
  | .sp => " "
  | _ => ""
noncomputable def Fi.nb : Fi → Bool
  | .no => true
  | _ => false
noncomputable def Fi.mv (f : Fi) (pos : Int) : Int := match f with
  | .sp => pos + 1
  | _ => pos
noncomputable def Fi.st' (f : Fi) (t : Nat) : Value := match f with
  | .sp => .str (S " ") t
  | _ => .none
noncomputable def Fi.T (f : Fi) (T : PySem.Str) : PySem.Str := match f with
  | .no => S ""
  | _ => T
noncomputable def cF (P : Params) (A : Nat → Addr) (d : Dw) (f : Fi) (q : Bool) (T ln : PySem.Str) (pos : Int) : Conf := conf (cx (wloop (A 7)) kT d.D) d.p (ledW P A d f.nb q (f.st d.ts) T ln pos) d.toks d.gens
noncomputable def xF (P : Params) (A : Nat → Addr) (d : Dw) (f : Fi) (ln : PySem.Str) (pos : Int) : List Xs := Xread P A d.tk2 d.u2 ln (S f.c) (f.mv pos) 1 4 :: (match f with
  | .no => []
  | _ => [Xtru 6])
noncomputable def sF (w : World) (f : Fi) (x A : Nat → Addr) (d : Dw) (q : Bool) (T ln : PySem.Str) (pos : Int) (ρ : Nat → Ep) : Out2 :=
  sim spW w x (fun _ => .none) (xF w.params (fun j => 4000 + j) d f (S "aaa") 0) (xF w.params A d f ln pos) (cEp []) (cF w.params (fun j => 4000 + j) d f q T (S "aaa") 0) (cF w.params A d f q T ln pos) ρ
noncomputable def prF (o : Out2) (P : Params) (A : Nat → Addr) (d : Dw) (f : Fi) (ln : PySem.Str) (pos : Int) (t1 : Nat) (ρ : Nat → Ep) : List Ob :=
  .x ⟨callCode 570 [.ref (A 4), .int 1 t1], none, none, none, kR, [(A 1, sioD P d.tk2 d.u2 ln pos d.tp), (A 4, sioO A)], d.gens⟩ ::
  (match f with
  | .no => []
  | _ => [.x ⟨biCode "tuple.__contains__" [.ref ((ρ 0).x 0), .str (S "a") d.ts], none, none, none, kR, [((ρ 0).x 0, tupO (vwI o 1 0 0) (vwI o 1 0 1))], d.gens⟩])
noncomputable def quo : Nat → Bool
  | 1 => false
  | 4 => false
  | _ => true
noncomputable def endF (w : World) (P : Params) (f : Fi) (x A : Nat → Addr) (d : Dw) (q : Bool) (T ln : PySem.Str) (pos : Int) (ρ : Nat → Ep) : Prop :=
    proj [0, 1, 2, 3, 4] (sF w f x A d q T ln pos ρ) = want (sF w f x A d q T ln pos ρ) (prF (sF w f x A d q T ln pos ρ) P A d f ln pos (argTk (sF w f x A d q T ln pos ρ) 0 1) ρ)
      (ledW P A { d with tt := ledV (sF w f x A d q T ln pos ρ) 0 15, tp := (ρ 0).n, tk3 := tks (sF w f x A d q T ln pos ρ) 2, y := .str (S f.c) (ρ 0).t } false q (f.st' (ledV (sF w f x A d q T ln pos ρ) 0 11)) (f.T T) ln (f.mv pos)) d.gens
      (.pure (.done .next)) (cx (wloop (A 7)) kT d.D)
theorem factSp (w : World) (a b : Bool) (k : Nat) (hk : k < 9) (x A : Nat → Addr) (d : Dw) (ln : PySem.Str) (pos : Int) (ρ : Nat → Ep) : endF (wS w a b) w.params .sp x A d (quo k) (word k) ln pos ρ := by
  unfold endF
  match k, hk with
  | 0, _ => cases a <;> kernel_rfl
  | 1, _ => cases a <;> kernel_rfl
  | 2, _ => cases a <;> kernel_rfl
  | 3, _ => cases a <;> kernel_rfl
  | 4, _ => cases a <;> kernel_rfl
  | 5, _ => cases a <;> kernel_rfl
  | 6, _ => cases a <;> kernel_rfl
  | 7, _ => cases a <;> kernel_rfl
  | 8, _ => cases a <;> kernel_rfl
theorem factEf (w : World) (a b : Bool) (x A : Nat → Addr) (d : Dw) (q : Bool) (T ln : PySem.Str) (pos : Int) (ρ : Nat → Ep) : endF (wS w a b) w.params .ef x A d q T ln pos ρ := by
  unfold endF
  cases a <;> kernel_rfl
theorem factNo (w : World) (a b : Bool) (x A : Nat → Addr) (d : Dw) (q : Bool) (T ln : PySem.Str) (pos : Int) (ρ : Nat → Ep) : endF (wS w a b) w.params .no x A d q T ln pos ρ := by
  unfold endF
  cases a <;> kernel_rfl
end Split
end Mine
end
noncomputable section
open PySem PySem.W PyProof.Rows
set_option maxRecDepth 100000
set_option maxHeartbeats 2000000
set_option linter.unusedVariables false
namespace Mine
namespace Split
open Join (XstrS XPost.str)
theorem contains_req {w : World} {a : Addr} {ts t1 t2 i : Nat} {hd own past : Option Value} {ks : List Kd} {gens : List GenState} : ReqOk (MM w) (topG w) (Xtru i) ⟨biCode "tuple.__contains__" [.ref a, .str (S "a") ts], hd, own, past, ks, [(a, tupO t1 t2)], gens⟩ := by
  intro Γ p s hΓ T hL ho nd hg
  refine lib_code hΓ.at_ hΓ.code fun A _ _ _ => call_meets F.slot_tuple_contains ⟨_, hL _ List.mem_cons_self, rfl⟩ F.entry_tuple_contains (F.args_tuple_contains_2 _ _)
    (MeetsSeq2.tuple_contains a #[.str (S "a") t1, .str (S "c") t2] 0 (.str (S "a") ts) (fun v => match v with | .str y _ => y == S "a" | _ => false) fun y hy => ?_) ⟨hL _ List.mem_cons_self, ?_⟩
  · simp at hy
    rcases hy with rfl | rfl
    · exact eqGives_str _ _ _ _
    · exact eqGives_str _ _ _ _
  · have e : (#[Value.str (S "a") t1, .str (S "c") t2] : Array Value).any (fun v => match v with | .str y _ => y == S "a" | _ => false) = true := by
      have : (S "a" == S "a") = true := by decide +kernel
      simp [this]
    rw [e]
    exact XPost.val 0 0 .none #[] trivial rfl (Ch.refl _ _) hg
theorem str_nil {x : PySem.Str} (h : (x.length == 0) = true) : x = ⟨#[]⟩ := by
  obtain ⟨⟨l⟩⟩ := x
  have h : l.length = 0 := by simpa [Str.length] using h
  match l, h with
  | [], _ => rfl
theorem nil_app (y : PySem.Str) : (⟨#[]⟩ : PySem.Str) ++ y = y := by
  obtain ⟨⟨l⟩⟩ := y
  show (⟨#[] ++ ⟨l⟩⟩ : PySem.Str) = _
  simp
theorem app_nil (y : PySem.Str) : y ++ (⟨#[]⟩ : PySem.Str) = y := by
  obtain ⟨⟨l⟩⟩ := y
  show (⟨⟨l⟩ ++ #[]⟩ : PySem.Str) = _
  simp
theorem add_req {w : World} {x y : PySem.Str} {t u : Nat} {hd own past : Option Value} {ks : List Kd} {sel : List (Addr × Obj)} {gens : List GenState} (hz : x.length + y.length ≤ 1000) : ReqOk (MM w) (topG w) (XstrS [] (x ++ y)) ⟨biCode "str.__add__" [.str x t, .str y u], hd, own, past, ks, sel, gens⟩ := by
  intro Γ p s hΓ T hL ho nd hg
  refine lib_code hΓ.at_ hΓ.code fun A _ _ _ => call_meets F.slot_str_add (typeIs_str _ _ _) F.entry_str_add (F.args_str_add_2 _ _) (gives_str_add x y t u).meets ?_
  split
  · rename_i h
    have := str_nil h
    subst this
    rw [nil_app]
    exact XPost.str (s := s) (Ch.refl _ _) hg
  · split
    · rename_i h
      have := str_nil h
      subst this
      rw [app_nil]
      exact XPost.str (s := s) (Ch.refl _ _) hg
    · exact ⟨by rw [sizeLine_eq, Str.length_append]; omega, XPost.str (sel := []) (t := s.toks) (s := s) (s' := { s with toks := s.toks + 1 }) ⟨fun b o e _ => e, Nat.le_refl _, rfl, rfl⟩ hg⟩
noncomputable def tc : Nat → Nat
  | 0 => 97
  | 1 => 39
  | 2 => 97
  | 3 => 39
  | 4 => 34
  | 5 => 39
  | 6 => 32
  | 7 => 97
  | 8 => 39
  | _ => 34
theorem tc_eq (k : Nat) (hk : k < 10) : S (tr k).c = ⟨#[tc k]⟩ := by
  match k, hk with
  | 0, _ | 1, _ | 2, _ | 3, _ | 4, _ | 5, _ | 6, _ | 7, _ | 8, _ | 9, _ => decide +kernel
theorem blank_eq : S Fi.sp.c = ⟨#[32]⟩ := by decide +kernel
/-- where a word's signs lead -/
noncomputable def chainB : String → List Nat → String → Bool
  | st, [], e => decide (st = e)
  | st, p :: ps, e => decide ((tr p).st = st) && decide (p < 10) && chainB (tr p).st' ps e
noncomputable def foldT : List Nat → PySem.Str → PySem.Str
  | [], T => T
  | p :: ps, T => foldT ps (newT (tr p) T)
noncomputable def foldQ : List Nat → Bool → Bool
  | [], q => q
  | p :: ps, q => foldQ ps ((tr p).qt || q)
/-- what a turn does not touch -/
noncomputable def RdW (A : Nat → Addr) : List (Addr × Obj) := [(A 3, lexO A), (A 4, sioO A)]
theorem tr_next (p : Nat) (hp : p < 10) : decide ((tr p).st' = " ") = false := by
  match p, hp with
  | 0, _ | 1, _ | 2, _ | 3, _ | 4, _ | 5, _ | 6, _ | 7, _ | 8, _ | 9, _ => decide
theorem newT_len (p : Nat) (hp : p < 10) (T : PySem.Str) : (newT (tr p) T).length ≤ T.length + 1 := by
  have h : (S (tr p).c).length = 1 := by rw [tc_eq p hp]; rfl
  unfold newT
  split
  · omega
  · rw [Str.length_append, h]; omega
  · rw [h]; omega
theorem turn {w : World} {a b : Bool} {A : Nat → Addr} {d : Dw} {k : Nat} (hk : k < 10) {q : Bool} {T ln : PySem.Str} {pos : Nat} {s : Shared} {R : Result → Shared → Prop} (hl : ln.length ≤ 1000000) (hT : T.length ≤ 900) (hc : ln.cps[pos]? = some (tc k)) (htk : d.toks = s.toks)
    (S0 : St (wS w a b) d.gens (ledW w.params A d (nbOf (tr k)) q (.str (S (tr k).st) d.ts) T ln pos) s)
    (next : ∀ tt tp tk3 y ts p' s', St (wS w a b) d.gens (ledW w.params A { d with tt := tt, tp := tp, tk3 := tk3, y := y, ts := ts, p := p', toks := Shared.toks s' } false ((tr k).qt || q) (.str (S (tr k).st') ts) (newT (tr k) T) ln (pos + 1 : Nat)) s' → Ch [A 0, A 1, A 7] s s' → wpCode (MM (wS w a b)) (cx (wloop (A 7)) kT d.D) R p' s') :
    wpCode (MM (wS w a b)) (cx (wloop (A 7)) kT d.D) R d.p s := by
  have hadd : (S (tr k).c).length = 1 := by rw [tc_eq k hk]; rfl
  have F := fun ρ => factW w a b k hk (xS s) A d q T ln pos ρ
  unfold sW cW at F
  rw [htk] at F
  refine sim_go (led := ledW w.params A d (nbOf (tr k)) q (.str (S (tr k).st) d.ts) T ln pos) spW (fun _ => .none) _ (xW w.params A d (tr k) T ln pos) (cEp []) _ [0, 1, 2, 3, 4] F S0.top S0.led S0.nd S0.off S0.gens (fun ρ => ?_) ?_
  · have hr : ∀ t1, ReqOk (MM (wS w a b)) (topG (wS w a b)) (Xread w.params A d.tk2 d.u2 ln (S (tr k).c) ((pos : Int) + 1) 1 4) ⟨callCode 570 [.ref (A 4), .int 1 t1], none, none, none, kR, [(A 1, sioD w.params d.tk2 d.u2 ln (pos : Nat) d.tp), (A 4, sioO A)], d.gens⟩ := by
      intro t1
      rw [tc_eq k hk]
      exact read_req hl hc (by decide)
    have ha : ∀ u, ReqOk (MM (wS w a b)) (topG (wS w a b)) (XstrS [] (T ++ S (tr k).c)) ⟨biCode "str.__add__" [.str T d.tt, .str (S (tr k).c) u], none, none, none, kR, [], d.gens⟩ := fun u => add_req (by rw [hadd]; omega)
    unfold prW xW
    generalize aOf (tr k) = av
    generalize (tr k).ap = ap
    generalize argTk _ 0 1 = t1
    generalize vwI _ 1 0 0 = v1
    generalize vwI _ 1 0 1 = v2
    by_cases h1 : ap = 1
    · subst h1
      cases av
      · exact ⟨hr _, fun _ => ⟨ha _, fun _ => trivial⟩⟩
      · exact ⟨hr _, fun _ => ⟨contains_req, fun _ => ⟨ha _, fun _ => trivial⟩⟩⟩
    · match ap, h1 with
      | 0, _ =>
        cases av
        · exact ⟨hr _, fun _ => trivial⟩
        · exact ⟨hr _, fun _ => ⟨contains_req, fun _ => trivial⟩⟩
      | n + 2, _ =>
        cases av
        · exact ⟨hr _, fun _ => trivial⟩
        · exact ⟨hr _, fun _ => ⟨contains_req, fun _ => trivial⟩⟩
  · intro ρ s' p' hI G
    have G1 := G.st (by decide)
    have G2 := G.ch
    clear G F
    generalize ledV _ 0 15 = x1 at G1
    generalize ledV _ 0 11 = x2 at G1
    generalize tks _ 2 = x3 at G1
    refine goes_again rfl (next x1 _ x3 _ x2 p' s' G1 ?_)
    exact G2.less (Rd := RdW A) (fun y hy => S0.led y (by simp [RdW] at hy; rcases hy with rfl | rfl <;> simp [ledW])) (fun y hy => G1.led y (by simp [RdW] at hy; rcases hy with rfl | rfl <;> simp [ledW])) (by simp [ledW, RdW])
end Split
end Mine
end
noncomputable section
open PySem PySem.W PyProof.Rows
set_option maxRecDepth 100000
set_option maxHeartbeats 2000000
set_option linter.unusedVariables false
namespace Mine
namespace Split
open Join (XstrS XPost.str)
theorem path {w : World} {a b : Bool} {A : Nat → Addr} {ln : PySem.Str} {R : Result → Shared → Prop} (hl : ln.length ≤ 1000000) {s0 : Shared} : ∀ (ps : List Nat) (st : String) (T : PySem.Str) (q : Bool) (pos : Nat) (d : Dw) (s : Shared),
    chainB st ps "a" = true → T.length + ps.length ≤ 900 → (∀ (i c : Nat), (ps.map tc)[i]? = some c → ln.cps[pos + i]? = some c) → d.toks = s.toks →
    St (wS w a b) d.gens (ledW w.params A d (decide (st = " ")) q (.str (S st) d.ts) T ln pos) s → Ch [A 0, A 1, A 7] s0 s →
    (∀ tt tp tk3 y ts p' s', St (wS w a b) d.gens (ledW w.params A { d with tt := tt, tp := tp, tk3 := tk3, y := y, ts := ts, p := p', toks := Shared.toks s' } false (foldQ ps q) (.str (S "a") ts) (foldT ps T) ln (pos + ps.length : Nat)) s' → Ch [A 0, A 1, A 7] s0 s' → wpCode (MM (wS w a b)) (cx (wloop (A 7)) kT d.D) R p' s') →
    wpCode (MM (wS w a b)) (cx (wloop (A 7)) kT d.D) R d.p s
  | [], st, T, q, pos, d, s, hch, hT, hc, htk, S0, C0, fin => by
    have e : st = "a" := of_decide_eq_true hch
    subst e
    refine fin d.tt d.tp d.tk3 d.y d.ts d.p s ?_ C0
    exact S0
  | p :: ps, st, T, q, pos, d, s, hch, hT, hc, htk, S0, C0, fin => by
    simp only [chainB, Bool.and_eq_true, decide_eq_true_eq] at hch
    obtain ⟨⟨h1, h2⟩, h3⟩ := hch
    subst h1
    simp only [List.length_cons] at hT
    refine turn h2 hl (by omega) (hc 0 (tc p) (by simp)) htk S0 fun tt tp tk3 y ts p' s' S1 C1 => ?_
    refine path hl ps (tr p).st' (newT (tr p) T) ((tr p).qt || q) (pos + 1) { d with tt := tt, tp := tp, tk3 := tk3, y := y, ts := ts, p := p', toks := s'.toks } s' h3 (by have := newT_len p h2 T; omega) (fun i c hi => ?_) rfl ?_ (C0.trans C1 fun b hb => .inl hb) ?_
    · have := hc (i + 1) c (by simpa using hi)
      rw [show pos + 1 + i = pos + (i + 1) from by omega]; exact this
    · rw [tr_next p h2]; exact S1
    · intro tt tp tk3 y ts p' s' S2 C2
      refine fin tt tp tk3 y ts p' s' ?_ C2
      rw [show pos + (p :: ps).length = pos + 1 + ps.length from by simp; omega]
      exact S2
noncomputable def pth : Nat → List Nat
  | 0 => [1, 5]
  | 1 => [0]
  | 2 => [1, 5, 4, 8, 9, 3, 5]
  | 3 => [1, 6, 7, 5]
  | 4 => [0, 2]
  | 5 => [1, 5, 4, 8, 9, 3, 7, 5]
  | 6 => [1, 6, 5, 4, 8, 9, 3, 5]
  | 7 => [1, 7, 5, 4, 8, 9, 3, 5]
  | _ => [1, 5, 4, 8, 9, 3, 5, 4, 8, 9, 3, 5]
theorem pth_ok (j : Nat) (hj : j < 9) : chainB " " (pth j) "a" = true ∧ foldT (pth j) (S "") = word j ∧ foldQ (pth j) false = quo j ∧ (pth j).map tc = (qword j).cps.toList ∧ (pth j).length ≤ 12 := by
  match j, hj with
  | 0, _ | 1, _ | 2, _ | 3, _ | 4, _ | 5, _ | 6, _ | 7, _ | 8, _ => refine ⟨?_, ?_, ?_, ?_, ?_⟩ <;> decide +kernel
/-- what the loop leaves -/
noncomputable def LoopEnds (w : World) (a b : Bool) (A : Nat → Addr) (d : Dw) (q : Bool) (st : Nat → Value) (T ln : PySem.Str) (pos : Nat) (s : Shared) (r : Result) (s' : Shared) : Prop :=
  r = .ok .next ∧ ∃ tt tp tk3 y ts, St (wS w a b) d.gens (ledW w.params A { d with tt := tt, tp := tp, tk3 := tk3, y := y } false q (st ts) T ln pos) s' ∧ Ch [A 0, A 1, A 7] s s'
theorem fin_ok {w : World} {a b : Bool} {A : Nat → Addr} {d : Dw} (f : Fi) {q : Bool} {T ln : PySem.Str} {pos pos' : Nat} {s : Shared} (hm : f.mv pos = (pos' : Int)) (htk : d.toks = s.toks)
    (F : ∀ ρ, endF (wS w a b) w.params f (xS s) A d q T ln pos ρ)
    (hr : ∀ t1, ReqOk (MM (wS w a b)) (topG (wS w a b)) (Xread w.params A d.tk2 d.u2 ln (S f.c) (f.mv pos) 1 4) ⟨callCode 570 [.ref (A 4), .int 1 t1], none, none, none, kR, [(A 1, sioD w.params d.tk2 d.u2 ln (pos : Nat) d.tp), (A 4, sioO A)], d.gens⟩)
    (S0 : St (wS w a b) d.gens (ledW w.params A d f.nb q (f.st d.ts) T ln pos) s) :
    wpCode (MM (wS w a b)) (cx (wloop (A 7)) kT d.D) (LoopEnds w a b A d q f.st' (f.T T) ln pos' s) d.p s := by
  unfold endF sF cF at F
  rw [htk] at F
  refine sim_go (led := ledW w.params A d f.nb q (f.st d.ts) T ln pos) spW (fun _ => .none) _ (xF w.params A d f ln pos) (cEp []) _ [0, 1, 2, 3, 4] F S0.top S0.led S0.nd S0.off S0.gens (fun ρ => ?_) ?_
  · unfold prF xF
    cases f
    · exact ⟨hr _, fun _ => ⟨contains_req, fun _ => trivial⟩⟩
    · exact ⟨hr _, fun _ => ⟨contains_req, fun _ => trivial⟩⟩
    · exact ⟨hr _, fun _ => trivial⟩
  · intro ρ s' p' hI G
    have G1 := G.st (by decide)
    have G2 := G.ch
    clear G F
    generalize ledV _ 0 15 = x1 at G1
    generalize ledV _ 0 11 = x2 at G1
    generalize tks _ 2 = x3 at G1
    rw [hm] at G1
    refine goes_done ⟨rfl, x1, _, x3, _, x2, G1, ?_⟩
    exact G2.less (Rd := RdW A) (fun y hy => S0.led y (by simp [RdW] at hy; rcases hy with rfl | rfl <;> simp [ledW])) (fun y hy => G1.led y (by simp [RdW] at hy; rcases hy with rfl | rfl <;> simp [ledW])) (by simp [ledW, RdW])
/-- a word read by the loop -/
theorem loopW {w : World} {a b : Bool} {A : Nat → Addr} {d : Dw} {ln : PySem.Str} {pos j : Nat} {s : Shared} (last : Bool) (hj : j < 9) (hl : ln.length ≤ 1000000) (htk : d.toks = s.toks)
    (hc : ∀ (i c : Nat), (qword j).cps.toList[i]? = some c → ln.cps[pos + i]? = some c) (he : match last with | true => pos + (pth j).length = ln.length | false => ln.cps[pos + (pth j).length]? = some 32)
    (S0 : St (wS w a b) d.gens (ledW w.params A d true false (.str (S " ") d.ts) (S "") ln pos) s) :
    wpCode (MM (wS w a b)) (cx (wloop (A 7)) kT d.D) (LoopEnds w a b A d (quo j) (fun t => if last then .none else .str (S " ") t) (word j) ln (pos + (pth j).length + (if last then 0 else 1)) s) d.p s := by
  obtain ⟨h1, h2, h3, h4, h5⟩ := pth_ok j hj
  have h0 : (S "").length = 0 := by decide +kernel
  refine path hl (pth j) " " (S "") false pos d s h1 (by omega) (by rw [h4]; exact hc) htk S0 (Ch.refl _ _) ?_
  intro tt tp tk3 y ts p' s' S1 C1
  rw [h2, h3] at S1
  have mono : ∀ (f : Fi) (st : Nat → Value) (pos' : Nat), (∀ t, f.st' t = st t) → f.T (word j) = word j → ∀ r s'', LoopEnds w a b A { d with tt := tt, tp := tp, tk3 := tk3, y := y, ts := ts, p := p', toks := s'.toks } (quo j) f.st' (f.T (word j)) ln pos' s' r s'' →
      LoopEnds w a b A d (quo j) st (word j) ln pos' s r s'' := by
    rintro f st pos' e1 e2 r s'' ⟨rfl, tt, tp, tk3, y, ts, S2, C2⟩
    rw [e1, e2] at S2
    exact ⟨rfl, tt, tp, tk3, y, ts, S2, C1.trans C2 fun b hb => .inl hb⟩
  cases last with
  | false =>
    refine wpCode_mono (mono .sp _ _ (fun t => rfl) rfl) (fin_ok (d := { d with tt := tt, tp := tp, tk3 := tk3, y := y, ts := ts, p := p', toks := s'.toks }) .sp (pos := pos + (pth j).length) (by simp [Fi.mv]) rfl (fun ρ => factSp w a b j hj (xS s') A _ ln _ ρ) (fun t1 => ?_) S1)
    rw [blank_eq]
    exact read_req hl he (by decide)
  | true =>
    refine wpCode_mono (mono .ef _ _ (fun t => rfl) rfl) (fin_ok (d := { d with tt := tt, tp := tp, tk3 := tk3, y := y, ts := ts, p := p', toks := s'.toks }) .ef (pos := pos + (pth j).length) (by simp [Fi.mv]) rfl (fun ρ => factEf w a b (xS s') A _ _ _ ln _ ρ) (fun t1 => ?_) S1)
    exact readEnd_req hl he (by decide)
theorem loopN {w : World} {a b : Bool} {A : Nat → Addr} {d : Dw} {T ln : PySem.Str} {pos : Nat} {s : Shared} (hl : ln.length ≤ 1000000) (htk : d.toks = s.toks) (he : pos = ln.length)
    (S0 : St (wS w a b) d.gens (ledW w.params A d true false .none T ln pos) s) :
    wpCode (MM (wS w a b)) (cx (wloop (A 7)) kT d.D) (LoopEnds w a b A d false (fun _ => .none) (S "") ln pos s) d.p s :=
  fin_ok .no (by simp [Fi.mv]) htk (fun ρ => factNo w a b (xS s) A _ _ _ ln _ ρ) (fun t1 => readEnd_req hl he (by decide)) S0
end Split
end Mine
end
noncomputable section
open PySem PySem.W PyProof.Rows
set_option maxRecDepth 100000
set_option maxHeartbeats 8000000
set_option linter.unusedVariables false
namespace Mine
namespace Split
open Join (XstrS XPost.str)
noncomputable def kN : List Kd := .fn :: .bi "list.extend.loop" :: kI
structure Dg where
  tk : Nat → Nat
  u : Nat → Nat
  tk2 : Nat → Nat
  u2 : Nat → Nat
  ts : Nat
  tt : Nat
  tp : Nat
  D : Nat → CD × Pos
  p : Pos
  toks : Nat
  gens : List GenState
noncomputable def ledT (P : Params) (A : Nat → Addr) (d : Dg) (st : Value) (ln : PySem.Str) (pos : Int) : List (Addr × Obj) :=
  [(A 0, lexD P A d.tk d.u st (.str (S "") d.tt)), (A 1, sioD P d.tk2 d.u2 ln pos d.tp), (A 3, lexO A), (A 4, sioO A), (A 5, dqO), (A 6, dqO)]
/-- a word, the last word, the end -/
inductive Gc where
  | w (j : Nat) | l (j : Nat) | n
noncomputable def Gc.st (g : Gc) (t : Nat) : Value := match g with
  | .n => .none
  | _ => .str (S " ") t
noncomputable def Gc.st' (g : Gc) (t : Nat) : Value := match g with
  | .w _ => .str (S " ") t
  | _ => .none
noncomputable def Gc.T : Gc → PySem.Str
  | .w j => word j
  | .l j => word j
  | .n => S ""
noncomputable def Gc.q : Gc → Bool
  | .w j => quo j
  | .l j => quo j
  | .n => false
noncomputable def spG : Sp := ⟨⟨false, true⟩, [], [], true, 0⟩
/-- the loop of read_token by its contract -/
noncomputable def Xw (P : Params) (A : Nat → Addr) (g : Gc) (tk u tk2 u2 : Nat → Nat) (te : Nat) (ln : PySem.Str) (pos' : Int) : Xs :=
  ⟨[0, 1, 7, 2, 3], fun ρ _ => (.ok .next, [lexD P A tk u (g.st' (tokV ρ.o.cls)) (.str g.T ρ.t), sioD P tk2 u2 ln pos' ρ.n, rtF P A ρ.tk false g.q te ρ.v], []), id, fun _ => True, none⟩
noncomputable def cG (P : Params) (A : Nat → Addr) (d : Dg) (g : Gc) (ln : PySem.Str) (pos : Int) : Conf := conf (cx (callCode 720 [.ref (A 3)]) kN d.D) d.p (ledT P A d (g.st d.ts) ln pos) d.toks d.gens
noncomputable def sG (w : World) (g : Gc) (x A : Nat → Addr) (d : Dg) (te : Nat) (ln : PySem.Str) (pos pos' : Int) (ρ : Nat → Ep) : Out2 :=
  sim spG w x (fun _ => .none) [Xw w.params (fun j => 4000 + j) g d.tk d.u d.tk2 d.u2 te (S "aaa") 1] [Xw w.params A g d.tk d.u d.tk2 d.u2 te ln pos'] (cEp []) (cG w.params (fun j => 4000 + j) d g (S "aaa") 0) (cG w.params A d g ln pos) ρ
noncomputable def A7 (x A : Nat → Addr) : Nat → Addr := adr [A 0, A 1, A 2, A 3, A 4, A 5, A 6, x 1]
noncomputable def prG (o : Out2) (P : Params) (x A : Nat → Addr) (d : Dg) (g : Gc) (te : Nat) (ln : PySem.Str) (pos : Int) : List Ob :=
  [.x ⟨wloop (x 1), none, none, none, kT, [(A 0, lexD P A d.tk d.u (g.st d.ts) (.str (S "") d.tt)), (A 1, sioD P d.tk2 d.u2 ln pos d.tp), (x 1, rtF P A (vwN o 0 2) true false te .none), (A 3, lexO A), (A 4, sioO A)], d.gens⟩]
noncomputable def Gc.v (g : Gc) (ρ : Nat → Ep) : Value := match g with
  | .n => .none
  | _ => .str g.T (ρ 0).t
noncomputable def teOf (d : Dg) : Nat := d.toks + 6
noncomputable def GetOk (w : World) (P : Params) (g : Gc) (x A : Nat → Addr) (d : Dg) (te : Nat) (ln : PySem.Str) (pos pos' : Int) (ρ : Nat → Ep) : Prop :=
  proj [0, 1, 2, 3, 4, 5] (sG w g x A d te ln pos pos' ρ) = want (sG w g x A d te ln pos pos' ρ) (prG (sG w g x A d te ln pos pos' ρ) P x A d g te ln pos)
    (ledT P A { d with tt := ledV (sG w g x A d te ln pos pos' ρ) 0 15, tp := (ρ 0).n } (g.st' (tokV (ρ 0).o.cls)) ln pos') d.gens (.pure (.done (.ret (g.v ρ)))) (Join.codeO (sG w g x A d te ln pos pos' ρ))
theorem factGw (w : World) (a b : Bool) (j : Nat) (hj : j < 9) (x A : Nat → Addr) (d : Dg) (ln : PySem.Str) (pos pos' : Int) (ρ : Nat → Ep) : GetOk (wS w a b) w.params (.w j) x A d (teOf d) ln pos pos' ρ := by
  unfold GetOk
  match j, hj with
  | 0, _ => cases a <;> kernel_rfl
  | 1, _ => cases a <;> kernel_rfl
  | 2, _ => cases a <;> kernel_rfl
  | 3, _ => cases a <;> kernel_rfl
  | 4, _ => cases a <;> kernel_rfl
  | 5, _ => cases a <;> kernel_rfl
  | 6, _ => cases a <;> kernel_rfl
  | 7, _ => cases a <;> kernel_rfl
  | 8, _ => cases a <;> kernel_rfl
theorem factGl (w : World) (a b : Bool) (j : Nat) (hj : j < 9) (x A : Nat → Addr) (d : Dg) (ln : PySem.Str) (pos pos' : Int) (ρ : Nat → Ep) : GetOk (wS w a b) w.params (.l j) x A d (teOf d) ln pos pos' ρ := by
  unfold GetOk
  match j, hj with
  | 0, _ => cases a <;> kernel_rfl
  | 1, _ => cases a <;> kernel_rfl
  | 2, _ => cases a <;> kernel_rfl
  | 3, _ => cases a <;> kernel_rfl
  | 4, _ => cases a <;> kernel_rfl
  | 5, _ => cases a <;> kernel_rfl
  | 6, _ => cases a <;> kernel_rfl
  | 7, _ => cases a <;> kernel_rfl
  | 8, _ => cases a <;> kernel_rfl
theorem factGn (w : World) (a b : Bool) (x A : Nat → Addr) (d : Dg) (ln : PySem.Str) (pos pos' : Int) (ρ : Nat → Ep) : GetOk (wS w a b) w.params .n x A d (teOf d) ln pos pos' ρ := by
  unfold GetOk
  cases a <;> kernel_rfl
end Split
end Mine
end
noncomputable section
open PySem PySem.W PyProof.Rows
set_option maxRecDepth 100000
set_option maxHeartbeats 4000000
set_option linter.unusedVariables false
namespace Mine
namespace Split
open Join (XstrS XPost.str)
/-- what a token's reading asks of the line -/
noncomputable def GcOk (g : Gc) (ln : PySem.Str) (pos pos' : Nat) : Prop := match g with
  | .w j => j < 9 ∧ (∀ (i c : Nat), (qword j).cps.toList[i]? = some c → ln.cps[pos + i]? = some c) ∧ ln.cps[pos + (pth j).length]? = some 32 ∧ pos' = pos + (pth j).length + 1
  | .l j => j < 9 ∧ (∀ (i c : Nat), (qword j).cps.toList[i]? = some c → ln.cps[pos + i]? = some c) ∧ pos + (pth j).length = ln.length ∧ pos' = pos + (pth j).length
  | .n => pos = ln.length ∧ pos' = pos
theorem factG (w : World) (a b : Bool) (g : Gc) {ln : PySem.Str} {p q : Nat} (hg : GcOk g ln p q) (x A : Nat → Addr) (d : Dg) (pos pos' : Int) (ρ : Nat → Ep) : GetOk (wS w a b) w.params g x A d (teOf d) ln pos pos' ρ := by
  cases g with
  | w j => exact factGw w a b j hg.1 x A d ln pos pos' ρ
  | l j => exact factGl w a b j hg.1 x A d ln pos pos' ρ
  | n => exact factGn w a b x A d ln pos pos' ρ
noncomputable def Gc.val (g : Gc) (t : Nat) : Value := match g with
  | .n => .none
  | _ => .str g.T t
/-- get_token by its contract -/
noncomputable def Xget (P : Params) (A : Nat → Addr) (g : Gc) (tk u tk2 u2 : Nat → Nat) (ln : PySem.Str) (pos' : Int) : Xs :=
  ⟨[0, 1, 2, 3, 4, 5], fun ρ _ => (.ok (.ret (g.val ρ.t)), [lexD P A tk u (g.st' (tokV ρ.o.cls)) (.str (S "") (ρ.tk 0)), sioD P tk2 u2 ln pos' ρ.n], []), id, fun _ => True, none⟩
theorem loop_req {w : World} {a b : Bool} {A : Nat → Addr} {g : Gc} {tk u tk2 u2 tk3 : Nat → Nat} {ts tt tp te : Nat} {x1 : Addr} {ln : PySem.Str} {pos pos' : Nat} {gens : List GenState} (hl : ln.length ≤ 1000000) (hg : GcOk g ln pos pos') :
    ReqOk (MM (wS w a b)) (topG (wS w a b)) (Xw w.params A g tk u tk2 u2 te ln pos') ⟨wloop x1, none, none, none, kT, [(A 0, lexD w.params A tk u (g.st ts) (.str (S "") tt)), (A 1, sioD w.params tk2 u2 ln (pos : Nat) tp), (x1, rtF w.params A tk3 true false te .none), (A 3, lexO A), (A 4, sioO A)], gens⟩ := by
  refine req_of rfl fun D p s T hL ho nd hgn => ?_
  have nd := nd (by show [0, 1, 7, 2, 3].Nodup; decide)
  let B : Nat → Addr := adr [A 0, A 1, A 2, A 3, A 4, A 5, A 6, x1]
  let d : Dw := ⟨tk, u, tk2, u2, tk3, te, .none, ts, tt, tp, D, p, s.toks, gens⟩
  have S0 : St (wS w a b) d.gens (ledW w.params B d true false (g.st ts) (S "") ln (pos : Nat)) s := ⟨T, hL, nd, ho, hgn⟩
  have key : wpCode (MM (wS w a b)) (cx (wloop (B 7)) kT d.D) (LoopEnds w a b B d g.q g.st' g.T ln pos' s) d.p s := by
    cases g with
    | w j =>
      obtain ⟨h1, h2, h3, rfl⟩ := hg
      exact loopW false h1 hl rfl h2 h3 S0
    | l j =>
      obtain ⟨h1, h2, h3, rfl⟩ := hg
      exact loopW true h1 hl rfl h2 h3 S0
    | n =>
      obtain ⟨h1, rfl⟩ := hg
      exact loopN hl rfl h1 S0
  refine wpCode_mono ?_ key
  rintro r s' ⟨rfl, tt', tp', tk3', y', ts', S1, C1⟩
  refine ⟨⟨xS s', s'.toks, tt', tp', y', #[], ⟨.int 0 ts', none, .plain, #[]⟩, [], tk3'⟩, rfl, rfl, trivial, rfl, ?_, fun y hy => (nomatch hy), List.nodup_nil, fun y hy => (nomatch hy), C1, S1.gens⟩
  exact ⟨S1.led _ (List.mem_cons_self), S1.led _ (by exact List.mem_cons_of_mem _ List.mem_cons_self), S1.led _ (by exact List.mem_cons_of_mem _ (List.mem_cons_of_mem _ List.mem_cons_self)), trivial⟩
theorem get_req {w : World} {a b : Bool} {A : Nat → Addr} {g : Gc} {tk u tk2 u2 : Nat → Nat} {ln : PySem.Str} {pos pos' : Nat} {gens : List GenState} (hl : ln.length ≤ 1000000) (hg : GcOk g ln pos pos') (d : Dg) (hd : d.tk = tk ∧ d.u = u ∧ d.tk2 = tk2 ∧ d.u2 = u2 ∧ d.gens = gens) :
    ReqOk (MM (wS w a b)) (topG (wS w a b)) (Xget w.params A g tk u tk2 u2 ln pos') ⟨callCode 720 [.ref (A 3)], none, none, none, kN, ledT w.params A d (g.st d.ts) ln (pos : Nat), gens⟩ := by
  obtain ⟨rfl, rfl, rfl, rfl, rfl⟩ := hd
  refine req_of rfl fun D p s T hL ho nd hgn => ?_
  have nd := nd (by show [0, 1, 2, 3, 4, 5].Nodup; decide)
  have F := fun ρ => factG w a b g hg (xS s) A { d with D := D, p := p, toks := s.toks } pos pos' ρ
  unfold GetOk sG cG at F
  refine sim_go (led := ledT w.params A d (g.st d.ts) ln (pos : Nat)) spG (fun _ => .none) _ [Xw w.params A g d.tk d.u d.tk2 d.u2 (s.toks + 6) ln pos'] (cEp []) _ [0, 1, 2, 3, 4, 5] F T hL nd ho hgn (fun ρ => ⟨loop_req hl hg, fun _ => trivial⟩) ?_
  intro ρ s' p' hI G
  have G1 := G.st (by decide)
  have G2 := G.ch
  clear G F
  generalize ledV _ 0 15 = x1 at G1
  refine goes_done ⟨⟨xS s', s'.toks, (ρ 0).t, (ρ 0).n, .none, #[], (ρ 0).o, [], fun _ => x1⟩, rfl, rfl, trivial, ?_, ?_, fun y hy => (nomatch hy), List.nodup_nil, fun y hy => (nomatch hy), ?_, G1.gens⟩
  · cases g <;> rfl
  · exact ⟨G1.led _ (List.mem_cons_self), G1.led _ (by exact List.mem_cons_of_mem _ List.mem_cons_self), trivial⟩
  · exact G2.less (Rd := [(A 3, lexO A), (A 4, sioO A), (A 5, dqO), (A 6, dqO)]) (fun y hy => hL y (by simp at hy; rcases hy with rfl | rfl | rfl | rfl <;> simp [ledT])) (fun y hy => G1.led y (by simp at hy; rcases hy with rfl | rfl | rfl | rfl <;> simp [ledT])) (by simp [ledT, Xget])
end Split
end Mine
end
noncomputable section
open PySem PySem.W PyProof.Rows
set_option maxRecDepth 100000
set_option maxHeartbeats 4000000
set_option linter.unusedVariables false
namespace Mine
namespace Split
noncomputable def kL : List Kd := .bi "list.extend.loop" :: kI
noncomputable def cN (P : Params) (A : Nat → Addr) (d : Dg) (ln : PySem.Str) (pos : Int) : Conf := conf (cx (callCode 756 [.ref (A 3)]) kL d.D) d.p (ledT P A d .none ln pos) d.toks d.gens
/-- `__next__` to the place where its frame is noted on the exception -/
noncomputable def esN (w : World) (d : Dg) : List Ev := run0 ⟨false, true⟩ (isx ⟨⟨false, true⟩, [], [720], true, 0⟩) (stopB 0) 110 (EN w (fun j => 5000 + j) (fun _ => .none)) [Xget w.params (fun j => 4000 + j) .n d.tk d.u d.tk2 d.u2 (S "aaa") 1] (cEp []) 0 (cN w.params (fun j => 4000 + j) d (S "aaa") 0)
noncomputable def nenv (L : Addr) : Env := fenvP [26, 10] "shlex.__next__" 756 755 L
noncomputable def oN (w : World) (x A : Nat → Addr) (d : Dg) (ln : PySem.Str) (pos pos' : Int) (ρ : Nat → Ep) : Out2 :=
  Join.runO (esN w d) w x (fun _ => .none) [Xget w.params A .n d.tk d.u d.tk2 d.u2 ln pos'] (cx (callCode 756 [.ref (A 3)]) kL d.D) d.p (ledT w.params A d .none ln pos) d.toks d.gens ρ
noncomputable def leaveT (env : Env) (e : Addr) : Sem Fin := (leaving env (.ref e) >>= fun _ => (Sem.raise (.ref e) : Sem Flow)) >>= fun f => match f with
  | .ret v => ret v
  | _ => ret .none
noncomputable def prN (P : Params) (A : Nat → Addr) (d : Dg) (ln : PySem.Str) (pos : Int) : List Ob := [.x ⟨callCode 720 [.ref (A 3)], none, none, none, kN, ledT P A d .none ln pos, d.gens⟩]
noncomputable def ledN (P : Params) (A : Nat → Addr) (d : Dg) (ln : PySem.Str) (pos' : Int) (ρ : Nat → Ep) : List (Addr × Obj) := ledT P A { d with tt := (ρ 0).tk 0, tp := (ρ 0).n, ts := tokV (ρ 0).o.cls } .none ln pos'
theorem factN (w : World) (a b : Bool) (x A : Nat → Addr) (d : Dg) (ln : PySem.Str) (pos pos' : Int) (ρ : Nat → Ep) :
    proj [0, 1, 2, 3, 4, 5, 6, 8] (oN (wS w a b) x A d ln pos pos' ρ) = want (oN (wS w a b) x A d ln pos pos' ρ) (prN w.params A d ln pos)
      (ledN w.params A d ln pos' ρ ++ [(x 0, frO w.params [("self", .ref (A 3)), ("token", .none)] (tks (oN (wS w a b) x A d ln pos pos' ρ) 6) 2), ((ρ 0).x 1, stopObj ((ρ 0).x 2))]) d.gens
      (leaveT (nenv (x 0)) ((ρ 0).x 1)) (cx (.func (fBody [26, 10]) (nenv (x 0))) kL d.D) := by
  cases a <;> kernel_rfl
end Split
end Mine
end
noncomputable section
open PySem PySem.W PyProof.Rows
set_option maxRecDepth 100000
set_option maxHeartbeats 4000000
set_option linter.unusedVariables false
namespace Mine
/-- a heap without some of its objects -/
noncomputable def hide (h : Heap) : List Addr → Heap
  | [] => h
  | a :: l => (hide h l).update a (fun o => { o with data := .freed })
theorem hide_at (h : Heap) (a : Addr) : (h.update a (fun o => { o with data := .freed })).get? a = none := by
  obtain ⟨objs, l⟩ := h
  show (match (objs.modify a _)[a]? with | some ⟨_, _, .freed, _⟩ => none | o => o) = none
  rw [Array.getElem?_modify]
  cases hq : objs[a]? <;> simp
theorem hide_get (h : Heap) (b : Addr) : ∀ l : List Addr, (b ∈ l → (hide h l).get? b = none) ∧ (b ∉ l → (hide h l).get? b = h.get? b)
  | [] => ⟨fun h => (nomatch h), fun _ => rfl⟩
  | a :: l => by
    obtain ⟨h1, h2⟩ := hide_get h b l
    by_cases e : a = b
    · subst e
      exact ⟨fun _ => hide_at _ _, fun q => absurd List.mem_cons_self q⟩
    · refine ⟨fun hm => ?_, fun hm => ?_⟩
      · rcases List.mem_cons.mp hm with q | q
        · exact absurd q.symm e
        · show ((hide h l).update a _).get? b = none
          rw [Heap.get?_update_other _ _ e]; exact h1 q
      · show ((hide h l).update a _).get? b = _
        rw [Heap.get?_update_other _ _ e]; exact h2 fun q => hm (List.mem_cons_of_mem _ q)
/-- frames of functions, as objects of the heap -/
noncomputable def FnFrames (h : Heap) (l : List Env) : Prop := ∀ en ∈ l, en.scope.kind ≠ .module ∧ ∃ L o, en.frame = some L ∧ h.get? L = some o ∧ ∀ vs, o.data ≠ .fields vs
/-- what an exception's leaving turns: it, and the frames' slots -/
structure Gone (F : List Addr) (e : Addr) (cls : Value) (h h' : Heap) : Prop where
  keep : ∀ b o, h.get? b = some o → b ∉ F → b ≠ e → h'.get? b = some o
  slots : ∀ b o, b ∈ F → h.get? b = some o → (∀ vs, o.data ≠ .fields vs) → ∃ sl, h'.get? b = some { o with slots := sl }
  exc : ∃ oe, h'.get? e = some oe ∧ oe.cls = cls
theorem leave_any {M : Model} {A : Around} {E : Value → Shared → Prop} {s : Shared} {env : Env} {outer : List Env} {L e : Addr} {oe : Obj} {vs : Array Value} {Q : Unit → Shared → Prop}
    (hfr : A.frames = some (env :: outer)) (hl : FnFrames s.heap (env :: outer)) (hf : env.frame = some L) (he : s.heap.get? e = some oe) (hd : oe.data = .fields vs) (h1 : vs[1]? = some .none)
    (h : ∀ h', Gone ((env :: outer).filterMap (·.frame)) e oe.cls s.heap h' → Q () { s with heap := h' }) : wpAny M A (leaving env (.ref e)) Q E s := by
  have heF : ∀ en ∈ env :: outer, ∀ L', en.frame = some L' → L' ≠ e := by
    intro en hen L' hL' q
    obtain ⟨_, L2, o, g1, g2, g3⟩ := hl en hen
    rw [hL'] at g1
    cases g1
    rw [q, he] at g2
    cases g2
    exact g3 vs hd
  refine wpAny_leaving_first (base := hide s.heap (e :: (env :: outer).filterMap (·.frame))) hfr ?_ hf he ?_ ?_ hd h1 fun h' hL => h h' ?_
  · have key : ∀ l : List Env, (∀ en ∈ l, en ∈ env :: outer) → s.heap.FunFrames (hide s.heap (e :: (env :: outer).filterMap (·.frame))) l := by
      intro l
      induction l with
      | nil => intro _; trivial
      | cons en l ih =>
        intro hm
        obtain ⟨k1, L2, o, g1, g2, g3⟩ := hl en (hm en List.mem_cons_self)
        refine ⟨k1, ⟨L2, o, g1, ?_, g2, g3⟩, ih fun en' h' => hm en' (List.mem_cons_of_mem _ h')⟩
        exact (hide_get s.heap L2 _).1 (List.mem_cons_of_mem _ (List.mem_filterMap.mpr ⟨en, hm en List.mem_cons_self, g1⟩))
    exact key _ fun en h => h
  · intro b o hb
    by_cases hm : b ∈ e :: (env :: outer).filterMap (·.frame)
    · rw [(hide_get s.heap b _).1 hm] at hb; cases hb
    · rw [(hide_get s.heap b _).2 hm] at hb; exact hb
  · exact (hide_get s.heap e _).1 List.mem_cons_self
  · obtain ⟨k1, k2, k3, k4⟩ := hL
    refine ⟨fun b o hb h1 h2 => k1 b o ?_, fun b o hm hb hn => k4 b o hb hn, ?_⟩
    · rw [(hide_get s.heap b _).2 (by simp only [List.mem_cons, not_or]; exact ⟨h2, h1⟩)]; exact hb
    · obtain ⟨oe', _, _, _, _, g1, g2, _⟩ := k3
      exact ⟨oe', g1, g2⟩
theorem leave_goes {w : World} {R : Result → Shared → Prop} {Γ : Ctx} {p : Pos} {s : Shared} {body : List Stmt} {env : Env} {L e : Addr} {oe : Obj} {vs : Array Value} (hc : Γ.code = .func body env)
    (hl : FnFrames s.heap (env :: envsOf Γ.below)) (hf : env.frame = some L) (he : s.heap.get? e = some oe) (hd : oe.data = .fields vs) (h1 : vs[1]? = some .none)
    (hR : ∀ h', Gone ((env :: envsOf Γ.below).filterMap (·.frame)) e oe.cls s.heap h' → R (.error (.ref e)) { s with heap := h' }) : Goes (MM w) R Γ p (Split.leaveT env e) .base s := by
  refine goes_wp ?_
  let A : Around := { (AΓ Γ).under Γ.code with frames := some (env :: envsOf Γ.below) }
  have hin : Γ.In A := by
    have h : Γ.In ((AΓ Γ).under Γ.code) := Ctx.Below.in ⟨rfl, Nat.le_refl _, fun l hl => (nomatch hl), fun l hl => (nomatch hl), Nat.le_refl _⟩
    refine ⟨h.1, h.2.1, fun l hl => ?_, h.2.2.2.1, h.2.2.2.2⟩
    cases hl
    rw [hc]; rfl
  unfold Split.leaveT
  rw [Sem.wp_bind', Sem.wp_bind']
  have h := leave_any (M := MM w) (A := A) (E := fun _ _ => False) (Q := fun _ s' => R (.error (.ref e)) s') (s := s) rfl hl hf he hd h1 (fun h' g => hR h' g) Γ p hin
  exact Sem.wp_mono _ _ _ (fun a p' s' h => h) (fun _ _ _ h => h.elim) _ _ h
end Mine
end
noncomputable section
open PySem PySem.W PyProof.Rows
set_option maxRecDepth 100000
set_option maxHeartbeats 4000000
set_option linter.unusedVariables false
namespace Mine
/-- list.__init__ from another object -/
noncomputable def initT (L I : Addr) : { t : Sem Fin // L ≠ I → Builtin.«list.__init__» ⟨[.ref L, .ref I], []⟩ = t } := by
  refine ⟨?_, fun h => ?_⟩
  rotate_left
  · unfold Builtin.«list.__init__»
    simp only [(extT L I .none).2 h]
    exact rfl
theorem init_eq {L I : Addr} (h : L ≠ I) : denQ (.builtin "list.__init__" ⟨[.ref L, .ref I], []⟩) = (initT L I).1 := by
  rw [den_bi F.entry_list_init, ← (initT L I).2 h]
namespace Split
open Join (XstrS XPost.str)
structure Di where
  tk : Nat → Nat
  u : Nat → Nat
  tk2 : Nat → Nat
  u2 : Nat → Nat
  t1 : Nat
  t2 : Nat
  tp : Nat
  ln : PySem.Str
  D : Nat → CD × Pos
  p : Pos
  toks : Nat
  gens : List GenState
noncomputable def ledI (P : Params) (A : Nat → Addr) (d : Di) (m : Nat) : List (Addr × Obj) :=
  [(A 0, lexD P A d.tk d.u (.str (S " ") d.t1) (.str (S "") d.t2)), (A 1, sioD P d.tk2 d.u2 d.ln 0 d.tp), (A 2, lstObj #[] m), (A 3, lexO A), (A 4, sioO A), (A 5, dqO), (A 6, dqO)]
noncomputable def cI (P : Params) (A : Nat → Addr) (d : Di) (ln : PySem.Str) : Conf := conf (cx (biCode "list.__init__" [.ref (A 2), .ref (A 3)]) kI d.D) d.p (ledI P A { d with ln := ln } 0) d.toks d.gens
noncomputable def sI (w : World) (x A : Nat → Addr) (d : Di) (ρ : Nat → Ep) : Out2 := sim spG w x (fun _ => .none) [] [] (cEp []) (cI w.params (fun j => 4000 + j) d (S "a")) (cI w.params A d d.ln) ρ
theorem factI (w : World) (a b : Bool) (x A : Nat → Addr) (d : Di) (ρ : Nat → Ep) :
    proj [0, 1, 2, 3, 4, 5, 6] (sI (wS w a b) x A d ρ) = want (sI (wS w a b) x A d ρ) [] (ledI w.params A d 0) d.gens (.pure (.again (.builtin "list.__init__" ⟨[.ref (A 2), .ref (A 3)], []⟩))) (cx (biCode "list.__init__" [.ref (A 2), .ref (A 3)]) kI d.D) := by
  cases a <;> kernel_rfl
noncomputable def cJ (P : Params) (A : Nat → Addr) (d : Di) (ln : PySem.Str) : Conf := confT (cx (.builtin "list.__init__" ⟨[.ref (A 2), .ref (A 3)], []⟩) kI d.D) d.p (initT (A 2) (A 3)).1 (ledI P A { d with ln := ln } 0) d.toks d.gens
noncomputable def sJ (w : World) (x A : Nat → Addr) (d : Di) (ρ : Nat → Ep) : Out2 := sim spG w x (fun _ => .none) [] [] (cEp []) (cJ w.params (fun j => 4000 + j) d (S "a")) (cJ w.params A d d.ln) ρ
theorem factJ (w : World) (a b : Bool) (x A : Nat → Addr) (d : Di) (ρ : Nat → Ep) :
    proj [0, 1, 2, 3, 4, 5, 6] (sJ (wS w a b) x A d ρ) = want (sJ (wS w a b) x A d ρ) [] (ledI w.params A d 2) d.gens (.pure (.again (xloop (A 2) (A 3) .none))) (cx (.builtin "list.__init__" ⟨[.ref (A 2), .ref (A 3)], []⟩) kI d.D) := by
  cases a <;> kernel_rfl
noncomputable def spX : Sp := ⟨⟨false, true⟩, [], [720], true, 4002⟩
noncomputable def cX (P : Params) (A : Nat → Addr) (d : Dg) (g : Gc) (ln : PySem.Str) (pos : Int) : Conf := confT (cx (xloop (A 2) (A 3) .none) kI d.D) d.p (xtree (A 2) (A 3) .none) (ledT P A d (g.st d.ts) ln pos) d.toks d.gens
noncomputable def sX (w : World) (g : Gc) (x A : Nat → Addr) (d : Dg) (ln : PySem.Str) (pos pos' : Int) (ρ : Nat → Ep) : Out2 :=
  sim spX w x (fun _ => .none) [Xget w.params (fun j => 4000 + j) g d.tk d.u d.tk2 d.u2 (S "aaa") 1] [Xget w.params A g d.tk d.u d.tk2 d.u2 ln pos'] (cEp []) (cX w.params (fun j => 4000 + j) d g (S "aaa") 0) (cX w.params A d g ln pos) ρ
noncomputable def prX (P : Params) (A : Nat → Addr) (d : Dg) (g : Gc) (ln : PySem.Str) (pos : Int) : List Ob := [.x ⟨callCode 720 [.ref (A 3)], none, none, none, kN, ledT P A d (g.st d.ts) ln pos, d.gens⟩]
noncomputable def ledX (P : Params) (A : Nat → Addr) (d : Dg) (g : Gc) (ln : PySem.Str) (pos' : Int) (ρ : Nat → Ep) : List (Addr × Obj) := ledT P A { d with tt := (ρ 0).tk 0, tp := (ρ 0).n, ts := tokV (ρ 0).o.cls } (g.st' (tokV (ρ 0).o.cls)) ln pos'
noncomputable def TokOk (w : World) (P : Params) (g : Gc) (t : (Nat → Ep) → Sem Fin) (x A : Nat → Addr) (d : Dg) (ln : PySem.Str) (pos pos' : Int) (ρ : Nat → Ep) : Prop :=
  proj [0, 1, 2, 3, 4, 5] (sX w g x A d ln pos pos' ρ) = want (sX w g x A d ln pos pos' ρ) (prX P A d g ln pos) (ledX P A d g ln pos' ρ) d.gens (t ρ) (cx (xloop (A 2) (A 3) .none) kI d.D)
theorem factXw (w : World) (a b : Bool) (j : Nat) (x A : Nat → Addr) (d : Dg) (ln : PySem.Str) (pos pos' : Int) (ρ : Nat → Ep) :
    TokOk (wS w a b) w.params (.w j) (fun ρ => pushT (A 2) (.str (word j) (ρ 0).t) (xloop (A 2) (A 3) .none)) x A d ln pos pos' ρ := by
  unfold TokOk
  cases a <;> kernel_rfl
theorem factXl (w : World) (a b : Bool) (j : Nat) (x A : Nat → Addr) (d : Dg) (ln : PySem.Str) (pos pos' : Int) (ρ : Nat → Ep) :
    TokOk (wS w a b) w.params (.l j) (fun ρ => pushT (A 2) (.str (word j) (ρ 0).t) (xloop (A 2) (A 3) .none)) x A d ln pos pos' ρ := by
  unfold TokOk
  cases a <;> kernel_rfl
/-- frames below, and that they are functions' -/
noncomputable def Frs (fs : List Addr) (envs : List Env) : Prop := envs.map (·.frame) = fs.map some ∧ ∀ e ∈ envs, e.scope.kind ≠ .module
noncomputable def stopO (o : Obj) : Obj := ⟨.type "StopIteration", o.dict, o.data, o.slots⟩
noncomputable def slO (o : Obj) (sl : Array (Option Value)) : Obj := ⟨o.cls, o.dict, o.data, sl⟩
/-- `__next__` at the line's end -/
noncomputable def Xnx (P : Params) (A : Nat → Addr) (tk u tk2 u2 : Nat → Nat) (ln : PySem.Str) (pos' : Int) (o1 o2 : Obj) : Xs :=
  ⟨[0, 1, 6, 7, 2, 3, 4, 5], fun ρ _ => (.error (.ref ρ.n), [lexD P A tk u .none (.str (S "") (ρ.tk 0)), sioD P tk2 u2 ln pos' ρ.t, slO o1 (getO ρ.os 0).slots, slO o2 (getO ρ.os 1).slots], [(ρ.n, stopO ρ.o)]), id, fun _ => True, some (Frs [A 7, A 8])⟩
noncomputable def spY : Sp := ⟨⟨false, true⟩, [], [756], true, 0⟩
noncomputable def ledY (P : Params) (A : Nat → Addr) (d : Dg) (ln : PySem.Str) (pos : Int) (o1 o2 : Obj) : List (Addr × Obj) := ledT P A d .none ln pos ++ [(A 7, o1), (A 8, o2)]
noncomputable def cY (P : Params) (A : Nat → Addr) (d : Dg) (ln : PySem.Str) (pos : Int) (o1 o2 : Obj) : Conf := confT (cx (xloop (A 2) (A 3) .none) kI d.D) d.p (xtree (A 2) (A 3) .none) (ledY P A d ln pos o1 o2) d.toks d.gens
noncomputable def ρY : Nat → Ep := fun k => { cEp [] k with n := 9000 }
noncomputable def sY (w : World) (x A : Nat → Addr) (d : Dg) (ln : PySem.Str) (pos pos' : Int) (o1 o2 : Obj) (ρ : Nat → Ep) : Out2 :=
  sim spY w x (fun _ => .none) [Xnx w.params (fun j => 4000 + j) d.tk d.u d.tk2 d.u2 (S "aaa") 1 o1 o2] [Xnx w.params A d.tk d.u d.tk2 d.u2 ln pos' o1 o2] ρY (cY w.params (fun j => 4000 + j) d (S "aaa") 0 o1 o2) (cY w.params A d ln pos o1 o2) ρ
noncomputable def prY (P : Params) (A : Nat → Addr) (d : Dg) (ln : PySem.Str) (pos : Int) (o1 o2 : Obj) : List Ob :=
  [.p (Frs [A 7, A 8] [(d.D 1).1.env, (d.D 2).1.env]), .x ⟨callCode 756 [.ref (A 3)], none, none, none, kL, [(A 0, lexD P A d.tk d.u .none (.str (S "") d.tt)), (A 1, sioD P d.tk2 d.u2 ln pos d.tp), (A 7, o1), (A 8, o2), (A 3, lexO A), (A 4, sioO A), (A 5, dqO), (A 6, dqO)], d.gens⟩]
theorem factY (w : World) (a b : Bool) (x A : Nat → Addr) (d : Dg) (ln : PySem.Str) (pos pos' : Int) (o1 o2 : Obj) (ρ : Nat → Ep) :
    proj [0, 1, 2, 3, 4, 5, 6, 7] (sY (wS w a b) x A d ln pos pos' o1 o2 ρ) = want (sY (wS w a b) x A d ln pos pos' o1 o2 ρ) (prY w.params A d ln pos o1 o2)
      (ledY w.params A { d with tt := (ρ 0).tk 0, tp := (ρ 0).t } ln pos' (slO o1 (getO (ρ 0).os 0).slots) (slO o2 (getO (ρ 0).os 1).slots)) d.gens (.pure (.done (.ret .none))) (cx (xloop (A 2) (A 3) .none) kI d.D) := by
  cases a <;> kernel_rfl
end Split
end Mine
end
noncomputable section
open PySem PySem.W PyProof.Rows
set_option maxRecDepth 100000
set_option maxHeartbeats 4000000
set_option linter.unusedVariables false
namespace Mine
noncomputable def runE (es : List Ev) (w : World) (x : Nat → Addr) (it : Nat → Value) (xs : List Xs) (c : Conf) (ρ : Nat → Ep) : Out2 := run2 es (EN w x it) xs ρ c [] []
theorem runE_O (es : List Ev) (w : World) (x : Nat → Addr) (it : Nat → Value) (xs : List Xs) (Γ : Ctx) (p : Pos) (led : List (Addr × Obj)) (toks : Nat) (gens : List GenState) (ρ : Nat → Ep) :
    runE es w x it xs (conf Γ p led toks gens) ρ = Join.runO es w x it xs Γ p led toks gens ρ := by
  unfold runE Join.runO conf EN
  rw [Join.denO_eq]
theorem es_go {w : World} {R : Result → Shared → Prop} {s : Shared} {Γ : Ctx} {p : Pos} {led : List (Addr × Obj)} {gens : List GenState} (es : List Ev) (it : Nat → Value) (xs : List Xs) (pick : List Nat)
    {pr : (Nat → Ep) → List Ob} {led' : (Nat → Ep) → List (Addr × Obj)} {gens' : (Nat → Ep) → List GenState} {t' : (Nat → Ep) → Sem Fin} {Γ' : (Nat → Ep) → Ctx}
    (F : ∀ ρ, proj pick (runE es w (xS s) it xs (conf Γ p led s.toks gens) ρ) = want (runE es w (xS s) it xs (conf Γ p led s.toks gens) ρ) (pr ρ) (led' ρ) (gens' ρ) (t' ρ) (Γ' ρ))
    (T : TopIn w s) (hL : Led s led) (nd : (led.map (·.1)).Nodup) (off : Off (topG w) led) (hg : s.gens = gens.toArray)
    (H : ∀ ρ, AllObs (MM w) (topG w) xs ρ (pr ρ))
    (next : ∀ ρ s' p', Is xs ρ → After w s (led.map (·.1)) pick (led' ρ) (gens' ρ) s' → Goes (MM w) R (Γ' ρ) p' (t' ρ) .base s') : wpCode (MM w) Γ R p s := by
  refine goes_code ?_
  rw [den_MM]
  have f : ∀ ρ, (runE es w (xS s) it xs (conf Γ p led s.toks gens) ρ).ok = true ∧ (runE es w (xS s) it xs (conf Γ p led s.toks gens) ρ).ob.map (·.1) = (runE es w (xS s) it xs (conf Γ p led s.toks gens) ρ).ob.map (·.2) ∧
      (runE es w (xS s) it xs (conf Γ p led s.toks gens) ρ).pr.reverse = pr ρ ∧ pickO (runE es w (xS s) it xs (conf Γ p led s.toks gens) ρ).c.led pick = some (led' ρ) ∧ (runE es w (xS s) it xs (conf Γ p led s.toks gens) ρ).c.gens = gens' ρ ∧
      (runE es w (xS s) it xs (conf Γ p led s.toks gens) ρ).c.t = t' ρ ∧ (runE es w (xS s) it xs (conf Γ p led s.toks gens) ρ).c.κ = .base ∧ (runE es w (xS s) it xs (conf Γ p led s.toks gens) ρ).c.Γ = Γ' ρ := by
    intro ρ
    have := F ρ
    simp only [proj, want, Prod.mk.injEq] at this
    exact this
  have key : ∀ (l : List (Addr × Addr)), l.map (·.1) = l.map (·.2) → ∀ y ∈ l, y.1 = y.2 := by
    intro l
    induction l with
    | nil => intro _ y hy; cases hy
    | cons z l ih =>
      intro e y hy
      simp only [List.map_cons, List.cons.injEq] at e
      rcases List.mem_cons.mp hy with rfl | hy
      · exact e.1
      · exact ih e.2 y hy
  have offT : ∀ a o, (EN w (xS s) it).top a = some o → ∀ y ∈ led, y.1 ≠ a := fun a o e y hy q => by
    have h1 := off y hy
    rw [q] at h1
    have e : topG w a = some o := e
    rw [h1] at e; cases e
  have r0 : Rep (EN w (xS s) it) s (led.map (·.1)) (conf Γ p led s.toks gens) s :=
    ⟨fun n y e => hL y (getL_mem e), nd, T, offT, fun j => (by show s.heap.objs.size + (0 + j) = _; rw [Nat.zero_add]), fun y hy => .inl (List.mem_map_of_mem hy), Nat.le_refl _, fun _ _ e _ => e, rfl, hg, rfl, rfl⟩
  refine run2_sound (fun _ => trivial) (cmpOk w) (nextOk w) (pushOk w) es (EN w (xS s) it) (den_MM w).symm rfl xs (conf Γ p led s.toks gens) s (fun ρ => (f ρ).1) (fun ρ => key _ (f ρ).2.1)
    (fun ρ => ?_) r0 (fun ρ x s' hI r => ?_)
  · have h := H ρ
    rw [← (f ρ).2.2.1] at h
    exact h
  · obtain ⟨h1, h2, h3, h4, h5, h6, h7, h8⟩ := f ρ
    have e : run2 es (EN w (xS s) it) xs ρ (conf Γ p led s.toks gens) [] [] = runE es w (xS s) it xs (conf Γ p led s.toks gens) ρ := rfl
    rw [e, h6, h7, h8]
    rw [e] at r
    obtain ⟨e1, e2⟩ := pickO_get h4
    have selin : ∀ y ∈ led' ρ, ∃ m, gL (runE es w (xS s) it xs (conf Γ p led s.toks gens) ρ).c.led m = some y := by
      intro y hy
      obtain ⟨j, hj, ej⟩ := List.getElem_of_mem hy
      exact ⟨_, e2 j (pick[j]'(by omega)) y (List.getElem?_eq_getElem _) (by rw [← ej]; exact List.getElem?_eq_getElem _)⟩
    refine next ρ s' _ hI ⟨r.top, fun y hy => ?_, fun npick => ?_, fun y hy => ?_, ?_, ⟨r.keep, r.size, r.dr, r.os⟩, fun y hy => ?_⟩
    · obtain ⟨m, q⟩ := selin y hy
      exact r.led m y q
    · refine nd_of fun i j z g1 g2 => ?_
      simp only [List.getElem?_map, Option.map_eq_some_iff] at g1 g2
      obtain ⟨y1, g1, rfl⟩ := g1
      obtain ⟨y2, g2, g3⟩ := g2
      have li : i < (led' ρ).length := by
        rcases Nat.lt_or_ge i (led' ρ).length with h | h
        · exact h
        · rw [List.getElem?_eq_none h] at g1; cases g1
      have lj : j < (led' ρ).length := by
        rcases Nat.lt_or_ge j (led' ρ).length with h | h
        · exact h
        · rw [List.getElem?_eq_none h] at g2; cases g2
      have q1 := e2 i (pick[i]'(by omega)) y1 (List.getElem?_eq_getElem _) g1
      have q2 := e2 j (pick[j]'(by omega)) y2 (List.getElem?_eq_getElem _) g2
      have q3 := gL_inj r.nodup q1 q2 g3.symm
      exact nd_inj npick (a := pick[i]'(by omega)) (List.getElem?_eq_getElem _) (by rw [q3]; exact List.getElem?_eq_getElem _)
    · obtain ⟨m, q⟩ := selin y hy
      cases ht : topG w y.1 with
      | none => rfl
      | some o => exact absurd rfl (r.off _ _ ht y (getL_mem q))
    · rw [r.gn, h5]
    · obtain ⟨m, q⟩ := selin y hy
      exact r.newer y (getL_mem q)

theorem req_ofC {w : World} {X : Xs} {v : View} (hk : okKs v.ks = true)
    (h : ∀ (D : Nat → CD × Pos) (p : Pos) (s : Shared), (∀ K, X.C = some K → K (envsOf (mkB v.ks D))) → TopIn w s → Led s v.sel → Off (topG w) v.sel → (X.sel.Nodup → (v.sel.map (·.1)).Nodup) → s.gens = v.gens.toArray → wpCode (MM w) ⟨v.d, v.hd, v.own, mkB v.ks D, v.past⟩ (fun r s' => ∃ ρ, XPost X v s ρ r s') p s) : ReqOk (MM w) (topG w) X v := by
  intro Γ p s hΓ T hL ho nd hg
  obtain ⟨code, hd, own, below, past⟩ := Γ
  obtain ⟨_, h1, h2, h3, h4, h5, h6⟩ := hΓ
  dsimp only at h1 h2 h3 h4 h5 h6
  subst h1 h2 h3 h4
  obtain ⟨D, e⟩ := mkB_of below (by rw [h5]; exact hk)
  rw [e, h5] at h6
  rw [e, h5]
  exact h D p s h6 T hL ho nd hg
namespace Split
theorem factN' (w : World) (a b : Bool) (x A : Nat → Addr) (d : Dg) (ln : PySem.Str) (pos pos' : Int) (ρ : Nat → Ep) :
    proj [0, 1, 2, 3, 4, 5, 6, 8] (runE (esN (wS w a b) d) (wS w a b) x (fun _ => .none) [Xget w.params A .n d.tk d.u d.tk2 d.u2 ln pos'] (cN w.params A d ln pos) ρ) = want (runE (esN (wS w a b) d) (wS w a b) x (fun _ => .none) [Xget w.params A .n d.tk d.u d.tk2 d.u2 ln pos'] (cN w.params A d ln pos) ρ) (prN w.params A d ln pos)
      (ledN w.params A d ln pos' ρ ++ [(x 0, frO w.params [("self", .ref (A 3)), ("token", .none)] (tks (runE (esN (wS w a b) d) (wS w a b) x (fun _ => .none) [Xget w.params A .n d.tk d.u d.tk2 d.u2 ln pos'] (cN w.params A d ln pos) ρ) 6) 2), ((ρ 0).x 1, stopObj ((ρ 0).x 2))]) d.gens
      (leaveT (nenv (x 0)) ((ρ 0).x 1)) (cx (.func (fBody [26, 10]) (nenv (x 0))) kL d.D) := by
  have e : runE (esN (wS w a b) d) (wS w a b) x (fun _ => .none) [Xget w.params A .n d.tk d.u d.tk2 d.u2 ln pos'] (cN w.params A d ln pos) ρ = oN (wS w a b) x A d ln pos pos' ρ := runE_O _ _ _ _ _ _ _ _ _ _ _
  rw [e]
  exact factN w a b x A d ln pos pos' ρ
end Split
end Mine
end
noncomputable section
open PySem PySem.W PyProof.Rows
set_option maxRecDepth 100000
set_option maxHeartbeats 4000000
set_option linter.unusedVariables false
namespace Mine
namespace Split
theorem next_req {w : World} {a b : Bool} {A : Nat → Addr} {tk u tk2 u2 : Nat → Nat} {tt tp pos : Nat} {ln : PySem.Str} {o1 o2 : Obj} {gens : List GenState} (hl : ln.length ≤ 1000000) (hp : pos = ln.length) (hd1 : ∀ vs, o1.data ≠ .fields vs) (hd2 : ∀ vs, o2.data ≠ .fields vs) :
    ReqOk (MM (wS w a b)) (topG (wS w a b)) (Xnx w.params A tk u tk2 u2 ln (pos : Nat) o1 o2) ⟨callCode 756 [.ref (A 3)], none, none, none, kL,
      [(A 0, lexD w.params A tk u .none (.str (S "") tt)), (A 1, sioD w.params tk2 u2 ln (pos : Nat) tp), (A 7, o1), (A 8, o2), (A 3, lexO A), (A 4, sioO A), (A 5, dqO), (A 6, dqO)], gens⟩ := by
  refine req_ofC rfl fun D p s hC T hL ho nd hg => code_size ?_
  have nd := nd (by show [0, 1, 6, 7, 2, 3, 4, 5].Nodup; decide)
  have hFr : Frs [A 7, A 8] [(D 2).1.env, (D 3).1.env] := hC _ rfl
  simp only [List.map_cons, List.map_nil, List.nodup_cons, List.mem_cons, List.not_mem_nil, not_or, or_false, not_false_eq_true, List.nodup_nil, and_true] at nd
  let d : Dg := ⟨tk, u, tk2, u2, 0, tt, tp, D, p, s.toks, gens⟩
  have hL' : Led s (ledT w.params A d .none ln (pos : Nat)) := fun y hy => hL y (by simp [ledT] at hy ⊢; rcases hy with rfl | rfl | rfl | rfl | rfl | rfl <;> simp [d])
  have ho' : Off (topG (wS w a b)) (ledT w.params A d .none ln (pos : Nat)) := fun y hy => ho y (by simp [ledT] at hy ⊢; rcases hy with rfl | rfl | rfl | rfl | rfl | rfl <;> simp [d])
  have g7 : s.heap.get? (A 7) = some o1 := hL (A 7, o1) (by simp)
  have g8 : s.heap.get? (A 8) = some o2 := hL (A 8, o2) (by simp)
  obtain ⟨⟨n01, n07, n08, n03, n04, n05, n06⟩, ⟨n17, n18, n13, n14, n15, n16⟩, ⟨n78, n73, n74, n75, n76⟩, ⟨n83, n84, n85, n86⟩, ⟨n34, n35, n36⟩, ⟨n45, n46⟩, n56⟩ := nd
  have nd' : ((ledT w.params A d .none ln (pos : Nat)).map (·.1)).Nodup := by
    simp [ledT, n01, n03, n04, n05, n06, n13, n14, n15, n16, n34, n35, n36, n45, n46, n56]
  refine es_go (led := ledT w.params A d .none ln (pos : Nat)) (esN (wS w a b) d) (fun _ => .none) [Xget w.params A .n tk u tk2 u2 ln (pos : Nat)] [0, 1, 2, 3, 4, 5, 6, 8]
    (fun ρ => factN' w a b (xS s) A d ln (pos : Nat) (pos : Nat) ρ) T hL' nd' ho' hg (fun ρ => ⟨get_req (g := .n) hl (show GcOk .n ln pos pos from ⟨hp, rfl⟩) d ⟨rfl, rfl, rfl, rfl, rfl⟩, fun _ => trivial⟩) ?_
  intro ρ s1 p1 hI F
  have F1 := F.led
  have F2 := F.ch
  have F3 := F.gens
  have F4 := F.new
  have F5 := F.nd (by decide)
  clear F
  generalize tks _ 6 = tk6 at F1 F4 F5
  generalize he : (ρ 0).x 1 = e at F1 F4 F5 ⊢
  generalize (ρ 0).x 2 = e2 at F1 F4 F5
  have x0 : s.heap.objs.size ≤ xS s 0 := Nat.le_add_right _ _
  have lt : ∀ b o, s.heap.get? b = some o → b < s.heap.objs.size := fun b o h => Heap.lt_size h
  have ge : s.heap.objs.size ≤ e := by
    rcases F4 (e, stopObj e2) (by simp) with h | h
    · exfalso
      rw [List.map_append, List.nodup_append] at F5
      exact F5.2.2 e h e (by simp) rfl
    · exact h
  have nx : xS s 0 ≠ e := by
    intro q
    rw [List.map_append, List.nodup_append] at F5
    simp [q] at F5
  have kp : ∀ b o, s.heap.get? b = some o → b ≠ A 0 → b ≠ A 1 → s1.heap.get? b = some o := by
    have C : Ch [A 0, A 1] s s1 := F2.less (Rd := [(A 3, lexO A), (A 4, sioO A), (A 5, dqO), (A 6, dqO)]) (fun y hy => hL' y (by simp at hy; rcases hy with rfl | rfl | rfl | rfl <;> simp [ledT])) (fun y hy => F1 y (by simp at hy; rcases hy with rfl | rfl | rfl | rfl <;> simp [ledN, ledT])) (by simp [ledT])
    exact fun b o h h0 h1 => C.keep b o h (by simp [h0, h1])
  have k7 := kp _ _ g7 (Ne.symm n07) (Ne.symm n17)
  have k8 := kp _ _ g8 (Ne.symm n08) (Ne.symm n18)
  have f7 : (D 2).1.env.frame = some (A 7) := by have := hFr.1; simp at this; exact this.1
  have f8 : (D 3).1.env.frame = some (A 8) := by have := hFr.1; simp at this; exact this.2
  have fx : s1.heap.get? (xS s 0) = some (frO w.params [("self", .ref (A 3)), ("token", .none)] tk6 2) := F1 (xS s 0, frO w.params [("self", .ref (A 3)), ("token", .none)] tk6 2) (by simp)
  refine leave_goes (L := xS s 0) (vs := #[.ref e2, .none, .none, .none, .bool false, .none]) rfl ?_ rfl (F1 (e, stopObj e2) (by simp)) rfl rfl fun h' G hz => ?_
  · intro en hen
    have hen : en = nenv (xS s 0) ∨ en = (D 2).1.env ∨ en = (D 3).1.env := by
      have : en ∈ [nenv (xS s 0), (D 2).1.env, (D 3).1.env] := hen
      simpa using this
    rcases hen with rfl | rfl | rfl
    · exact ⟨(by decide +kernel : (fScope [26, 10]).kind ≠ .module), xS s 0, _, rfl, fx, fun vs h => by cases h⟩
    · exact ⟨hFr.2 _ (by simp), A 7, o1, f7, k7, hd1⟩
    · exact ⟨hFr.2 _ (by simp), A 8, o2, f8, k8, hd2⟩
  · have eF : (nenv (xS s 0) :: envsOf (cx (.func (fBody [26, 10]) (nenv (xS s 0))) kL d.D).below).filterMap (·.frame) = [xS s 0, A 7, A 8] := by
      show [nenv (xS s 0), (D 2).1.env, (D 3).1.env].filterMap (·.frame) = _
      have e0 : (nenv (xS s 0)).frame = some (xS s 0) := rfl
      simp only [List.filterMap_cons, e0, f7, f8, List.filterMap_nil]
    rw [eF] at G
    obtain ⟨sl1, h71⟩ := G.slots (A 7) o1 (by simp) k7 hd1
    obtain ⟨sl2, h81⟩ := G.slots (A 8) o2 (by simp) k8 hd2
    obtain ⟨oe, he1, he2⟩ := G.exc
    have far : ∀ b o, s.heap.get? b = some o → b ≠ xS s 0 ∧ b ≠ e := fun b o h => ⟨fun q => by have := lt b o h; rw [q] at this; exact absurd this (Nat.not_lt.mpr x0), fun q => by have := lt b o h; rw [q] at this; exact absurd this (Nat.not_lt.mpr ge)⟩
    have m0 := far (A 0) _ (hL' _ List.mem_cons_self)
    have m1 := far (A 1) _ (hL' (A 1, sioD w.params tk2 u2 ln (pos : Nat) tp) (by simp [ledT, d]))
    refine ⟨⟨xS { s1 with heap := h' }, s1.toks, (ρ 0).n, e, .none, #[], oe, [slO o1 sl1, slO o2 sl2], fun _ => (ρ 0).tk 0⟩, rfl, rfl, trivial, rfl, ?_, ?_, by simp [Xnx], ?_, ?_, F3⟩
    · refine ⟨?_, ?_, h71, h81, trivial⟩
      · exact G.keep _ _ (F1 _ List.mem_cons_self) (by simp [m0.1, n07, n08]) m0.2
      · exact G.keep _ _ (F1 (A 1, sioD w.params tk2 u2 ln (pos : Nat) (ρ 0).n) (by simp [ledN, ledT, d])) (by simp [m1.1, n17, n18]) m1.2
    · intro y hy
      simp [Xnx] at hy
      subst hy
      show h'.get? e = some (stopO oe)
      rw [he1]
      obtain ⟨c, dd, da, sl⟩ := oe
      dsimp only at he2
      subst he2
      rfl
    · intro y hy
      simp [Xnx] at hy
      subst hy
      exact ge
    · refine ⟨fun q o hq hn => ?_, hz, F2.dr, F2.os⟩
      have hn : q ≠ A 0 ∧ q ≠ A 1 ∧ q ≠ A 7 ∧ q ≠ A 8 := by simpa [Xnx] using hn
      have := far q o hq
      exact G.keep q o (kp q o hq hn.1 hn.2.1) (by simp [this.1, hn.2.2.1, hn.2.2.2]) this.2
end Split
end Mine
end
noncomputable section
open PySem PySem.W PyProof.Rows
set_option maxRecDepth 100000
set_option maxHeartbeats 4000000
set_option linter.unusedVariables false
namespace Mine
namespace Split
/-- the call of split, the caller's frame in sight -/
noncomputable def cS (d : Da) (F : Addr) (o2 : Obj) (ln : PySem.Str) : Conf := conf (cx (callCode 771 [.str ln d.t]) ks d.D) d.p [(F, o2)] d.toks d.gens
noncomputable def spF (P : Params) (x : Nat → Addr) (ln : PySem.Str) (t : Nat) (tk : Nat → Nat) : Obj := frO P [("s", .str ln t), ("comments", .bool false), ("posix", .bool true), ("lex", .ref (x 2))] tk 4
noncomputable def AS (x : Nat → Addr) (F : Addr) : Nat → Addr := adr [x 1, x 7, x 13, x 2, x 8, x 11, x 12, x 0, F]
/-- list.__init__ over the lexer -/
noncomputable def Xin (o1 o2 : Obj) (f1 f2 : Addr) (I : Array Value → Prop) : Xs :=
  ⟨[2, 8, 14, 1, 0, 3, 9, 12, 13], fun ρ l => (.ok (.ret .none), [getO ρ.os 0, getO ρ.os 1, lstObj ρ.vs ρ.t, slO o1 (getO ρ.os 2).slots, slO o2 (getO ρ.os 3).slots], []), id, fun ρ => I ρ.vs, some (Frs [f1, f2])⟩
noncomputable def tkF (toks : Nat) : Nat → Nat
  | 0 => toks
  | 1 => toks + 1
  | 2 => toks + 2
  | _ => toks + 93
noncomputable def sS (w : World) (x : Nat → Addr) (d : Da) (F : Addr) (o2 : Obj) (I : Array Value → Prop) (ρ : Nat → Ep) : Out2 :=
  sim spA w x (fun _ => .none) [Xin (spF w.params (fun j => 5000 + j) (S "a") d.t (tkF d.toks)) o2 5000 4000 I] [Xin (spF w.params x d.ln d.t (tkF d.toks)) o2 (x 0) F I] (cEp []) (cS d 4000 o2 (S "a")) (cS d F o2 d.ln) ρ
noncomputable def ledIn (P : Params) (A : Nat → Addr) (tk u tk2 u2 : Nat → Nat) (ln : PySem.Str) (tp t1 t2 m : Nat) (o1 o2 : Obj) : List (Addr × Obj) :=
  [(A 0, lexD P A tk u (.str (S " ") t1) (.str (S "") t2)), (A 1, sioD P tk2 u2 ln 0 tp), (A 2, lstObj #[] m), (A 7, o1), (A 8, o2), (A 3, lexO A), (A 4, sioO A), (A 5, dqO), (A 6, dqO)]
noncomputable def prS (o : Out2) (P : Params) (x : Nat → Addr) (d : Da) (F : Addr) (o2 : Obj) : List Ob :=
  [.p (Frs [x 0, F] [fenv 27 "split" 771 770 (x 0) [], (d.D 0).1.env]),
   .x ⟨biCode "list.__init__" [.ref (x 13), .ref (x 2)], none, none, none, kI, ledIn P (AS x F) (vwN o 0 0) (vwV o 0 0) (vwN o 0 1) (vwV o 0 1) d.ln (vwV o 0 1 2) (vwV o 0 0 11) (vwV o 0 0 15) 0 (spF P x d.ln d.t (tkF d.toks)) o2, d.gens⟩]
theorem factS (w : World) (a b : Bool) (x : Nat → Addr) (d : Da) (F : Addr) (o2 : Obj) (I : Array Value → Prop) (ρ : Nat → Ep) :
    proj [14, 0] (sS (wS w a b) x d F o2 I ρ) = want (sS (wS w a b) x d F o2 I ρ) (prS (sS (wS w a b) x d F o2 I ρ) w.params x d F o2)
      [(x 13, lstObj (ρ 0).vs (ρ 0).t), (F, slO o2 (getO (ρ 0).os 3).slots)] d.gens (.pure (.done (.ret (.ref (x 13))))) (cx (.func (fBody [27]) (fenv 27 "split" 771 770 (x 0) [])) ks d.D) := by
  cases a <;> kernel_rfl
end Split
end Mine
end
noncomputable section
open PySem PySem.W PyProof.Rows
set_option maxRecDepth 100000
set_option maxHeartbeats 4000000
set_option linter.unusedVariables false
namespace Mine
namespace Split
/-- the words of a line from a place on -/
noncomputable def WordsAt (ln : List Nat) : Nat → List Nat → Prop
  | _, [] => False
  | pos, [j] => (∀ (i c : Nat), (qword j).cps.toList[i]? = some c → ln[pos + i]? = some c) ∧ pos + (qword j).length = ln.length
  | pos, j :: k :: js => (∀ (i c : Nat), (qword j).cps.toList[i]? = some c → ln[pos + i]? = some c) ∧ ln[pos + (qword j).length]? = some 32 ∧ WordsAt ln (pos + (qword j).length + 1) (k :: js)
theorem app_list (x y : PySem.Str) : (x ++ y).cps.toList = x.cps.toList ++ y.cps.toList := by
  show (x.cps ++ y.cps).toList = _
  rw [Array.toList_append]
theorem len_list (x : PySem.Str) : x.cps.toList.length = x.length := by
  show _ = x.cps.size
  simp
theorem words_line : ∀ (js : List Nat) (pre : List Nat), js ≠ [] → WordsAt (pre ++ (Join.line js).cps.toList) pre.length js
  | [], pre, h => absurd rfl h
  | [j], pre, _ => by
    have e : Join.line [j] = qword j := by
      unfold Join.line Txt.join
      rw [StrLaws.glued_eq_join]
      rfl
    rw [e]
    refine ⟨fun i c hi => ?_, ?_⟩
    · rw [List.getElem?_append_right (by omega)]
      rw [show pre.length + i - pre.length = i from by omega]
      exact hi
    · rw [List.length_append, len_list]
  | j :: k :: js, pre, _ => by
    have e : Join.line (j :: k :: js) = qword j ++ S " " ++ Join.line (k :: js) := by
      unfold Join.line Txt.join
      rw [StrLaws.glued_eq_join, StrLaws.glued_eq_join]
      rfl
    have eb : (S " ").cps.toList = [32] := by decide +kernel
    rw [e, app_list, app_list, eb]
    have lq := len_list (qword j)
    have l0 : ∀ i c, (qword j).cps.toList[i]? = some c → i < (qword j).cps.toList.length := by
      intro i c h
      rcases Nat.lt_or_ge i (qword j).cps.toList.length with q | q
      · exact q
      · rw [List.getElem?_eq_none q] at h; cases h
    refine ⟨fun i c hi => ?_, ?_, ?_⟩
    · have := l0 i c hi
      rw [List.getElem?_append_right (by omega), show pre.length + i - pre.length = i from by omega, List.getElem?_append_left (by rw [List.length_append]; omega), List.getElem?_append_left this]
      exact hi
    · rw [List.getElem?_append_right (by omega), show pre.length + (qword j).length - pre.length = (qword j).length from by omega, List.getElem?_append_left (by rw [List.length_append, List.length_singleton]; omega), List.getElem?_append_right (by omega), lq]
      simp
    · have := words_line (k :: js) (pre ++ ((qword j).cps.toList ++ [32])) (by simp)
      have e2 : (pre ++ ((qword j).cps.toList ++ [32])).length = pre.length + (qword j).length + 1 := by simp only [List.length_append, lq, List.length_singleton]; omega
      rw [e2, List.append_assoc] at this
      exact this
theorem pth_len (j : Nat) (hj : j < 9) : (pth j).length = (qword j).length := by
  obtain ⟨_, _, _, h, _⟩ := pth_ok j hj
  rw [← len_list, ← h, List.length_map]
theorem gc_w {ln : PySem.Str} {pos j k : Nat} {js : List Nat} (hj : j < 9) (h : WordsAt ln.cps.toList pos (j :: k :: js)) : GcOk (.w j) ln pos (pos + (qword j).length + 1) := by
  obtain ⟨h1, h2, h3⟩ := h
  refine ⟨hj, fun i c hi => ?_, ?_, ?_⟩
  · have := h1 i c hi; simpa using this
  · rw [pth_len j hj]; simpa using h2
  · rw [pth_len j hj]
theorem gc_l {ln : PySem.Str} {pos j : Nat} (hj : j < 9) (h : WordsAt ln.cps.toList pos [j]) : GcOk (.l j) ln pos ln.length := by
  obtain ⟨h1, h2⟩ := h
  rw [len_list] at h2
  refine ⟨hj, fun i c hi => ?_, ?_, ?_⟩
  · have := h1 i c hi; simpa using this
  · rw [pth_len j hj]; exact h2
  · rw [pth_len j hj]; exact h2.symm
end Split
end Mine
end
noncomputable section
open PySem PySem.W PyProof.Rows
set_option maxRecDepth 100000
set_option maxHeartbeats 4000000
set_option linter.unusedVariables false
namespace Mine
namespace Split
noncomputable def ledL (P : Params) (A : Nat → Addr) (d : Dg) (st : Value) (ln : PySem.Str) (pos : Int) (o1 o2 : Obj) (us : Array Value) (m : Nat) : List (Addr × Obj) := ledT P A d st ln pos ++ [(A 7, o1), (A 8, o2), (A 2, lstObj us m)]
theorem tokTurn {w : World} {a b : Bool} {A : Nat → Addr} {d : Dg} {g : Gc} {j : Nat} (hg : g = .w j ∨ g = .l j) {ln : PySem.Str} {pos pos' : Nat} {o1 o2 : Obj} {us : Array Value} {m : Nat} {s : Shared} {R : Result → Shared → Prop} (hl : ln.length ≤ 1000000) (hok : GcOk g ln pos pos') (hz : us.size ≤ 900) (htk : d.toks = s.toks)
    (S0 : St (wS w a b) d.gens (ledL w.params A d (.str (S " ") d.ts) ln (pos : Nat) o1 o2 us m) s)
    (next : ∀ tt tp ts t p' h' (s' : Shared), St (wS w a b) d.gens (ledL w.params A { d with tt := tt, tp := tp, ts := ts, p := p', toks := s'.toks } (g.st' ts) ln (pos' : Nat) o1 o2 (us.push (.str (word j) t)) (m + 1)) { s' with heap := h' } → Ch [A 0, A 1, A 2] s { s' with heap := h' } → wpCode (MM (wS w a b)) (cx (xloop (A 2) (A 3) .none) kI d.D) R p' { s' with heap := h' }) :
    wpCode (MM (wS w a b)) (cx (xloop (A 2) (A 3) .none) kI d.D) R d.p s := by
  have nd := S0.nd
  simp only [ledL, ledT, List.map_append, List.map_cons, List.map_nil, List.cons_append, List.nil_append, List.nodup_cons, List.mem_cons, List.not_mem_nil, not_or, or_false, List.nodup_nil, and_true, not_false_eq_true] at nd
  obtain ⟨⟨n01, n03, n04, n05, n06, n07, n08, n02⟩, ⟨n13, n14, n15, n16, n17, n18, n12⟩, ⟨n34, n35, n36, n37, n38, n32⟩, ⟨n45, n46, n47, n48, n42⟩, ⟨n56, n57, n58, n52⟩, ⟨n67, n68, n62⟩, ⟨n78, n72⟩, n82⟩ := nd
  have S0a : St (wS w a b) d.gens (ledT w.params A d (.str (S " ") d.ts) ln (pos : Nat)) s := S0.sub (List.sublist_append_left _ _)
  have hst : g.st d.ts = .str (S " ") d.ts := by rcases hg with rfl | rfl <;> rfl
  have F : ∀ ρ, TokOk (wS w a b) w.params g (fun ρ => pushT (A 2) (.str (word j) (ρ 0).t) (xloop (A 2) (A 3) .none)) (xS s) A d ln (pos : Nat) (pos' : Nat) ρ := by
    intro ρ
    rcases hg with rfl | rfl
    · exact factXw w a b j (xS s) A d ln _ _ ρ
    · exact factXl w a b j (xS s) A d ln _ _ ρ
  unfold TokOk sX cX at F
  rw [htk] at F
  rw [hst] at F
  refine sim_goT (xtree_eq _ _ _) (led := ledT w.params A d (.str (S " ") d.ts) ln (pos : Nat)) spX (fun _ => .none) _ [Xget w.params A g d.tk d.u d.tk2 d.u2 ln (pos' : Nat)] (cEp []) _ [0, 1, 2, 3, 4, 5] F S0a.top S0a.led S0a.nd S0a.off S0a.gens (fun ρ => ⟨?_, fun _ => trivial⟩) ?_
  · have := get_req (w := w) (a := a) (b := b) (A := A) (g := g) hl hok d ⟨rfl, rfl, rfl, rfl, rfl⟩
    exact this
  · intro ρ s' p' hI G
    have G1 := G.st (by decide)
    have G2 := G.ch
    clear G F
    have C : Ch [A 0, A 1] s s' := G2.less (Rd := [(A 3, lexO A), (A 4, sioO A), (A 5, dqO), (A 6, dqO)]) (fun y hy => S0a.led y (by simp at hy; rcases hy with rfl | rfl | rfl | rfl <;> simp [ledT])) (fun y hy => G1.led y (by simp at hy; rcases hy with rfl | rfl | rfl | rfl <;> simp [ledX, ledT])) (by simp [ledT])
    have L2 : s'.heap.get? (A 2) = some (lstObj us m) := C.keep _ _ (S0.led (A 2, lstObj us m) (by simp [ledL])) (by simp [Ne.symm n02, Ne.symm n12])
    have L7 : s'.heap.get? (A 7) = some o1 := C.keep _ _ (S0.led (A 7, o1) (by simp [ledL])) (by simp [Ne.symm n07, Ne.symm n17])
    have L8 : s'.heap.get? (A 8) = some o2 := C.keep _ _ (S0.led (A 8, o2) (by simp [ledL])) (by simp [Ne.symm n08, Ne.symm n18])
    refine goes_push L2 (by omega) (plainId_quiet PySem.F.plain_extend_loop _) fun h' p2 g1 g2 => ?_
    refine next ((ρ 0).tk 0) (ρ 0).n (tokV (ρ 0).o.cls) (ρ 0).t p2 h' s' ?_ ?_
    · have T' : TopIn (wS w a b) { s' with heap := h' } := fun q o e => by
        have : q ≠ A 2 := by
          rintro rfl
          have := S0.off (A 2, lstObj us m) (by simp [ledL])
          rw [this] at e; cases e
        exact (g2.2 q this).trans (G1.top q o e)
      refine ⟨T', fun y hy => ?_, S0.nd, fun y hy => ?_, G1.gens⟩
      · rcases List.mem_append.mp hy with hy | hy
        · have hne : y.1 ≠ A 2 := by
            intro q
            have : y.1 ∈ (ledT w.params A d (.str (S " ") d.ts) ln (pos : Nat)).map (·.1) := List.mem_map_of_mem (f := (·.1)) hy
            simp [ledT, q] at this
            rcases this with h | h | h | h | h | h
            · exact n02 h.symm
            · exact n12 h.symm
            · exact n32 h.symm
            · exact n42 h.symm
            · exact n52 h.symm
            · exact n62 h.symm
          exact (g2.2 _ hne).trans (G1.led y hy)
        · simp at hy
          rcases hy with rfl | rfl | rfl
          · exact (g2.2 _ n72).trans L7
          · exact (g2.2 _ n82).trans L8
          · exact g1
      · have := S0.off
        rcases List.mem_append.mp hy with hy | hy
        · exact G1.off y hy
        · simp at hy
          rcases hy with rfl | rfl | rfl
          · exact this (A 7, o1) (by simp [ledL])
          · exact this (A 8, o2) (by simp [ledL])
          · exact this (A 2, lstObj us m) (by simp [ledL])
    · exact (C.mono (L' := [A 0, A 1, A 2]) (fun q hq => by simp at hq; rcases hq with rfl | rfl <;> simp)).trans (Ch.put g2) (fun q hq => .inl (by simp at hq; subst hq; simp))
end Split
end Mine
end
noncomputable section
open PySem PySem.W PyProof.Rows
set_option maxRecDepth 100000
set_option maxHeartbeats 4000000
set_option linter.unusedVariables false
namespace Mine
namespace Split
/-- what the loop over the lexer leaves -/
noncomputable def ListEnds (w : World) (a b : Bool) (A : Nat → Addr) (gens : List GenState) (o1 o2 : Obj) (ss : List PySem.Str) (s0 : Shared) (r : Result) (s' : Shared) : Prop :=
  r = .ok (.ret .none) ∧ ∃ us m sl1 sl2 oa ob, SA us ss ∧ Led s' [(A 0, oa), (A 1, ob), (A 2, lstObj us m), (A 7, slO o1 sl1), (A 8, slO o2 sl2)] ∧ s'.gens = gens.toArray ∧ Ch [A 0, A 1, A 2, A 7, A 8] s0 s'
theorem endTurn {w : World} {a b : Bool} {A : Nat → Addr} {d : Dg} {ln : PySem.Str} {o1 o2 : Obj} {us : Array Value} {m : Nat} {s s0 : Shared} {ss : List PySem.Str} (hl : ln.length ≤ 1000000) (hd1 : ∀ vs, o1.data ≠ .fields vs) (hd2 : ∀ vs, o2.data ≠ .fields vs) (htk : d.toks = s.toks) (hC : Frs [A 7, A 8] [(d.D 1).1.env, (d.D 2).1.env]) (hu : SA us ss)
    (S0 : St (wS w a b) d.gens (ledL w.params A d .none ln (ln.length : Nat) o1 o2 us m) s) (C0 : Ch [A 0, A 1, A 2, A 7, A 8] s0 s) :
    wpCode (MM (wS w a b)) (cx (xloop (A 2) (A 3) .none) kI d.D) (ListEnds w a b A d.gens o1 o2 ss s0) d.p s := by
  have hsub : (ledY w.params A d ln (ln.length : Nat) o1 o2).Sublist (ledL w.params A d .none ln (ln.length : Nat) o1 o2 us m) := by
    unfold ledY ledL
    exact List.Sublist.append_left (by simp) _
  have S0a := S0.sub hsub
  have n2 : A 2 ∉ (ledY w.params A d ln (ln.length : Nat) o1 o2).map (·.1) := by
    have nd := S0.nd
    have e : ledL w.params A d .none ln (ln.length : Nat) o1 o2 us m = ledY w.params A d ln (ln.length : Nat) o1 o2 ++ [(A 2, lstObj us m)] := rfl
    rw [e, List.map_append, List.nodup_append] at nd
    exact fun q => nd.2.2 _ q (A 2) (by simp) rfl
  have F := fun ρ => factY w a b (xS s) A d ln (ln.length : Nat) (ln.length : Nat) o1 o2 ρ
  unfold sY cY at F
  rw [htk] at F
  refine sim_goT (xtree_eq _ _ _) (led := ledY w.params A d ln (ln.length : Nat) o1 o2) spY (fun _ => .none) _ [Xnx w.params A d.tk d.u d.tk2 d.u2 ln (ln.length : Nat) o1 o2] ρY _ [0, 1, 2, 3, 4, 5, 6, 7] F S0a.top S0a.led S0a.nd S0a.off S0a.gens (fun ρ => ⟨hC, next_req hl rfl hd1 hd2, fun _ => trivial⟩) ?_
  intro ρ s' p' hI G
  have G1 := G.st (by decide)
  have G2 := G.ch
  clear G F
  refine goes_done ⟨rfl, us, m, (getO (ρ 0).os 0).slots, (getO (ρ 0).os 1).slots, lexD w.params A d.tk d.u .none (.str (S "") ((ρ 0).tk 0)), sioD w.params d.tk2 d.u2 ln (ln.length : Nat) (ρ 0).t, hu, fun y hy => ?_, G1.gens, ?_⟩
  · simp at hy
    rcases hy with rfl | rfl | rfl | rfl | rfl
    · exact G1.led _ List.mem_cons_self
    · exact G1.led _ (List.mem_cons_of_mem _ List.mem_cons_self)
    · exact G2.keep _ _ (S0.led (A 2, lstObj us m) (by simp [ledL])) n2
    · exact G1.led _ (by simp [ledY])
    · exact G1.led _ (by simp [ledY])
  · refine C0.trans (G2.less (L1 := [A 0, A 1, A 7, A 8]) (Rd := [(A 3, lexO A), (A 4, sioO A), (A 5, dqO), (A 6, dqO)]) (fun y hy => S0a.led y (by simp at hy; rcases hy with rfl | rfl | rfl | rfl <;> simp [ledY, ledT])) (fun y hy => G1.led y (by simp at hy; rcases hy with rfl | rfl | rfl | rfl <;> simp [ledY, ledT])) (by simp [ledY, ledT])) (fun q hq => .inl ?_)
    simp at hq
    rcases hq with rfl | rfl | rfl | rfl <;> simp
theorem listLoop {w : World} {a b : Bool} {A : Nat → Addr} {ln : PySem.Str} {o1 o2 : Obj} {s0 : Shared} (hl : ln.length ≤ 1000000) (hd1 : ∀ vs, o1.data ≠ .fields vs) (hd2 : ∀ vs, o2.data ≠ .fields vs) :
    ∀ (js : List Nat) (ss : List PySem.Str) (us : Array Value) (m pos : Nat) (d : Dg) (s : Shared), WordsAt ln.cps.toList pos js → (∀ j ∈ js, j < 9) → us.size + js.length ≤ 900 → SA us ss → d.toks = s.toks → Frs [A 7, A 8] [(d.D 1).1.env, (d.D 2).1.env] →
      St (wS w a b) d.gens (ledL w.params A d (.str (S " ") d.ts) ln (pos : Nat) o1 o2 us m) s → Ch [A 0, A 1, A 2, A 7, A 8] s0 s →
      wpCode (MM (wS w a b)) (cx (xloop (A 2) (A 3) .none) kI d.D) (ListEnds w a b A d.gens o1 o2 (ss ++ js.map word) s0) d.p s
  | [], ss, us, m, pos, d, s, hw, _, _, _, _, _, _, _ => hw.elim
  | [j], ss, us, m, pos, d, s, hw, hj, hz, hu, htk, hC, S0, C0 => by
    refine tokTurn (.inr rfl) hl (gc_l (hj j (by simp)) hw) (by simp at hz; omega) htk S0 fun tt tp ts t p' h' s' S1 C1 => ?_
    have := endTurn (s := { s' with heap := h' }) (s0 := s0) (d := { d with tt := tt, tp := tp, ts := ts, p := p', toks := s'.toks }) hl hd1 hd2 rfl hC (hu.push (word j) t) S1 (C0.trans C1 fun q hq => .inl (by simp at hq; rcases hq with rfl | rfl | rfl <;> simp))
    simpa using this
  | j :: k :: js, ss, us, m, pos, d, s, hw, hj, hz, hu, htk, hC, S0, C0 => by
    refine tokTurn (.inl rfl) hl (gc_w (hj j (by simp)) hw) (by simp at hz; omega) htk S0 fun tt tp ts t p' h' s' S1 C1 => ?_
    have := listLoop (s0 := s0) hl hd1 hd2 (k :: js) (ss ++ [word j]) (us.push (.str (word j) t)) (m + 1) (pos + (qword j).length + 1) { d with tt := tt, tp := tp, ts := ts, p := p', toks := s'.toks } { s' with heap := h' } hw.2.2 (fun i hi => hj i (List.mem_cons_of_mem _ hi)) (by simp at hz ⊢; omega) (hu.push _ _) rfl hC S1 (C0.trans C1 fun q hq => .inl (by simp at hq; rcases hq with rfl | rfl | rfl <;> simp))
    simpa using this
end Split
end Mine
end
noncomputable section
open PySem PySem.W PyProof.Rows
set_option maxRecDepth 100000
set_option maxHeartbeats 4000000
set_option linter.unusedVariables false
namespace Mine
namespace Split
theorem init_req {w : World} {a b : Bool} {A : Nat → Addr} {tk u tk2 u2 : Nat → Nat} {tp t1 t2 : Nat} {js : List Nat} {o1 o2 : Obj} {gens : List GenState} (hj : ∀ j ∈ js, j < 9) (hz : js.length ≤ 900) (hne : js ≠ []) (hl : (Join.line js).length ≤ 1000000) (hd1 : ∀ vs, o1.data ≠ .fields vs) (hd2 : ∀ vs, o2.data ≠ .fields vs) :
    ReqOk (MM (wS w a b)) (topG (wS w a b)) (Xin o1 o2 (A 7) (A 8) (fun us => SA us (js.map word))) ⟨biCode "list.__init__" [.ref (A 2), .ref (A 3)], none, none, none, kI, ledIn w.params A tk u tk2 u2 (Join.line js) tp t1 t2 0 o1 o2, gens⟩ := by
  refine req_ofC rfl fun D p s hC T hL ho nd hg => ?_
  have nd := nd (by show [2, 8, 14, 1, 0, 3, 9, 12, 13].Nodup; decide)
  have hFr : Frs [A 7, A 8] [(D 1).1.env, (D 2).1.env] := hC _ rfl
  have S0 : St (wS w a b) gens (ledIn w.params A tk u tk2 u2 (Join.line js) tp t1 t2 0 o1 o2) s := ⟨T, hL, nd, ho, hg⟩
  simp only [ledIn, List.map_cons, List.map_nil, List.nodup_cons, List.mem_cons, List.not_mem_nil, not_or, or_false, List.nodup_nil, and_true, not_false_eq_true] at nd
  obtain ⟨⟨n01, n02, n07, n08, n03, n04, n05, n06⟩, ⟨n12, n17, n18, n13, n14, n15, n16⟩, ⟨n27, n28, n23, n24, n25, n26⟩, ⟨n78, n73, n74, n75, n76⟩, ⟨n83, n84, n85, n86⟩, ⟨n34, n35, n36⟩, ⟨n45, n46⟩, n56⟩ := nd
  let d : Di := ⟨tk, u, tk2, u2, t1, t2, tp, Join.line js, D, p, s.toks, gens⟩
  have sub : ∀ m (s : Shared), Led s (ledIn w.params A tk u tk2 u2 (Join.line js) tp t1 t2 m o1 o2) → Led s (ledI w.params A d m) := fun m s h y hy => h y (by simp [ledI, ledIn] at hy ⊢; rcases hy with rfl | rfl | rfl | rfl | rfl | rfl | rfl <;> simp [d])
  have offI : ∀ m, Off (topG (wS w a b)) (ledI w.params A d m) := by
    intro m y hy
    have := S0.off
    simp [ledI] at hy
    rcases hy with rfl | rfl | rfl | rfl | rfl | rfl | rfl
    · exact this _ List.mem_cons_self
    · exact this (A 1, sioD w.params tk2 u2 (Join.line js) 0 tp) (by simp [ledIn])
    · exact this (A 2, lstObj #[] 0) (by simp [ledIn])
    · exact this (A 3, lexO A) (by simp [ledIn])
    · exact this (A 4, sioO A) (by simp [ledIn])
    · exact this (A 5, dqO) (by simp [ledIn])
    · exact this (A 6, dqO) (by simp [ledIn])
  have ndI : ∀ m, ((ledI w.params A d m).map (·.1)).Nodup := by
    intro m
    simp [ledI, n01, n02, n03, n04, n05, n06, n12, n13, n14, n15, n16, n23, n24, n25, n26, n34, n35, n36, n45, n46, n56]
  refine sim_go (led := ledI w.params A d 0) spG (fun _ => .none) [] [] (cEp []) _ [0, 1, 2, 3, 4, 5, 6] (fun ρ => factI w a b (xS s) A d ρ) T (sub 0 s hL) (ndI 0) (offI 0) hg (fun ρ => trivial) ?_
  intro ρ s1 p1 _ F1
  have C1 : Ch [] s s1 := F1.ch.less (Rd := ledI w.params A d 0) (sub 0 s hL) F1.led (fun q hq => .inr hq)
  refine goes_again (plainId_quiet (by decide +kernel) _) ?_
  refine sim_goT (Γ := cx (.builtin "list.__init__" ⟨[.ref (A 2), .ref (A 3)], []⟩) kI D) (init_eq n23) (led := ledI w.params A { d with p := p1, toks := s1.toks } 0) spG (fun _ => .none) [] [] (cEp []) _ [0, 1, 2, 3, 4, 5, 6] (fun ρ => factJ w a b (xS s1) A { d with p := p1, toks := s1.toks } ρ) F1.top F1.led (ndI 0) (offI 0) F1.gens (fun ρ => trivial) ?_
  intro ρ s2 p2 _ F2
  have C2 : Ch [A 2] s1 s2 := F2.ch.less (Rd := [(A 0, lexD w.params A tk u (.str (S " ") t1) (.str (S "") t2)), (A 1, sioD w.params tk2 u2 (Join.line js) 0 tp), (A 3, lexO A), (A 4, sioO A), (A 5, dqO), (A 6, dqO)]) (fun y hy => F1.led y (by simp at hy; rcases hy with rfl | rfl | rfl | rfl | rfl | rfl <;> simp [ledI, d])) (fun y hy => F2.led y (by simp at hy; rcases hy with rfl | rfl | rfl | rfl | rfl | rfl <;> simp [ledI, d])) (by simp [ledI])
  have C12 : Ch [A 2] s s2 := (C1.mono (fun q hq => nomatch hq)).trans C2 (fun q hq => .inl hq)
  refine goes_again (plainId_quiet PySem.F.plain_extend_loop _) ?_
  let e : Dg := ⟨tk, u, tk2, u2, t1, t2, tp, D, p2, s2.toks, gens⟩
  have L2 : Led s2 (ledL w.params A e (.str (S " ") t1) (Join.line js) ((0 : Nat) : Int) o1 o2 #[] 2) := by
    intro y hy
    simp [ledL, ledT] at hy
    rcases hy with rfl | rfl | rfl | rfl | rfl | rfl | rfl | rfl | rfl
    · exact F2.led _ List.mem_cons_self
    · exact F2.led (A 1, sioD w.params tk2 u2 (Join.line js) 0 tp) (by simp [ledI, d])
    · exact F2.led (A 3, lexO A) (by simp [ledI])
    · exact F2.led (A 4, sioO A) (by simp [ledI])
    · exact F2.led (A 5, dqO) (by simp [ledI])
    · exact F2.led (A 6, dqO) (by simp [ledI])
    · exact C12.keep _ _ (hL (A 7, o1) (by simp [ledIn])) (by simp [Ne.symm n27])
    · exact C12.keep _ _ (hL (A 8, o2) (by simp [ledIn])) (by simp [Ne.symm n28])
    · exact F2.led (A 2, lstObj #[] 2) (by simp [ledI])
  have S2 : St (wS w a b) gens (ledL w.params A e (.str (S " ") t1) (Join.line js) ((0 : Nat) : Int) o1 o2 #[] 2) s2 := by
    refine ⟨F2.top, L2, ?_, fun y hy => ?_, F2.gens⟩
    · simp [ledL, ledT, n01, n02, n03, n04, n05, n06, n07, n08, n12, n13, n14, n15, n16, n17, n18, n34, n35, n36, n45, n46, n56, n78, Ne.symm n23, Ne.symm n24, Ne.symm n25, Ne.symm n26, Ne.symm n27, Ne.symm n28, Ne.symm n73, Ne.symm n74, Ne.symm n75, Ne.symm n76, Ne.symm n83, Ne.symm n84, Ne.symm n85, Ne.symm n86]
    · simp [ledL, ledT] at hy
      rcases hy with rfl | rfl | rfl | rfl | rfl | rfl | rfl | rfl | rfl
      · exact offI 0 _ List.mem_cons_self
      · exact offI 0 (A 1, sioD w.params tk2 u2 (Join.line js) 0 tp) (by simp [ledI, d])
      · exact offI 0 (A 3, lexO A) (by simp [ledI])
      · exact offI 0 (A 4, sioO A) (by simp [ledI])
      · exact offI 0 (A 5, dqO) (by simp [ledI])
      · exact offI 0 (A 6, dqO) (by simp [ledI])
      · exact S0.off (A 7, o1) (by simp [ledIn])
      · exact S0.off (A 8, o2) (by simp [ledIn])
      · exact offI 0 (A 2, lstObj #[] 0) (by simp [ledI])
  have hw := words_line js [] hne
  refine wpCode_mono ?_ (listLoop (s0 := s) hl hd1 hd2 js [] #[] 2 0 e s2 (by simpa using hw) hj (by simp; omega) SA.nil rfl hFr S2 (C12.mono (fun q hq => by simp at hq; subst hq; simp)))
  rintro r s' ⟨rfl, us, m, sl1, sl2, oa, ob, h1, h2, h3, h4⟩
  refine ⟨⟨xS s', s'.toks, m, 0, .none, us, default, [oa, ob, slO o1 sl1, slO o2 sl2], fun _ => 0⟩, rfl, rfl, (by rw [List.nil_append] at h1; exact h1), rfl, ?_, fun y hy => (nomatch hy), List.nodup_nil, fun y hy => (nomatch hy), ?_, h3⟩
  · exact ⟨h2 (A 0, oa) (by simp), h2 (A 1, ob) (by simp), h2 (A 2, lstObj us m) (by simp), h2 (A 7, slO o1 sl1) (by simp), h2 (A 8, slO o2 sl2) (by simp), trivial⟩
  · exact h4
/-- split by its contract: the caller's frame gets its slots -/
noncomputable def Xsplit (iF : Nat) (F : Addr) (o2 : Obj) (I : Array Value → Prop) : Xs := ⟨[iF], fun ρ _ => (.ok (.ret (.ref ρ.n)), [slO o2 ρ.o.slots], [(ρ.n, lstObj ρ.vs ρ.t)]), id, fun ρ => I ρ.vs, some (Frs [F])⟩
theorem req {w : World} {a b : Bool} {F : Addr} {t iF : Nat} {js : List Nat} {o2 : Obj} {gens : List GenState} (hj : ∀ j ∈ js, j < 9) (hz : js.length ≤ 900) (hne : js ≠ []) (hl : (Join.line js).length ≤ 1000000) (hd2 : ∀ vs, o2.data ≠ .fields vs) :
    ReqOk (MM (wS w a b)) (topG (wS w a b)) (Xsplit iF F o2 (fun us => SA us (js.map word))) ⟨callCode 771 [.str (Join.line js) t], none, none, none, ks, [(F, o2)], gens⟩ := by
  refine req_ofC rfl fun D p s hC T hL ho nd hg => ?_
  have hFr : Frs [F] [(D 0).1.env] := hC _ rfl
  refine sim_go (led := [(F, o2)]) spA (fun _ => .none) _ [Xin (spF w.params (xS s) (Join.line js) t (tkF s.toks)) o2 (xS s 0) F (fun us => SA us (js.map word))] (cEp []) _ [14, 0] (fun ρ => factS w a b (xS s) ⟨Join.line js, t, D, p, s.toks, gens⟩ F o2 (fun us => SA us (js.map word)) ρ) T hL (by simp) ho hg (fun ρ => ⟨?_, ?_, fun _ => trivial⟩) ?_
  · refine ⟨?_, ?_⟩
    · have := hFr.1
      simp at this
      show [some (xS s 0), (D 0).1.env.frame] = [some (xS s 0), some F]
      rw [this]
    · intro en hen
      simp at hen
      rcases hen with rfl | rfl
      · exact (by decide +kernel : (fScope [27]).kind ≠ .module)
      · exact hFr.2 _ (by simp)
  · exact init_req (A := AS (xS s) F) hj hz hne hl (fun vs h => by cases h) hd2
  · intro ρ s' p' hI G
    have G1 := G.led
    have G2 := G.ch
    have G3 := G.gens
    have G4 := G.new
    refine goes_done ⟨⟨xS s', s'.toks, (ρ 0).t, xS s 13, .none, (ρ 0).vs, getO (ρ 0).os 3, [], fun _ => 0⟩, rfl, rfl, hI.1, rfl, ⟨G1 (F, slO o2 (getO (ρ 0).os 3).slots) (by simp), trivial⟩, ?_, by simp [Xsplit], ?_, ?_, G3⟩
    · intro y hy
      simp [Xsplit] at hy
      subst hy
      exact G1 (xS s 13, lstObj (ρ 0).vs (ρ 0).t) (by simp)
    · intro y hy
      simp [Xsplit] at hy
      subst hy
      exact Nat.le_add_right _ _
    · exact G2
end Split
end Mine
end
noncomputable section
open PySem PySem.W PyProof.Rows
set_option maxRecDepth 100000
set_option maxHeartbeats 4000000
set_option linter.unusedVariables false
namespace Mine
namespace Wd
open Join (XstrS XPost.str)
noncomputable def kW : List Kd := [.fr, .fn, .fn, .bi "claim.caller"]
noncomputable def sp : Sp := ⟨⟨false, true⟩, [], [], false, 0⟩
noncomputable def sW (w : World) (x : Nat → Addr) (k tk : Nat) (D : Nat → CD × Pos) (p : Pos) (toks : Nat) (gens : List GenState) (ρ : Nat → Ep) : Out2 :=
  sim sp w x (fun _ => .none) [] [] (cEp []) (conf (cx (callCode 807 [.int k tk]) kW D) p [] toks gens) (conf (cx (callCode 807 [.int k tk]) kW D) p [] toks gens) ρ
theorem fact (w : World) (a b : Bool) (x : Nat → Addr) (k : Nat) (hk : k < 9) (tk : Nat) (D : Nat → CD × Pos) (p : Pos) (toks : Nat) (gens : List GenState) (ρ : Nat → Ep) :
    proj [] (sW (wS w a b) x k tk D p toks gens ρ) = want (sW (wS w a b) x k tk D p toks gens ρ) [] [] gens (.pure (.done (.ret (.str (word k) (retTk (sW (wS w a b) x k tk D p toks gens ρ)))))) (Join.codeO (sW (wS w a b) x k tk D p toks gens ρ)) := by
  match k, hk with
  | 0, _ => cases a <;> kernel_rfl
  | 1, _ => cases a <;> kernel_rfl
  | 2, _ => cases a <;> kernel_rfl
  | 3, _ => cases a <;> kernel_rfl
  | 4, _ => cases a <;> kernel_rfl
  | 5, _ => cases a <;> kernel_rfl
  | 6, _ => cases a <;> kernel_rfl
  | 7, _ => cases a <;> kernel_rfl
  | 8, _ => cases a <;> kernel_rfl
theorem req {w : World} {a b : Bool} {k tk : Nat} {gens : List GenState} (hk : k < 9) : ReqOk (MM (wS w a b)) (topG (wS w a b)) (XstrS [] (word k)) ⟨callCode 807 [.int k tk], none, none, none, kW, [], gens⟩ := by
  refine req_of rfl fun D p s T hL ho nd hg => ?_
  refine sim_go (led := []) sp (fun _ => .none) [] [] (cEp []) _ [] (fun ρ => fact w a b (xS s) k hk tk D p s.toks gens ρ) T hL (by simp) ho hg (fun ρ => trivial) ?_
  intro ρ s' p' hI F
  exact goes_done (XPost.val _ 0 .none #[] trivial rfl (F.ch) F.gens)
end Wd
end Mine
end
noncomputable section
open PySem PySem.W PyProof.Rows
set_option maxRecDepth 100000
set_option maxHeartbeats 4000000
set_option linter.unusedVariables false
namespace Mine
namespace Street
noncomputable def C : CX := cxOf (atE (nthS (fBody [37]) 1) [1])
noncomputable def fn (A : Nat → Addr) : Env := fenv 37 "_law_street" 812 811 (A 4) []
noncomputable def env (A : Nat → Addr) : Env := cenv C (fn A) (A 2) []
structure Dt where
  vs : Array Value
  n : Nat
  i : Int
  us : Array Value
  m : Nat
  tk : Nat → Nat
  y : Value
  tv : Nat
  D : Nat → CD × Pos
  p : Pos
  toks : Nat
  gens : List GenState
noncomputable def led (P : Params) (A : Nat → Addr) (d : Dt) (nb : Bool) : List (Addr × Obj) := cled P "x" A d.vs d.n d.i d.us d.m nb d.tk d.y []
noncomputable def ks : List Kd := [.fn, .fn, .bi "claim.caller"]
noncomputable def cT (P : Params) (A : Nat → Addr) (d : Dt) (nb : Bool) : Conf := conf (cx (cloop C (A 0) (A 1) (env A)) ks d.D) d.p (led P A d nb) d.toks d.gens
noncomputable def sT (w : World) (x A : Nat → Addr) (d : Dt) (nb : Bool) (v : Int) (ρ : Nat → Ep) : Out2 :=
  sim sp0 w x (fun _ => .int v d.tv) [] [] (cEp []) (cT w.params (fun j => 4000 + j) { d with vs := #[.int 3 0], n := 0, i := 0 } nb) (cT w.params A d nb) ρ
noncomputable def tq (d : Dt) (nb : Bool) : Nat := match nb with
  | true => d.toks + 2
  | false => d.toks + 2
theorem factT (w : World) (a b nb : Bool) (x A : Nat → Addr) (d : Dt) (v : Int) (ρ : Nat → Ep) :
    proj [0, 1, 2, 3] (sT (wS w a b) x A d nb v ρ) =
    want (sT (wS w a b) x A d nb v ρ) [.p (NextP (iterObj (.ref (A 3)) d.i) (lstObj d.vs d.n) (A 3) (.int v d.tv)), .p (PushP (lstObj d.us d.m))]
      (led w.params A { d with i := d.i + 1, us := d.us.push (.int (v.fmod 9) (tq d nb)), m := d.m + 1, tk := tks (sT (wS w a b) x A d nb v ρ) 2, y := .int v d.tv } false) d.gens
      (.pure (.again (cloop C (A 0) (A 1) (env A)))) (cx (cloop C (A 0) (A 1) (env A)) ks d.D) := by
  cases nb <;> cases a <;> kernel_rfl
theorem comp {w : World} {a b : Bool} {A : Nat → Addr} {D : Nat → CD × Pos} {vs : Array Value} {n : Nat} {gens : List GenState} {ns : List Int} (hv : IA vs ns) (hz : ns.length ≤ 1000) {tk : Nat → Nat} {y : Value} {p : Pos} {s : Shared}
    (S0 : St (wS w a b) gens (cled w.params "x" A vs n 0 #[] 0 true tk y []) s) :
    wpCode (MM (wS w a b)) (cx (cstart C (A 0) (A 1) (env A)) ks D) (fun r s' => r = .ok .next ∧ ∃ us o0 tk y, IA us (ns.map fun v => v.fmod 9) ∧
      St (wS w a b) gens ((A 0, o0) :: (A 1, lstObj us us.size) :: (A 2, dcN w.params "x" (decide (vs.size = 0)) tk y) :: (A 3, lstObj vs n) :: []) s' ∧ Ch [A 0, A 1, A 2] s s') p s := by
  refine wpCode_mono ?_ (comp_ok (tn := "x") (fun i us => IA us ((ns.take i).map fun v => v.fmod 9)) IA.nil ?_ S0)
  · rintro r s' ⟨rfl, us, o0, tk, y, h1, _, h2, h3⟩
    refine ⟨rfl, us, o0, tk, y, ?_, h2, h3⟩
    rw [hv.size, List.take_length] at h1
    exact h1
  · intro i us nb tk y p s R hi hP hz' S next
    rw [hv.size] at hi
    obtain ⟨tv, hx⟩ := hv.get hi
    refine sim_go (led := led w.params A ⟨vs, n, i, us, us.size, tk, y, tv, D, p, s.toks, gens⟩ nb) sp0 (fun _ => .int ns[i]! tv) [] [] (cEp []) _ [0, 1, 2, 3]
      (fun ρ => factT w a b nb (xS s) A ⟨vs, n, i, us, us.size, tk, y, tv, D, p, s.toks, gens⟩ ns[i]! ρ) S.top S.led S.nd S.off S.gens (fun ρ => ⟨⟨vs, n, none, #[], rfl, rfl, ?_⟩, ⟨us, us.size, rfl, ?_⟩, trivial⟩) ?_
    · show vs[((i : Int)).toNat]? = some _
      rw [Int.toNat_natCast]; exact hx
    · rw [sizeLine_eq]; omega
    · intro ρ s' p' hI F
      refine goes_again rfl ?_
      refine next _ _ _ _ p' s' (F.st (by decide)) (by simp) ?_ (by simp; omega) ?_
      · rw [List.take_add_one, List.map_append]
        have e : ns[i]? = some ns[i]! := by simp [hi]
        rw [e]
        exact hP.push _ _
      · refine F.ch.less (Rd := [(A 3, lstObj vs n)]) (fun y hy => S.led y ?_) (fun y hy => F.led y ?_) ?_
        · simp at hy; subst hy; simp [cled]
        · simp at hy; subst hy; simp [led, cled]
        · intro q hq; simp [led, cled] at hq; rcases hq with rfl | rfl | rfl | rfl <;> simp
end Street
end Mine
end
noncomputable section
open PySem PySem.W PyProof.Rows
set_option maxRecDepth 100000
set_option maxHeartbeats 4000000
set_option linter.unusedVariables false
namespace Mine
/-- a new list -/
noncomputable def Xlist (sel : List Nat) (I : Array Value → Prop) : Xs := ⟨sel, fun ρ _ => (.ok (.ret (.ref ρ.n)), [], [(ρ.n, lstObj ρ.vs ρ.t)]), id, fun ρ => I ρ.vs, none⟩
theorem XPost.list {sel : List Nat} {I : Array Value → Prop} {v : View} {s s' : Shared} {n t : Nat} {vs : Array Value} (hI : I vs) (hn : s'.heap.get? n = some (lstObj vs t)) (hi : s.heap.objs.size ≤ n) (hc : Ch [] s s') (hg : s'.gens = v.gens.toArray) : ∃ ρ, XPost (Xlist sel I) v s ρ (.ok (.ret (.ref n))) s' :=
  ⟨⟨xS s', s'.toks, t, n, .none, vs, default, [], fun _ => 0⟩, rfl, rfl, hI, rfl, by cases v.sel <;> trivial, fun y hy => by simp [Xlist] at hy; subst hy; exact hn, by simp [Xlist], fun y hy => by simp [Xlist] at hy; subst hy; exact hi, hc.mono (fun b hb => nomatch hb), hg⟩
theorem addl_req {w : World} {l r : Addr} {xs ys : Array Value} {n m i j : Nat} {hd own past : Option Value} {ks : List Kd} {gens : List GenState} (hz : xs.size + ys.size ≤ 1000) :
    ReqOk (MM w) (topG w) (Xlist [i, j] (fun vs => vs = xs ++ ys)) ⟨biCode "list.__add__" [.ref l, .ref r], hd, own, past, ks, [(l, lstObj xs n), (r, lstObj ys m)], gens⟩ := by
  intro Γ p s hΓ T hL ho nd hg
  have h1 := hL (l, lstObj xs n) (by simp)
  have h2 := hL (r, lstObj ys m) (by simp)
  refine lib_code hΓ.at_ hΓ.code fun A _ _ _ => call_meets F.slot_list_add ⟨_, h1, rfl⟩ F.entry_list_add (F.args_list_add_2 _ _) (AutoSeq1.list___add___list_list_0 l xs n r ys m (by rw [sizeLine_eq]; omega)) ⟨h1, h2, ?_⟩
  exact XPost.list rfl (Heap.get?_push_size _ rfl) (Nat.le_refl _) ⟨fun b o e _ => Heap.get?_push_of_some _ e, by rw [Heap.size_push]; omega, rfl, rfl⟩ hg
end Mine
end
noncomputable section
open PySem PySem.W PyProof.Rows
set_option maxRecDepth 100000
set_option maxHeartbeats 4000000
set_option linter.unusedVariables false
namespace Mine
noncomputable def isText (x : PySem.Str) (v : Value) : Bool := match v with
  | .str y _ => y == x
  | _ => false
theorem SA.any {vs : Array Value} {ss : List PySem.Str} (h : SA vs ss) (x : PySem.Str) : vs.any (isText x) = ss.any (· == x) := by
  rw [← Array.any_toList]
  unfold SA at h
  generalize vs.toList = l at h
  induction h with
  | nil => rfl
  | cons y u h ih => simp only [List.any_cons, ih]; rfl
noncomputable def XboolS (sel : List Nat) (c : Bool) : Xs := Xval sel (fun _ => .bool c) (fun _ => True)
theorem inTexts_req {w : World} {l : Addr} {vs : Array Value} {n i t : Nat} {ss : List PySem.Str} {x : PySem.Str} {hd own past : Option Value} {ks : List Kd} {gens : List GenState} (hv : SA vs ss) :
    ReqOk (MM w) (topG w) (XboolS [i] (ss.any (· == x))) ⟨biCode "list.__contains__" [.ref l, .str x t], hd, own, past, ks, [(l, lstObj vs n)], gens⟩ := by
  intro Γ p s hΓ T hL ho nd hg
  have h1 := hL (l, lstObj vs n) (by simp)
  refine lib_code hΓ.at_ hΓ.code fun A _ _ _ => call_meets slot_list_contains ⟨_, h1, rfl⟩ entry_list_contains (args_list_contains _ _) (MeetsSeq.list_contains l vs n (.str x t) (isText x) fun y hy => ?_) ⟨h1, ?_⟩
  · obtain ⟨z, u, rfl⟩ := PyProof.Rows.StrsAre.all hv y (by simpa using hy)
    exact eqGives_str z x u t
  · rw [hv.any x]
    exact XPost.val 0 0 .none #[] trivial rfl (Ch.refl _ _) hg
end Mine
end
noncomputable section
open PySem PySem.W PyProof.Rows
set_option maxRecDepth 100000
set_option maxHeartbeats 4000000
set_option linter.unusedVariables false
namespace Mine
noncomputable def floop (s : Stmt) (it : Addr) (env : Env) : Code := .forLoop (stT s) (.ref it) (stB s) [] env
namespace Street
open Join (XstrS XPost.str)
open Wd (kW)
/-- the loop: iterator, frame, street, items, draws -/
noncomputable def envF (A : Nat → Addr) : Env := fenv 37 "_law_street" 812 811 (A 1) []
structure Df where
  vs : Array Value
  n : Nat
  i : Int
  us : Array Value
  m : Nat
  tk : Nat → Nat
  y : Value
  tv : Nat
  D : Nat → CD × Pos
  p : Pos
  toks : Nat
  gens : List GenState
noncomputable def frF (P : Params) (A : Nat → Addr) (nb : Bool) (tk : Nat → Nat) (y : Value) : Obj := match nb with
  | true => frO P [("draws", .ref (A 4)), ("street", .ref (A 2))] tk 2
  | false => frO P [("draws", .ref (A 4)), ("street", .ref (A 2)), ("n", y)] tk 3
noncomputable def ledF (P : Params) (A : Nat → Addr) (d : Df) (nb : Bool) : List (Addr × Obj) := [(A 0, iterObj (.ref (A 3)) d.i), (A 1, frF P A nb d.tk d.y), (A 2, lstObj d.us d.m), (A 3, lstObj d.vs d.n)]
noncomputable def cF (P : Params) (A : Nat → Addr) (d : Df) (nb : Bool) : Conf := conf (cx (floop (nthS (fBody [37]) 1) (A 0) (envF A)) ks d.D) d.p (ledF P A d nb) d.toks d.gens
noncomputable def spF : Sp := ⟨⟨false, true⟩, ["list.__contains__"], [807], true, 0⟩
noncomputable def xsF (k : Nat) (c : Bool) : List Xs := match c with
  | true => [XstrS [] (word k), XboolS [2] true]
  | false => [XstrS [] (word k), XboolS [2] false, XstrS [] (word k)]
noncomputable def sF (w : World) (x A : Nat → Addr) (d : Df) (nb : Bool) (k : Nat) (c : Bool) (ρ : Nat → Ep) : Out2 :=
  sim spF w x (fun _ => .int k d.tv) (xsF k c) (xsF k c) (cEp []) (cF w.params (fun j => 4000 + j) { d with vs := #[.int 3 0], n := 0, i := 0 } nb) (cF w.params A d nb) ρ
noncomputable def prF (A : Nat → Addr) (d : Df) (k : Nat) (c : Bool) (ρ : Nat → Ep) : List Ob :=
  [.p (NextP (iterObj (.ref (A 3)) d.i) (lstObj d.vs d.n) (A 3) (.int k d.tv)), .x ⟨callCode 807 [.int k d.tv], none, none, none, kW, [], d.gens⟩,
   .x ⟨biCode "list.__contains__" [.ref (A 2), .str (word k) (ρ 0).t], none, none, none, kW, [(A 2, lstObj d.us d.m)], d.gens⟩] ++
  match c with
  | true => []
  | false => [.x ⟨callCode 807 [.int k d.tv], none, none, none, kW, [], d.gens⟩, .p (PushP (lstObj d.us d.m))]
noncomputable def Df.next (d : Df) (k : Nat) (c : Bool) (tk : Nat → Nat) (ρ : Nat → Ep) : Df := match c with
  | true => { d with i := d.i + 1, tk := tk, y := .int k d.tv }
  | false => { d with i := d.i + 1, tk := tk, y := .int k d.tv, us := d.us.push (.str (word k) (ρ 2).t), m := d.m + 1 }
theorem factF (w : World) (a b nb c : Bool) (x A : Nat → Addr) (d : Df) (k : Nat) (ρ : Nat → Ep) :
    proj [0, 1, 2, 3] (sF (wS w a b) x A d nb k c ρ) =
    want (sF (wS w a b) x A d nb k c ρ) (prF A d k c ρ)
      (ledF w.params A (d.next k c (tks (sF (wS w a b) x A d nb k c ρ) 1) ρ) false) d.gens
      (.pure (.again (floop (nthS (fBody [37]) 1) (A 0) (envF A)))) (cx (floop (nthS (fBody [37]) 1) (A 0) (envF A)) ks d.D) := by
  cases nb <;> cases c <;> cases a <;> kernel_rfl
end Street
end Mine
end
noncomputable section
open PySem PySem.W PyProof.Rows
set_option maxRecDepth 100000
set_option maxHeartbeats 4000000
set_option linter.unusedVariables false
namespace Mine
/-- each where it comes first -/
noncomputable def dstep (js : List Nat) (k : Nat) : List Nat := if js.contains k then js else js ++ [k]
noncomputable def ded (ks : List Nat) : List Nat := ks.foldl dstep []
theorem ded_snoc (ks : List Nat) (k : Nat) : ded (ks ++ [k]) = dstep (ded ks) k := by unfold ded; rw [List.foldl_append]; rfl
theorem dstep_sub {js : List Nat} {k j : Nat} (h : j ∈ dstep js k) : j ∈ js ∨ j = k := by
  unfold dstep at h
  split at h
  · exact .inl h
  · simpa using h
theorem ded_sub {ks : List Nat} : ∀ j ∈ ded ks, j ∈ ks := by
  have key : ∀ (ks js : List Nat) (j : Nat), j ∈ ks.foldl dstep js → j ∈ js ∨ j ∈ ks := by
    intro ks
    induction ks with
    | nil => intro js j h; exact .inl h
    | cons k ks ih =>
      intro js j h
      rcases ih _ j h with h | h
      · rcases dstep_sub h with h | h
        · exact .inl h
        · exact .inr (by simp [h])
      · exact .inr (List.mem_cons_of_mem _ h)
  intro j h
  rcases key ks [] j h with h | h
  · cases h
  · exact h
theorem ded_len (ks : List Nat) : (ded ks).length ≤ ks.length := by
  have key : ∀ (ks js : List Nat), (ks.foldl dstep js).length ≤ js.length + ks.length := by
    intro ks
    induction ks with
    | nil => intro js; simp
    | cons k ks ih =>
      intro js
      have h1 := ih (dstep js k)
      have h2 : (dstep js k).length ≤ js.length + 1 := by unfold dstep; split <;> simp
      simp only [List.foldl_cons, List.length_cons]
      omega
  have := key ks []
  simpa [ded] using this
theorem word_beq : ∀ j, j < 9 → ∀ k, k < 9 → (word j == word k) = (j == k) := by decide +kernel
theorem any_word {js : List Nat} (hj : ∀ j ∈ js, j < 9) {k : Nat} (hk : k < 9) : (js.map word).any (· == word k) = js.contains k := by
  induction js with
  | nil => rfl
  | cons j js ih =>
    rw [List.map_cons, List.any_cons, ih (fun i hi => hj i (List.mem_cons_of_mem _ hi)), word_beq j (hj j List.mem_cons_self) k hk, List.contains_cons]
    congr 1
    exact Bool.eq_iff_iff.mpr (by simp only [beq_iff_eq]; exact eq_comm)
/-- ints that are naturals -/
noncomputable def nI (ks : List Nat) : List Int := ks.map Int.ofNat
namespace Street
open Join (XstrS XPost.str)
open Wd (kW)
theorem factE (w : World) (a b : Bool) (x A : Nat → Addr) (d : Df) (ρ : Nat → Ep) :
    proj [0, 1, 2, 3] (sim spF (wS w a b) x (fun _ => .none) [] [] (cEp []) (cF w.params (fun j => 4000 + j) { d with vs := #[], n := 0, i := 0 } false) (cF w.params A d false) ρ) =
    want (sim spF (wS w a b) x (fun _ => .none) [] [] (cEp []) (cF w.params (fun j => 4000 + j) { d with vs := #[], n := 0, i := 0 } false) (cF w.params A d false) ρ) [.p (EndP (iterObj (.ref (A 3)) d.i) (lstObj d.vs d.n) (A 3))]
      [(A 0, iterObj .none d.i), (A 1, frF w.params A false d.tk d.y), (A 2, lstObj d.us d.m), (A 3, lstObj d.vs d.n)] d.gens
      (.pure (.done .next)) (cx (.block [] (envF A)) ks d.D) := by
  cases a <;> kernel_rfl
theorem loop {w : World} {a b : Bool} {A : Nat → Addr} {D : Nat → CD × Pos} {vs : Array Value} {n : Nat} {gens : List GenState} {js : List Nat} (hv : IA vs (nI js)) (hj : ∀ j ∈ js, j < 9) (hz : js.length ≤ 1000) (hne : js ≠ []) {tk : Nat → Nat} {p : Pos} {s : Shared}
    (S0 : St (wS w a b) gens [(A 0, iterObj (.ref (A 3)) 0), (A 1, frF w.params A true tk .none), (A 2, lstObj #[] 0), (A 3, lstObj vs n)] s) :
    wpCode (MM (wS w a b)) (cx (floop (nthS (fBody [37]) 1) (A 0) (envF A)) ks D) (fun r s' => r = .ok .next ∧ ∃ us m o0 tk y, SA us ((ded js).map word) ∧
      St (wS w a b) gens [(A 0, o0), (A 1, frF w.params A false tk y), (A 2, lstObj us m), (A 3, lstObj vs n)] s' ∧ Ch [A 0, A 1, A 2] s s') p s := by
  have hlen : vs.size = js.length := by rw [hv.size, nI, List.length_map]
  refine loop_ind (Γ := cx (floop (nthS (fBody [37]) 1) (A 0) (envF A)) ks D) js.length (fun i s' => ∃ us m nb tk y, nb = decide (i = 0) ∧ SA us ((ded (js.take i)).map word) ∧
    St (wS w a b) gens [(A 0, iterObj (.ref (A 3)) (i : Nat)), (A 1, frF w.params A nb tk y), (A 2, lstObj us m), (A 3, lstObj vs n)] s' ∧ Ch [A 0, A 1, A 2] s s') ?_ ?_ p s
    ⟨#[], 0, true, tk, .none, rfl, SA.nil, S0, Ch.refl _ _⟩
  · rintro i hi p s1 ⟨us, m, nb, tk, y, rfl, hus, S1, C1⟩ next
    have hji : js[i]? = some js[i] := List.getElem?_eq_getElem hi
    generalize js[i] = k at hji
    have hk : k < 9 := hj k (List.mem_of_getElem? hji)
    obtain ⟨tv, hx⟩ : ∃ tv, vs[i]? = some (.int k tv) := by
      obtain ⟨t, e⟩ := hv.get (i := i) (by rw [nI, List.length_map]; exact hi)
      refine ⟨t, ?_⟩
      rw [e]
      have : (nI js)[i]! = (k : Int) := by simp [nI, hji]
      rw [this]
    have hsub : ∀ j ∈ ded (js.take i), j < 9 := fun j h => hj j (List.mem_of_mem_take (ded_sub j h))
    have hded : ded (js.take (i + 1)) = dstep (ded (js.take i)) k := by
      rw [List.take_add_one, hji]
      exact ded_snoc _ _
    have hl : us.size ≤ 900 → True := fun _ => trivial
    have hsz : us.size ≤ js.length := by
      rw [hus.size, List.length_map]
      exact Nat.le_trans (ded_len _) (by simp; omega)
    obtain ⟨c, hc⟩ : ∃ c, (ded (js.take i)).contains k = c := ⟨_, rfl⟩
    have hany : ((ded (js.take i)).map word).any (· == word k) = c := by rw [any_word hsub hk, hc]
    refine sim_go (led := ledF w.params A ⟨vs, n, i, us, m, tk, y, tv, D, p, s1.toks, gens⟩ (decide (i = 0))) spF (fun _ => .int k tv) (xsF k c) (xsF k c) (cEp []) _ [0, 1, 2, 3]
      (fun ρ => factF w a b (decide (i = 0)) c (xS s1) A ⟨vs, n, i, us, m, tk, y, tv, D, p, s1.toks, gens⟩ k ρ) S1.top S1.led S1.nd S1.off S1.gens ?_ ?_
    · intro ρ
      have h1 : NextP (iterObj (.ref (A 3)) (i : Nat)) (lstObj vs n) (A 3) (.int k tv) := ⟨vs, n, none, #[], rfl, rfl, by
        show vs[((i : Int)).toNat]? = some _
        rw [Int.toNat_natCast]; exact hx⟩
      have h3 : PushP (lstObj us m) := ⟨us, m, rfl, by rw [sizeLine_eq]; omega⟩
      cases c
      · exact ⟨h1, Wd.req hk, fun _ => ⟨hany ▸ inTexts_req hus, fun _ => ⟨Wd.req hk, fun _ => ⟨h3, trivial⟩⟩⟩⟩
      · exact ⟨h1, Wd.req hk, fun _ => ⟨hany ▸ inTexts_req hus, fun _ => trivial⟩⟩
    · intro ρ s' p' hI F
      refine goes_again rfl ?_
      have hch : Ch [A 0, A 1, A 2] s s' := by
        refine C1.trans (F.ch.less (L1 := [A 0, A 1, A 2]) (Rd := [(A 3, lstObj vs n)]) (fun y hy => S1.led y ?_) (fun y hy => F.led y ?_) ?_) (fun b hb => .inl hb)
        · simp at hy; subst hy; simp
        · cases c <;> (simp at hy; subst hy; simp [ledF, Df.next])
        · intro q hq; simp [ledF] at hq; rcases hq with rfl | rfl | rfl | rfl <;> simp
      cases c
      · refine next p' s' ⟨us.push (.str (word k) (ρ 2).t), m + 1, false, _, _, by simp, ?_, F.st (by decide), hch⟩
        have : dstep (ded (js.take i)) k = ded (js.take i) ++ [k] := by unfold dstep; rw [hc]; rfl
        rw [hded, this, List.map_append]
        exact hus.push _ _
      · refine next p' s' ⟨us, m, false, _, _, by simp, ?_, F.st (by decide), hch⟩
        have : dstep (ded (js.take i)) k = ded (js.take i) := by unfold dstep; rw [hc]; rfl
        rw [hded, this]
        exact hus
  · rintro p s1 ⟨us, m, nb, tk, y, rfl, hus, S1, C1⟩
    have hpos : js.length ≠ 0 := fun q => hne (List.length_eq_zero_iff.mp q)
    rw [decide_eq_false hpos] at S1
    refine sim_go (led := ledF w.params A ⟨vs, n, (js.length : Nat), us, m, tk, y, 0, D, p, s1.toks, gens⟩ false) spF (fun _ => .none) [] [] (cEp []) _ [0, 1, 2, 3]
      (fun ρ => factE w a b (xS s1) A ⟨vs, n, (js.length : Nat), us, m, tk, y, 0, D, p, s1.toks, gens⟩ ρ) S1.top S1.led S1.nd S1.off S1.gens (fun ρ => ⟨⟨vs, n, none, #[], rfl, rfl, ?_⟩, trivial⟩) ?_
    · show vs[((js.length : Nat) : Int).toNat]? = none
      rw [Int.toNat_natCast, ← hlen]; simp
    · intro ρ s' p' hI F
      rw [List.take_length] at hus
      refine goes_done ⟨rfl, us, m, _, _, _, hus, F.st (by decide), ?_⟩
      refine C1.trans (F.ch.less (L1 := [A 0, A 1, A 2]) (Rd := [(A 3, lstObj vs n)]) (fun y hy => S1.led y ?_) (fun y hy => F.led y ?_) ?_) (fun b hb => .inl hb)
      · simp at hy; subst hy; simp
      · simp at hy; subst hy; simp
      · intro q hq; simp [ledF] at hq; rcases hq with rfl | rfl | rfl | rfl <;> simp
end Street
end Mine
end
noncomputable section
open PySem PySem.W PyProof.Rows
set_option maxRecDepth 100000
set_option maxHeartbeats 4000000
set_option linter.unusedVariables false
namespace Mine
/-- tokens of a listed sequence's items, as a call that was not run saw it -/
noncomputable def vwS (o : Out2) (j i k : Nat) : Nat := match viewAt o j with
  | some v => match gL v.sel i with
    | some (_, ⟨_, _, .seq xs _, _⟩) => match xs.toList[k]? with
      | some v => tokV v
      | none => 0
    | _ => 0
  | none => 0
/-- tokens of a listed dict's names -/
noncomputable def vwD (o : Out2) (j i : Nat) : Nat → Nat := fun k => match viewAt o j with
  | some v => match gL v.sel i with
    | some (_, ⟨_, _, .dict es _, _⟩) => match es.toList[k]? with
      | some e => tokV e.key
      | none => 0
    | _ => 0
  | none => 0
namespace Street
structure Dc where
  vs : Array Value
  n : Nat
  D : Nat → CD × Pos
  p : Pos
  toks : Nat
  gens : List GenState
noncomputable def kS : List Kd := [.fn, .bi "claim.caller"]
noncomputable def Xfor (P : Params) (dr st : Addr) (I : Array Value → Prop) : Xs := ⟨[8, 1, 2, 7], fun ρ _ => (.ok .next, [ρ.o, frO P [("draws", .ref dr), ("street", .ref st), ("n", ρ.v)] ρ.tk 3, lstObj ρ.vs ρ.t], []), id, fun ρ => I ρ.vs, none⟩
noncomputable def seed (o : Out2) : Array Value := #[.int 1 (vwS o 1 0 0), .int 0 (vwS o 1 0 1), .int 3 (vwS o 1 0 2)]
noncomputable def xC (P : Params) (nb : Bool) (dr st : Addr) (I0 I1 I2 : Array Value → Prop) : List Xs := [Xcomp P "x" nb [4, 5, 6, 0] I0, Xlist [3, 5] I1, Xfor P dr st I2]
noncomputable def spC : Sp := ⟨⟨false, true⟩, ["list.__add__"], [], true, 0⟩
noncomputable def cC (l : Addr) (d : Dc) : Conf := conf (cx (callCode 812 [.ref l]) kS d.D) d.p [(l, lstObj d.vs d.n)] d.toks d.gens
noncomputable def sC (w : World) (x : Nat → Addr) (l : Addr) (d : Dc) (nb : Bool) (I0 I1 I2 : Array Value → Prop) (ρ : Nat → Ep) : Out2 :=
  sim spC w x (fun _ => .none) (xC w.params nb 4000 5001 I0 I1 I2) (xC w.params nb l (x 1) I0 I1 I2) (cEp []) (cC 4000 d) (cC l d) ρ
noncomputable def AC (x : Nat → Addr) (l : Addr) : Nat → Addr := adr [x 3, x 4, x 5, l, x 0]
noncomputable def AF (x : Nat → Addr) (l : Addr) (ρ : Nat → Ep) : Nat → Addr := adr [(ρ 1).x 0, x 0, x 1, (ρ 1).n, l]
noncomputable def prC (o : Out2) (P : Params) (x : Nat → Addr) (l : Addr) (d : Dc) (ρ : Nat → Ep) : List Ob :=
  [.x ⟨cstart C (x 3) (x 4) (env (AC x l)), none, none, none, ks, cled P "x" (AC x l) d.vs d.n 0 #[] 0 true (fun _ => 0) .none [], d.gens⟩,
   .x ⟨biCode "list.__add__" [.ref (x 2), .ref (x 4)], none, none, none, ks, [(x 2, lstObj (seed o) 0), (x 4, lstObj (ρ 0).vs (ρ 0).vs.size)], d.gens⟩,
   .x ⟨floop (nthS (fBody [37]) 1) ((ρ 1).x 0) (envF (AF x l ρ)), none, none, none, ks, [((ρ 1).x 0, iterObj (.ref (ρ 1).n) 0), (x 0, frF P (AF x l ρ) true (vwD o 2 1) .none), (x 1, lstObj #[] 0), ((ρ 1).n, lstObj (ρ 1).vs (ρ 1).t)], d.gens⟩]
theorem factC (w : World) (a b nb : Bool) (x : Nat → Addr) (l : Addr) (d : Dc) (I0 I1 I2 : Array Value → Prop) (ρ : Nat → Ep) :
    proj [0, 2] (sC (wS w a b) x l d nb I0 I1 I2 ρ) = want (sC (wS w a b) x l d nb I0 I1 I2 ρ) (prC (sC (wS w a b) x l d nb I0 I1 I2 ρ) w.params x l d ρ)
      [(l, lstObj d.vs d.n), (x 1, lstObj (ρ 2).vs (ρ 2).t)] d.gens (.pure (.done (.ret (.ref (x 1))))) (cx (.func (fBody [37]) (fn (AC x l))) kS d.D) := by
  cases nb <;> cases a <;> kernel_rfl
end Street
end Mine
end
noncomputable section
open PySem PySem.W PyProof.Rows
set_option maxRecDepth 100000
set_option maxHeartbeats 4000000
set_option linter.unusedVariables false
namespace Mine
namespace Street
/-- the numbers of the street's words -/
noncomputable def nums (ns : List Int) : List Nat := [1, 0, 3] ++ ns.map fun v => (v.fmod 9).toNat
theorem nums_lt (ns : List Int) : ∀ j ∈ nums ns, j < 9 := by
  intro j hj
  unfold nums at hj
  rcases List.mem_append.mp hj with h | h
  · simp at h; rcases h with rfl | rfl | rfl <;> decide
  · obtain ⟨v, _, rfl⟩ := List.mem_map.mp h
    have h1 := Int.fmod_nonneg_of_pos v (by decide : (0 : Int) < 9)
    have h2 := Int.fmod_lt_of_pos v (by decide : (0 : Int) < 9)
    omega
theorem nums_int (ns : List Int) : nI (nums ns) = [1, 0, 3] ++ ns.map fun v => v.fmod 9 := by
  unfold nI nums
  rw [List.map_append, List.map_map]
  congr 1
  refine List.map_congr_left fun v _ => ?_
  have h1 := Int.fmod_nonneg_of_pos v (by decide : (0 : Int) < 9)
  show Int.ofNat (v.fmod 9).toNat = _
  simp only [Int.ofNat_eq_natCast]
  omega
theorem seed_ia (o : Out2) : IA (seed o) [1, 0, 3] := .cons 1 _ (.cons 0 _ (.cons 3 _ .nil))
end Street
theorem Xlist_mono {w : World} {sel : List Nat} {I I' : Array Value → Prop} {v : View} (h : ReqOk (MM w) (topG w) (Xlist sel I) v) (hI : ∀ vs, I vs → I' vs) : ReqOk (MM w) (topG w) (Xlist sel I') v := by
  intro Γ p s hΓ T hL ho nd hg
  refine wpCode_mono ?_ (h Γ p s hΓ T hL ho nd hg)
  rintro r s' ⟨ρ, h1, h2, h3, h4, h5, h6, h7, h8, h9, h10⟩
  exact ⟨ρ, h1, h2, hI _ h3, h4, h5, h6, h7, h8, h9, h10⟩
namespace Street
noncomputable def J0 (ns : List Int) (us : Array Value) : Prop := IA us (ns.map fun v => v.fmod 9)
noncomputable def J1 (ns : List Int) (us : Array Value) : Prop := IA us (nI (nums ns))
noncomputable def J2 (ns : List Int) (us : Array Value) : Prop := SA us ((ded (nums ns)).map word)
theorem req {w : World} {a b : Bool} {l : Addr} {vs : Array Value} {n i : Nat} {ns : List Int} {gens : List GenState} (hv : IA vs ns) (hz : ns.length ≤ 900) :
    ReqOk (MM (wS w a b)) (topG (wS w a b)) (Xlist [i] (fun us => SA us ((ded (nums ns)).map word))) ⟨callCode 812 [.ref l], none, none, none, kS, [(l, lstObj vs n)], gens⟩ := by
  refine req_of rfl fun D p s T hL ho nd hg => ?_
  refine sim_go (led := [(l, lstObj vs n)]) spC (fun _ => .none) _ (xC w.params (decide (vs.size = 0)) l (xS s 1) (J0 ns) (J1 ns) (J2 ns)) (cEp []) _ [0, 2]
    (fun ρ => factC w a b (decide (vs.size = 0)) (xS s) l ⟨vs, n, D, p, s.toks, gens⟩ (J0 ns) (J1 ns) (J2 ns) ρ) T hL (by simp) ho hg (fun ρ => ⟨?_, fun hI => ⟨?_, fun hI1 => ⟨?_, fun _ => trivial⟩⟩⟩) ?_
  · refine req_of rfl fun D p s2 T hL ho nd hg => ?_
    refine wpCode_mono ?_ (comp (A := AC (xS s) l) hv (by omega) ⟨T, hL, nd (by show [4, 5, 6, 0].Nodup; decide), ho, hg⟩)
    rintro r s' ⟨rfl, us, o0, tk, y, h1, h2, h3⟩
    exact XPost.comp (A := AC (xS s) l) rfl rfl h1 h2 h3
  · have hI : IA (ρ 0).vs (ns.map fun v => v.fmod 9) := hI
    have hsz : (ρ 0).vs.size = ns.length := by rw [IA.size hI, List.length_map]
    refine Xlist_mono (addl_req (by rw [hsz]; show 3 + _ ≤ _; omega)) fun us e => ?_
    subst e
    unfold J1
    rw [nums_int]
    exact (seed_ia _).append hI
  · refine req_of rfl fun D p s2 T hL ho nd hg => ?_
    refine wpCode_mono ?_ (loop (A := AF (xS s) l ρ) (js := nums ns) hI1 (nums_lt ns) (by unfold nums; simp; omega) (by unfold nums; simp) ⟨T, hL, nd (by show [8, 1, 2, 7].Nodup; decide), ho, hg⟩)
    rintro r s' ⟨rfl, us, m, o0, tk, y, h1, h2, h3⟩
    refine ⟨⟨xS s', s'.toks, m, 0, y, us, o0, [], tk⟩, rfl, rfl, h1, rfl, ⟨h2.led (AF (xS s) l ρ 0, o0) (by simp), h2.led (AF (xS s) l ρ 1, frF w.params (AF (xS s) l ρ) false tk y) (by simp), h2.led (AF (xS s) l ρ 2, lstObj us m) (by simp), trivial⟩, fun y hy => (nomatch hy), List.nodup_nil, fun y hy => (nomatch hy), h3, h2.gens⟩
  · intro ρ s' p' hI F
    refine goes_done (XPost.list hI.2.2.1 (F.led (xS s 1, lstObj (ρ 2).vs (ρ 2).t) (by simp)) (Nat.le_add_right _ _) (F.ch.less (L1 := []) (Rd := [(l, lstObj vs n)]) hL (fun y hy => F.led y (by simp at hy; subst hy; simp)) (by simp)) F.gens)
end Street
end Mine
end
noncomputable section
open PySem PySem.W PyProof.Rows PySem.Calls
set_option maxRecDepth 100000
set_option maxHeartbeats 4000000
set_option linter.unusedVariables false
namespace Mine
theorem lst_is {s : Shared} {l : Addr} {vs : Array Value} {n : Nat} (h : s.heap.get? l = some (lstObj vs n)) : s.heap.IsList l vs := ⟨_, h, rfl, n, rfl⟩
theorem len_req {w : World} {l : Addr} {vs : Array Value} {n i : Nat} {hd own past : Option Value} {ks : List Kd} {gens : List GenState} (hz : vs.size ≤ 1000) :
    ReqOk (MM w) (topG w) (XintS [i] vs.size) ⟨biCode "len" [.ref l], hd, own, past, ks, [(l, lstObj vs n)], gens⟩ := by
  intro Γ p s hΓ T hL ho nd hg
  have h1 := hL (l, lstObj vs n) (by simp)
  refine lib_code hΓ.at_ hΓ.code fun A _ _ _ => call_len_list (lst_is h1) (by omega) ?_
  exact XPost.val (s.toks + 1) 0 .none #[] trivial rfl ⟨fun b o e _ => e, Nat.le_refl _, rfl, rfl⟩ hg
/-- an item of a list -/
theorem item_req {w : World} {l : Addr} {vs : Array Value} {n i u : Nat} {k : Int} {v : Value} {hd own past : Option Value} {ks : List Kd} {gens : List GenState} (h0 : 0 ≤ k) (hz : k < 1000) (hx : vs[k.toNat]? = some v) :
    ReqOk (MM w) (topG w) (Xval [i] (fun _ => v) (fun _ => True)) ⟨biCode "list.__getitem__" [.ref l, .int k u], hd, own, past, ks, [(l, lstObj vs n)], gens⟩ := by
  intro Γ p s hΓ T hL ho nd hg
  have h1 := hL (l, lstObj vs n) (by simp)
  refine lib_code hΓ.at_ hΓ.code fun A _ _ _ => wpAny_call_entry slot_list_getitem (lst_is h1).typeIs entry_list_getitem ?_ (args_list_getitem _ _)
  show wpAny _ _ (Builtin.List.listSubscript? (.int k u) >>= _) _ _ s
  refine wpAny_bind (wpAny_listSubscript_int (fitsIndex_of h0 (by omega)) ?_)
  obtain ⟨j, rfl⟩ := Int.eq_ofNat_of_zero_le h0
  have hx' : vs[j]? = some v := hx
  show wpAny _ _ ((seqItemAt l j >>= fun r => pure (r.map (j, ·))) >>= _) _ _ s
  refine wpAny_bind (wpAny_bind (wpAny_seqItemAt h1 rfl (wpAny_pure ?_)))
  rw [hx']
  refine wpAny_pure ⟨v, rfl, ?_⟩
  exact XPost.val 0 0 .none #[] trivial rfl (Ch.refl _ _) hg
end Mine
end
noncomputable section
open PySem PySem.W PyProof.Rows
set_option maxRecDepth 100000
set_option maxHeartbeats 4000000
set_option linter.unusedVariables false
namespace Mine
namespace Below
noncomputable def C0 : CX := cxOf (atE (nthS (fBody [39]) 0) [])
noncomputable def C1 : CX := cxOf (atE (nthS (fBody [39]) 1) [0, 1])
noncomputable def C2 : CX := cxOf (atE (nthS (fBody [39]) 1) [1, 1])
noncomputable def CC (g : Bool) : CX := match g with
  | true => C2
  | false => C1
noncomputable def fn (A : Nat → Addr) : Env := fenv 39 "_law_below" 822 821 (A 6) [(S "other", A 5), (S "one", A 4)]
noncomputable def env0 (A : Nat → Addr) : Env := cenv C0 (fn A) (A 2) []
noncomputable def env (A : Nat → Addr) (g : Bool) : Env := cenv (CC g) (fn A) (A 2) [(S "other", A 5), (S "one", A 4)]
structure Dt where
  vs : Array Value
  n : Nat
  i : Int
  us : Array Value
  m : Nat
  tk : Nat → Nat
  y : Value
  t1 : Nat
  t2 : Nat
  tv : Nat
  D : Nat → CD × Pos
  p : Pos
  toks : Nat
  gens : List GenState
noncomputable def kB : List Kd := [.fr, .fr, .fn, .bi "claim.caller"]
noncomputable def led0 (P : Params) (A : Nat → Addr) (d : Dt) (nb : Bool) : List (Addr × Obj) := cled P "place" A d.vs d.n d.i d.us d.m nb d.tk d.y []
noncomputable def cT0 (P : Params) (A : Nat → Addr) (d : Dt) (nb : Bool) : Conf := conf (cx (cloop C0 (A 0) (A 1) (env0 A)) (.fn :: kB) d.D) d.p (led0 P A d nb) d.toks d.gens
noncomputable def spT : Sp := ⟨⟨true, true⟩, ["int.__mul__"], [], true, 0⟩
noncomputable def sT0 (w : World) (x A : Nat → Addr) (d : Dt) (nb : Bool) (v : Int) (ρ : Nat → Ep) : Out2 :=
  sim spT w x (fun _ => .int v d.tv) [Xint 6] [Xint (2 * v)] (cEp []) (cT0 w.params (fun j => 4000 + j) { d with vs := #[.int 3 0], n := 0, i := 0 } nb) (cT0 w.params A d nb) ρ
theorem factT0 (w : World) (a b nb : Bool) (x A : Nat → Addr) (d : Dt) (v : Int) (ρ : Nat → Ep) :
    proj [0, 1, 2, 3] (sT0 (wS w a b) x A d nb v ρ) =
    want (sT0 (wS w a b) x A d nb v ρ) [.p (NextP (iterObj (.ref (A 3)) d.i) (lstObj d.vs d.n) (A 3) (.int v d.tv)), .x ⟨biCode "int.__mul__" [.int 2 (argTk (sT0 (wS w a b) x A d nb v ρ) 0 0), .int v d.tv], none, none, none, .cp :: .fn :: kB, [], d.gens⟩, .p (PushP (lstObj d.us d.m))]
      (led0 w.params A { d with i := d.i + 1, us := d.us.push (.int (2 * v) (ρ 0).t), m := d.m + 1, tk := tks (sT0 (wS w a b) x A d nb v ρ) 2, y := .int v d.tv } false) d.gens
      (.pure (.again (cloop C0 (A 0) (A 1) (env0 A)))) (cx (cloop C0 (A 0) (A 1) (env0 A)) (.fn :: kB) d.D) := by
  cases nb <;> cases a <;> kernel_rfl
noncomputable def led1 (P : Params) (A : Nat → Addr) (d : Dt) (nb : Bool) (one other : Int) : List (Addr × Obj) := cled P "p" A d.vs d.n d.i d.us d.m nb d.tk d.y [(A 4, cellO (.int one d.t1)), (A 5, cellO (.int other d.t2))]
noncomputable def cT1 (P : Params) (A : Nat → Addr) (d : Dt) (g nb : Bool) (one other : Int) : Conf := conf (cx (cloop (CC g) (A 0) (A 1) (env A g)) (.fn :: kB) d.D) d.p (led1 P A d nb one other) d.toks d.gens
/-- the test: p < one + other, p > one + other -/
noncomputable def tst (g : Bool) (v m : Int) : Prop := match g with
  | true => v > m
  | false => v < m
noncomputable def smp (g c : Bool) : Int := match g, c with
  | true, true => 0
  | true, false => 9
  | false, true => 9
  | false, false => 0
noncomputable def sT1 (w : World) (x A : Nat → Addr) (d : Dt) (g nb c : Bool) (v one other : Int) (ρ : Nat → Ep) : Out2 :=
  sim spT w x (fun _ => .int v d.tv) [] [] (cEp []) (cT1 w.params (fun j => 4000 + j) { d with vs := #[.int 3 0], n := 0, i := 0 } g nb (smp g c) 0) (cT1 w.params A d g nb one other) ρ
noncomputable def Dt.next (d : Dt) (c : Bool) (v : Int) (tk : Nat → Nat) : Dt := match c with
  | true => { d with i := d.i + 1, us := d.us.push (.int v d.tv), m := d.m + 1, tk := tk, y := .int v d.tv }
  | false => { d with i := d.i + 1, tk := tk, y := .int v d.tv }
noncomputable def prT1 (A : Nat → Addr) (d : Dt) (g c : Bool) (v one other : Int) : List Ob :=
  [.p (NextP (iterObj (.ref (A 3)) d.i) (lstObj d.vs d.n) (A 3) (.int v d.tv)), .p (tst g v (one + other) = (c = true))] ++
  match c with
  | true => [.p (PushP (lstObj d.us d.m))]
  | false => []
theorem factT1 (w : World) (a b g nb c : Bool) (x A : Nat → Addr) (d : Dt) (v one other : Int) (ρ : Nat → Ep) :
    proj [0, 1, 2, 3, 4, 5] (sT1 (wS w a b) x A d g nb c v one other ρ) =
    want (sT1 (wS w a b) x A d g nb c v one other ρ) (prT1 A d g c v one other)
      (led1 w.params A (d.next c v (tks (sT1 (wS w a b) x A d g nb c v one other ρ) 2)) false one other) d.gens
      (.pure (.again (cloop (CC g) (A 0) (A 1) (env A g)))) (cx (cloop (CC g) (A 0) (A 1) (env A g)) (.fn :: kB) d.D) := by
  cases g <;> cases nb <;> cases c <;> cases a <;> kernel_rfl
/-- the call -/
structure Da where
  vs : Array Value
  n : Nat
  t1 : Nat
  t2 : Nat
  D : Nat → CD × Pos
  p : Pos
  toks : Nat
  gens : List GenState
noncomputable def cA (pl : Addr) (d : Da) (one other : Int) : Conf := conf (cx (callCode 822 [.int one d.t1, .int other d.t2, .ref pl]) kB d.D) d.p [(pl, lstObj d.vs d.n)] d.toks d.gens
noncomputable def spA : Sp := ⟨⟨false, true⟩, [], [], true, 0⟩
noncomputable def A' (x : Nat → Addr) (pl : Addr) : Nat → Addr := adr [x 3, x 4, x 5, pl, x 1, x 2, x 0]
end Below
end Mine
end
noncomputable section
open PySem PySem.W PyProof.Rows
set_option maxRecDepth 100000
set_option maxHeartbeats 4000000
set_option linter.unusedVariables false
namespace Mine
theorem mul2_req {w : World} {x : Int} {t u : Nat} {hd own past : Option Value} {ks : List Kd} {sel : List (Addr × Obj)} {gens : List GenState} : ReqOk (MM w) (topG w) (Xint (2 * x)) ⟨biCode "int.__mul__" [.int 2 t, .int x u], hd, own, past, ks, sel, gens⟩ := by
  intro Γ p s hΓ T hL ho nd hg
  refine lib_code hΓ.at_ hΓ.code fun A _ _ _ => wpAny_mono (call_int_mul (E := fun _ _ => False) (Q := fun v s' => v = .int (2 * x) s.toks ∧ s' = { s with toks := s.toks + 1 }) ⟨rfl, rfl⟩ (IntMulOk.of_left (show Builtin.Int.intBits 2 ≤ 64 by decide))) ?_ (fun _ _ h => h.elim)
  rintro v s' ⟨_, rfl, rfl⟩
  exact XPost.val s.toks 0 .none #[] trivial rfl ⟨fun b o e _ => e, Nat.le_refl _, rfl, rfl⟩ hg
namespace Below
noncomputable def tb (g : Bool) (m v : Int) : Bool := match g with
  | true => decide (v > m)
  | false => decide (v < m)
theorem tst_tb (g : Bool) (v m : Int) : tst g v m = (tb g m v = true) := by cases g <;> simp [tst, tb]
theorem comp0 {w : World} {a b : Bool} {A : Nat → Addr} {D : Nat → CD × Pos} {vs : Array Value} {n : Nat} {gens : List GenState} {ns : List Int} (hv : IA vs ns) (hz : ns.length ≤ 1000) {tk : Nat → Nat} {y : Value} {p : Pos} {s : Shared}
    (S0 : St (wS w a b) gens (cled w.params "place" A vs n 0 #[] 0 true tk y []) s) :
    wpCode (MM (wS w a b)) (cx (cstart C0 (A 0) (A 1) (env0 A)) (.fn :: kB) D) (fun r s' => r = .ok .next ∧ ∃ us o0 tk y, IA us (ns.map (2 * ·)) ∧
      St (wS w a b) gens ((A 0, o0) :: (A 1, lstObj us us.size) :: (A 2, dcN w.params "place" (decide (vs.size = 0)) tk y) :: (A 3, lstObj vs n) :: []) s' ∧ Ch [A 0, A 1, A 2] s s') p s := by
  refine wpCode_mono ?_ (comp_ok (tn := "place") (fun i us => IA us ((ns.take i).map (2 * ·))) IA.nil ?_ S0)
  · rintro r s' ⟨rfl, us, o0, tk, y, h1, _, h2, h3⟩
    refine ⟨rfl, us, o0, tk, y, ?_, h2, h3⟩
    rw [hv.size, List.take_length] at h1
    exact h1
  · intro i us nb tk y p s R hi hP hz' S next
    rw [hv.size] at hi
    obtain ⟨tv, hx⟩ := hv.get hi
    refine sim_go (led := led0 w.params A ⟨vs, n, i, us, us.size, tk, y, 0, 0, tv, D, p, s.toks, gens⟩ nb) spT (fun _ => .int ns[i]! tv) [Xint 6] [Xint (2 * ns[i]!)] (cEp []) _ [0, 1, 2, 3]
      (fun ρ => factT0 w a b nb (xS s) A ⟨vs, n, i, us, us.size, tk, y, 0, 0, tv, D, p, s.toks, gens⟩ ns[i]! ρ) S.top S.led S.nd S.off S.gens (fun ρ => ⟨⟨vs, n, none, #[], rfl, rfl, ?_⟩, mul2_req, fun _ => ⟨⟨us, us.size, rfl, ?_⟩, trivial⟩⟩) ?_
    · show vs[((i : Int)).toNat]? = some _
      rw [Int.toNat_natCast]; exact hx
    · rw [sizeLine_eq]; omega
    · intro ρ s' p' hI F
      refine goes_again rfl ?_
      refine next _ _ _ _ p' s' (F.st (by decide)) (by simp) ?_ (by simp; omega) ?_
      · rw [List.take_add_one, List.map_append]
        have e : ns[i]? = some ns[i]! := by simp [hi]
        rw [e]
        exact hP.push _ _
      · refine F.ch.less (Rd := [(A 3, lstObj vs n)]) (fun y hy => S.led y ?_) (fun y hy => F.led y ?_) ?_
        · simp at hy; subst hy; simp [cled]
        · simp at hy; subst hy; simp [led0, cled]
        · intro q hq; simp [led0, cled] at hq; rcases hq with rfl | rfl | rfl | rfl <;> simp
theorem comp1 {w : World} {a b g : Bool} {A : Nat → Addr} {D : Nat → CD × Pos} {vs : Array Value} {n : Nat} {gens : List GenState} {one other : Int} {t1 t2 : Nat} {ns : List Int} (hv : IA vs ns) (hz : ns.length ≤ 1000) {tk : Nat → Nat} {y : Value} {p : Pos} {s : Shared}
    (S0 : St (wS w a b) gens (cled w.params "p" A vs n 0 #[] 0 true tk y [(A 4, cellO (.int one t1)), (A 5, cellO (.int other t2))]) s) :
    wpCode (MM (wS w a b)) (cx (cstart (CC g) (A 0) (A 1) (env A g)) (.fn :: kB) D) (fun r s' => r = .ok .next ∧ ∃ us o0 tk y, IA us (ns.filter (tb g (one + other))) ∧
      St (wS w a b) gens ((A 0, o0) :: (A 1, lstObj us us.size) :: (A 2, dcN w.params "p" (decide (vs.size = 0)) tk y) :: (A 3, lstObj vs n) :: [(A 4, cellO (.int one t1)), (A 5, cellO (.int other t2))]) s' ∧ Ch [A 0, A 1, A 2] s s') p s := by
  refine wpCode_mono ?_ (comp_ok (tn := "p") (fun i us => IA us ((ns.take i).filter (tb g (one + other)))) IA.nil ?_ S0)
  · rintro r s' ⟨rfl, us, o0, tk, y, h1, _, h2, h3⟩
    refine ⟨rfl, us, o0, tk, y, ?_, h2, h3⟩
    rw [hv.size, List.take_length] at h1
    exact h1
  · intro i us nb tk y p s R hi hP hz' S next
    rw [hv.size] at hi
    obtain ⟨v, e, tv, hx⟩ : ∃ v, ns[i]? = some v ∧ ∃ tv, vs[i]? = some (.int v tv) := ⟨ns[i]!, by simp [hi], hv.get hi⟩
    obtain ⟨c, hc⟩ : ∃ c, tb g (one + other) v = c := ⟨_, rfl⟩
    refine sim_go (led := led1 w.params A ⟨vs, n, i, us, us.size, tk, y, t1, t2, tv, D, p, s.toks, gens⟩ nb one other) spT (fun _ => .int v tv) [] [] (cEp []) _ [0, 1, 2, 3, 4, 5]
      (fun ρ => factT1 w a b g nb c (xS s) A ⟨vs, n, i, us, us.size, tk, y, t1, t2, tv, D, p, s.toks, gens⟩ v one other ρ) S.top S.led S.nd S.off S.gens ?_ ?_
    · intro ρ
      have h1 : NextP (iterObj (.ref (A 3)) (i : Nat)) (lstObj vs n) (A 3) (.int v tv) := ⟨vs, n, none, #[], rfl, rfl, by
        show vs[((i : Int)).toNat]? = some _
        rw [Int.toNat_natCast]; exact hx⟩
      have h2 : tst g v (one + other) = (c = true) := by rw [tst_tb, hc]
      have h3 : PushP (lstObj us us.size) := ⟨us, us.size, rfl, by rw [sizeLine_eq]; omega⟩
      cases c
      · exact ⟨h1, h2, trivial⟩
      · exact ⟨h1, h2, h3, trivial⟩
    · intro ρ s' p' hI F
      refine goes_again rfl ?_
      have hch : Ch [A 0, A 1, A 2] s s' := by
        refine F.ch.less (Rd := [(A 3, lstObj vs n), (A 4, cellO (.int one t1)), (A 5, cellO (.int other t2))]) (fun y hy => S.led y ?_) (fun y hy => F.led y ?_) ?_
        · simp at hy; rcases hy with rfl | rfl | rfl <;> simp [cled]
        · cases c <;> (simp at hy; rcases hy with rfl | rfl | rfl <;> simp [led1, cled, Dt.next])
        · intro q hq; simp [led1, cled] at hq; rcases hq with rfl | rfl | rfl | rfl | rfl | rfl <;> simp
      have hP' : IA (match c with | true => us.push (.int v tv) | false => us) ((ns.take (i + 1)).filter (tb g (one + other))) := by
        rw [List.take_add_one, List.filter_append, e]
        cases c
        · simp [hc]; exact hP
        · simp [hc]; exact hP.push _ _
      cases c
      · exact next us us.size _ _ p' s' (F.st (by decide)) rfl hP' (by omega) hch
      · exact next (us.push (.int v tv)) (us.size + 1) _ _ p' s' (F.st (by decide)) (Array.size_push _).symm hP' (by rw [Array.size_push]; omega) hch
end Below
end Mine
end
noncomputable section
open PySem PySem.W PyProof.Rows
set_option maxRecDepth 100000
set_option maxHeartbeats 4000000
set_option linter.unusedVariables false
namespace Mine
namespace Below
noncomputable def spA' : Sp := ⟨⟨false, true⟩, ["len"], [], true, 0⟩
noncomputable def xA (P : Params) (nb nb2 : Bool) (us us1 us2 : List Int) : List Xs := [Xcomp P "place" nb [4, 5, 6, 0] (fun vs => IA vs us), Xcomp P "p" nb2 [7, 8, 9, 5, 2, 3] (fun vs => IA vs us1), XintS [8] us1.length, Xcomp P "p" nb2 [10, 11, 12, 5, 2, 3] (fun vs => IA vs us2), XintS [11] us2.length]
noncomputable def sA (w : World) (x : Nat → Addr) (pl : Addr) (d : Da) (nb nb2 : Bool) (us us1 us2 : List Int) (one other : Int) (ρ : Nat → Ep) : Out2 :=
  sim spA' w x (fun _ => .none) (xA w.params nb nb2 us us1 us2) (xA w.params nb nb2 us us1 us2) (cEp []) (cA 4000 d one other) (cA pl d one other) ρ
noncomputable def AA (x : Nat → Addr) (z : Nat → Addr) (pl : Addr) : Nat → Addr := adr [z 0, z 1, z 2, pl, x 1, x 2, x 0]
noncomputable def cls (x : Nat → Addr) (d : Da) (one other : Int) : List (Addr × Obj) := [(x 1, cellO (.int one d.t1)), (x 2, cellO (.int other d.t2))]
noncomputable def sh3 (x : Nat → Addr) (i : Nat) : Addr := x (i + 3)
noncomputable def prA (P : Params) (x : Nat → Addr) (pl : Addr) (d : Da) (one other : Int) (ρ : Nat → Ep) : List Ob :=
  [.x ⟨cstart C0 (x 3) (x 4) (env0 (AA x (sh3 x) pl)), none, none, none, .fn :: kB, cled P "place" (AA x (sh3 x) pl) d.vs d.n 0 #[] 0 true (fun _ => 0) .none [], d.gens⟩,
   .x ⟨cstart C1 ((ρ 0).x 0) ((ρ 0).x 1) (env (AA x (ρ 0).x (x 4)) false), none, none, none, .fn :: kB, cled P "p" (AA x (ρ 0).x (x 4)) (ρ 0).vs (ρ 0).vs.size 0 #[] 0 true (fun _ => 0) .none (cls x d one other), d.gens⟩,
   .x ⟨biCode "len" [.ref ((ρ 0).x 1)], none, none, none, .fn :: kB, [((ρ 0).x 1, lstObj (ρ 1).vs (ρ 1).vs.size)], d.gens⟩,
   .x ⟨cstart C2 ((ρ 2).x 0) ((ρ 2).x 1) (env (AA x (ρ 2).x (x 4)) true), none, none, none, .fn :: kB, cled P "p" (AA x (ρ 2).x (x 4)) (ρ 0).vs (ρ 0).vs.size 0 #[] 0 true (fun _ => 0) .none (cls x d one other), d.gens⟩,
   .x ⟨biCode "len" [.ref ((ρ 2).x 1)], none, none, none, .fn :: kB, [((ρ 2).x 1, lstObj (ρ 3).vs (ρ 3).vs.size)], d.gens⟩]
theorem factA (w : World) (a b : Bool) (x : Nat → Addr) (pl : Addr) (d : Da) (nb nb2 : Bool) (us us1 us2 : List Int) (one other : Int) (ρ : Nat → Ep) :
    proj [0] (sA (wS w a b) x pl d nb nb2 us us1 us2 one other ρ) = want (sA (wS w a b) x pl d nb nb2 us us1 us2 one other ρ) (prA w.params x pl d one other ρ)
      [(pl, lstObj d.vs d.n)] d.gens (.pure (.done (.ret (.int ((us1.length : Int) - (us2.length : Int)) (retTk (sA (wS w a b) x pl d nb nb2 us us1 us2 one other ρ)))))) (cx (.func (fBody [39]) (fn (AA x x pl))) kB d.D) := by
  cases nb <;> cases nb2 <;> cases a <;> kernel_rfl
/-- below less above -/
noncomputable def net (one other : Int) (ns : List Int) : Int := (((ns.map (2 * ·)).filter (tb false (one + other))).length : Int) - ((ns.map (2 * ·)).filter (tb true (one + other))).length
theorem req {w : World} {a b : Bool} {pl : Addr} {vs : Array Value} {n t1 t2 i : Nat} {one other : Int} {ns : List Int} {gens : List GenState} (hv : IA vs ns) (hz : ns.length ≤ 1000) :
    ReqOk (MM (wS w a b)) (topG (wS w a b)) (XintS [i] (net one other ns)) ⟨callCode 822 [.int one t1, .int other t2, .ref pl], none, none, none, kB, [(pl, lstObj vs n)], gens⟩ := by
  refine req_of rfl fun D p s T hL ho nd hg => ?_
  refine sim_go (led := [(pl, lstObj vs n)]) spA' (fun _ => .none) _ (xA w.params (decide (vs.size = 0)) (decide (vs.size = 0)) (ns.map (2 * ·)) ((ns.map (2 * ·)).filter (tb false (one + other))) ((ns.map (2 * ·)).filter (tb true (one + other)))) (cEp []) _ [0]
    (fun ρ => factA w a b (xS s) pl ⟨vs, n, t1, t2, D, p, s.toks, gens⟩ _ _ _ _ _ one other ρ) T hL (by simp) ho hg (fun ρ => ⟨?_, fun hI => ⟨?_, fun hI1 => ⟨?_, fun _ => ⟨?_, fun hI2 => ⟨?_, fun _ => trivial⟩⟩⟩⟩⟩) ?_
  · refine req_of rfl fun D p s2 T hL ho nd hg => ?_
    refine wpCode_mono ?_ (comp0 (A := AA (xS s) (sh3 (xS s)) pl) hv hz ⟨T, hL, nd (by show [4, 5, 6, 0].Nodup; decide), ho, hg⟩)
    rintro r s' ⟨rfl, us, o0, tk, y, h1, h2, h3⟩
    exact XPost.comp (A := AA (xS s) (sh3 (xS s)) pl) rfl rfl h1 h2 h3
  · have hs : (ρ 0).vs.size = vs.size := by rw [IA.size hI, hv.size, List.length_map]
    refine req_of rfl fun D p s2 T hL ho nd hg => ?_
    refine wpCode_mono ?_ (comp1 (g := false) (A := AA (xS s) (ρ 0).x (xS s 4)) hI (by rw [List.length_map]; exact hz) ⟨T, hL, nd (by show [7, 8, 9, 5, 2, 3].Nodup; decide), ho, hg⟩)
    rintro r s' ⟨rfl, us, o0, tk, y, h1, h2, h3⟩
    rw [hs] at h2
    exact XPost.comp (A := AA (xS s) (ρ 0).x (xS s 4)) rfl rfl h1 h2 h3
  · rw [← IA.size hI1]
    exact len_req (by rw [IA.size hI1]; exact Nat.le_trans (List.length_filter_le _ _) (by rw [List.length_map]; exact hz))
  · have hs : (ρ 0).vs.size = vs.size := by rw [IA.size hI, hv.size, List.length_map]
    refine req_of rfl fun D p s2 T hL ho nd hg => ?_
    refine wpCode_mono ?_ (comp1 (g := true) (A := AA (xS s) (ρ 2).x (xS s 4)) hI (by rw [List.length_map]; exact hz) ⟨T, hL, nd (by show [10, 11, 12, 5, 2, 3].Nodup; decide), ho, hg⟩)
    rintro r s' ⟨rfl, us, o0, tk, y, h1, h2, h3⟩
    rw [hs] at h2
    exact XPost.comp (A := AA (xS s) (ρ 2).x (xS s 4)) rfl rfl h1 h2 h3
  · rw [← IA.size hI2]
    exact len_req (by rw [IA.size hI2]; exact Nat.le_trans (List.length_filter_le _ _) (by rw [List.length_map]; exact hz))
  · intro ρ s' p' hI F
    exact goes_done (XPost.val _ 0 .none #[] trivial rfl (F.ch.less (L1 := []) (Rd := [(pl, lstObj vs n)]) hL F.led (by simp)) F.gens)
end Below
end Mine
end
noncomputable section
open PySem PySem.W PyProof.Rows PySem.Calls
set_option maxRecDepth 100000
set_option maxHeartbeats 4000000
set_option linter.unusedVariables false
namespace Mine
theorem IA.at {vs : Array Value} {ns : List Int} (h : IA vs ns) {i : Nat} {x : Int} (hi : ns[i]? = some x) : ∃ t, vs[i]? = some (.int x t) := by
  have hl : i < ns.length := by
    rcases Nat.lt_or_ge i ns.length with q | q
    · exact q
    · rw [List.getElem?_eq_none q] at hi; cases hi
  obtain ⟨t, e⟩ := h.get hl
  have : ns[i]! = x := by simp [hi]
  exact ⟨t, by rw [e, this]⟩
theorem IA.eqAt {xs ys : Array Value} {ns : List Int} (hx : IA xs ns) (hy : IA ys ns) (j : Nat) (h1 : j < xs.size) (h2 : j < ys.size) : MeetsSeq.EqGives xs[j] ys[j] true := by
  have hj : ns[j]? = some (ns[j]'(by rw [hx.size] at h1; exact h1)) := List.getElem?_eq_getElem _
  generalize ns[j]'(by rw [hx.size] at h1; exact h1) = n at hj
  obtain ⟨t, e1⟩ := hx.at hj
  obtain ⟨u, e2⟩ := hy.at hj
  rw [Array.getElem?_eq_getElem h1] at e1
  rw [Array.getElem?_eq_getElem h2] at e2
  rw [Option.some.inj e1, Option.some.inj e2]
  have := MeetsSeq.EqGives.int n n t u
  simpa using this
theorem SA.eqAt {xs ys : Array Value} {ss : List PySem.Str} (hx : SA xs ss) (hy : SA ys ss) (j : Nat) (h1 : j < xs.size) (h2 : j < ys.size) : MeetsSeq.EqGives xs[j] ys[j] true := by
  have hj : ss[j]? = some (ss[j]'(by rw [hx.size] at h1; exact h1)) := List.getElem?_eq_getElem _
  generalize ss[j]'(by rw [hx.size] at h1; exact h1) = n at hj
  obtain ⟨t, e1⟩ := hx.get hj
  obtain ⟨u, e2⟩ := hy.get hj
  rw [Array.getElem?_eq_getElem h1] at e1
  rw [Array.getElem?_eq_getElem h2] at e2
  rw [Option.some.inj e1, Option.some.inj e2]
  have := eqGives_str n n t u
  simpa using this
theorem allTrue (n : Nat) : ((List.range n).all fun _ => true) = true := by simp
section
variable {w : World} {l r : Addr} {xs ys : Array Value} {n m i j : Nat} {hd own past : Option Value} {ks : List Kd} {gens : List GenState}
/-- two lists alike in every place -/
theorem ne_same (hz : xs.size = ys.size) (h : ∀ j (h1 : j < xs.size) (h2 : j < ys.size), MeetsSeq.EqGives xs[j] ys[j] true) :
    ReqOk (MM w) (topG w) (XboolS [i, j] false) ⟨biCode "list.__ne__" [.ref l, .ref r], hd, own, past, ks, [(l, lstObj xs n), (r, lstObj ys m)], gens⟩ := by
  intro Γ p s hΓ T hL ho nd hg
  have h1 := hL (l, lstObj xs n) (by simp)
  have h2 := hL (r, lstObj ys m) (by simp)
  refine lib_code hΓ.at_ hΓ.code fun A _ _ _ => call_meets F.slot_list_ne ⟨_, h1, rfl⟩ F.entry_list_ne (F.args_list_ne_2 _ _) (SeqAt.list_neAt l r xs ys n m none none #[] #[] hz (fun _ => true)) ⟨h1, h2, fun j a b => (h j a b).at _ _, ?_⟩
  rw [allTrue]
  exact XPost.val 0 0 .none #[] trivial rfl (Ch.refl _ _) hg
theorem eq_same (hz : xs.size = ys.size) (h : ∀ j (h1 : j < xs.size) (h2 : j < ys.size), MeetsSeq.EqGives xs[j] ys[j] true) :
    ReqOk (MM w) (topG w) (XboolS [i, j] true) ⟨biCode "list.__eq__" [.ref l, .ref r], hd, own, past, ks, [(l, lstObj xs n), (r, lstObj ys m)], gens⟩ := by
  intro Γ p s hΓ T hL ho nd hg
  have h1 := hL (l, lstObj xs n) (by simp)
  have h2 := hL (r, lstObj ys m) (by simp)
  refine lib_code hΓ.at_ hΓ.code fun A _ _ _ => call_meets F.slot_list_eq ⟨_, h1, rfl⟩ F.entry_list_eq (F.args_list_eq_2 _ _) (SeqAt.list_eqAt l r xs ys n m none none #[] #[] hz (fun _ => true)) ⟨h1, h2, fun j a b => (h j a b).at _ _, ?_⟩
  rw [allTrue]
  exact XPost.val 0 0 .none #[] trivial rfl (Ch.refl _ _) hg
theorem eq_sizes (hz : xs.size ≠ ys.size) :
    ReqOk (MM w) (topG w) (XboolS [i, j] false) ⟨biCode "list.__eq__" [.ref l, .ref r], hd, own, past, ks, [(l, lstObj xs n), (r, lstObj ys m)], gens⟩ := by
  intro Γ p s hΓ T hL ho nd hg
  have h1 := hL (l, lstObj xs n) (by simp)
  have h2 := hL (r, lstObj ys m) (by simp)
  refine lib_code hΓ.at_ hΓ.code fun A _ _ _ => call_meets F.slot_list_eq ⟨_, h1, rfl⟩ F.entry_list_eq (F.args_list_eq_2 _ _) (SeqAt.list_eq_lengthsAt l r xs ys n m none none #[] #[] (by simpa using hz)) ⟨h1, h2, ?_⟩
  exact XPost.val 0 0 .none #[] trivial rfl (Ch.refl _ _) hg
end
theorem neS_req {w : World} {l r : Addr} {xs ys : Array Value} {n m i j : Nat} {hd own past : Option Value} {ks : List Kd} {gens : List GenState} {ss : List PySem.Str} (hx : SA xs ss) (hy : SA ys ss) :
    ReqOk (MM w) (topG w) (XboolS [i, j] false) ⟨biCode "list.__ne__" [.ref l, .ref r], hd, own, past, ks, [(l, lstObj xs n), (r, lstObj ys m)], gens⟩ := ne_same (by rw [hx.size, hy.size]) (hx.eqAt hy)
theorem neI_req {w : World} {l r : Addr} {xs ys : Array Value} {n m i j : Nat} {hd own past : Option Value} {ks : List Kd} {gens : List GenState} {ns : List Int} (hx : IA xs ns) (hy : IA ys ns) :
    ReqOk (MM w) (topG w) (XboolS [i, j] false) ⟨biCode "list.__ne__" [.ref l, .ref r], hd, own, past, ks, [(l, lstObj xs n), (r, lstObj ys m)], gens⟩ := ne_same (by rw [hx.size, hy.size]) (hx.eqAt hy)
theorem eqI_req {w : World} {l r : Addr} {xs ys : Array Value} {n m i j : Nat} {hd own past : Option Value} {ks : List Kd} {gens : List GenState} {ns : List Int} (hx : IA xs ns) (hy : IA ys ns) :
    ReqOk (MM w) (topG w) (XboolS [i, j] true) ⟨biCode "list.__eq__" [.ref l, .ref r], hd, own, past, ks, [(l, lstObj xs n), (r, lstObj ys m)], gens⟩ := eq_same (by rw [hx.size, hy.size]) (hx.eqAt hy)
theorem eqNil_req {w : World} {l r : Addr} {xs : Array Value} {n m i j : Nat} {hd own past : Option Value} {ks : List Kd} {gens : List GenState} {c : Bool} (hc : decide (xs.size = 0) = c) :
    ReqOk (MM w) (topG w) (XboolS [i, j] c) ⟨biCode "list.__eq__" [.ref l, .ref r], hd, own, past, ks, [(l, lstObj xs n), (r, lstObj #[] m)], gens⟩ := by
  cases c
  · exact eq_sizes (by simpa using hc)
  · have : xs.size = 0 := of_decide_eq_true hc
    exact eq_same (by rw [this]; rfl) (fun j h1 _ => absurd h1 (by omega))
theorem index_req {w : World} {l : Addr} {vs : Array Value} {n i t k : Nat} {ss : List PySem.Str} {x : PySem.Str} {hd own past : Option Value} {ks : List Kd} {gens : List GenState} (hv : SA vs ss) (hk : ss[k]? = some x) (hno : ∀ m, m < k → ss[m]? ≠ some x) (hz : k < 1000) :
    ReqOk (MM w) (topG w) (XintS [i] k) ⟨biCode "list.index" [.ref l, .str x t], hd, own, past, ks, [(l, lstObj vs n)], gens⟩ := by
  intro Γ p s hΓ T hL ho nd hg
  have h1 := hL (l, lstObj vs n) (by simp)
  have lt : k < vs.size := by
    obtain ⟨u, e⟩ := hv.get hk
    rcases Nat.lt_or_ge k vs.size with q | q
    · exact q
    · rw [Array.getElem?_eq_none q] at e; cases e
  refine lib_code hΓ.at_ hΓ.code fun A _ _ _ => call_meets F.slot_list_index ⟨_, h1, rfl⟩ F.entry_list_index (F.args_list_index_2 _ _) (MeetsSeq.list_index l vs n (.str x t) (isText x) (fun y hy => ?_) k lt (by omega) ?_ ?_) ⟨h1, ?_⟩
  · obtain ⟨z, u, rfl⟩ := PyProof.Rows.StrsAre.all hv y (by simpa using hy)
    exact eqGives_str z x u t
  · obtain ⟨u, e⟩ := hv.get hk
    rw [Array.getElem?_eq_getElem lt] at e
    rw [Option.some.inj e]
    simp [isText]
  · intro m hm hlt
    have hm' : m < ss.length := by rw [← hv.size]; exact hm
    obtain ⟨u, e⟩ := hv.get (List.getElem?_eq_getElem hm')
    rw [Array.getElem?_eq_getElem hm] at e
    rw [Option.some.inj e]
    have := hno m hlt
    rw [List.getElem?_eq_getElem hm'] at this
    simp only [isText]
    exact beq_eq_false_iff_ne.mpr fun q => this (by rw [q])
  · exact XPost.val s.toks 0 .none #[] trivial rfl ⟨fun b o e _ => e, Nat.le_refl _, rfl, rfl⟩ hg
noncomputable def isNum (x : Int) (v : Value) : Bool := match v with
  | .int y _ => y == x
  | _ => false
theorem IA.any {vs : Array Value} {ns : List Int} (h : IA vs ns) (x : Int) : vs.any (isNum x) = ns.contains x := by
  rw [← Array.any_toList]
  unfold IA at h
  generalize vs.toList = l at h
  induction h with
  | nil => rfl
  | cons y u h ih =>
    simp only [List.any_cons, ih, List.contains_cons]
    congr 1
    show (y == x) = (x == y)
    exact Bool.eq_iff_iff.mpr (by simp only [beq_iff_eq]; exact eq_comm)
theorem IA.all {vs : Array Value} {ns : List Int} (h : IA vs ns) : ∀ y ∈ vs, ∃ z u, y = .int z u := by
  intro y hy
  have hy : y ∈ vs.toList := by simpa using hy
  unfold IA at h
  generalize vs.toList = l at h hy
  induction h with
  | nil => cases hy
  | cons n t h ih =>
    rcases List.mem_cons.mp hy with rfl | hy
    · exact ⟨n, t, rfl⟩
    · exact ih hy
theorem inInts_req {w : World} {l : Addr} {vs : Array Value} {n i t : Nat} {ns : List Int} {x : Int} {hd own past : Option Value} {ks : List Kd} {gens : List GenState} (hv : IA vs ns) :
    ReqOk (MM w) (topG w) (XboolS [i] (ns.contains x)) ⟨biCode "list.__contains__" [.ref l, .int x t], hd, own, past, ks, [(l, lstObj vs n)], gens⟩ := by
  intro Γ p s hΓ T hL ho nd hg
  have h1 := hL (l, lstObj vs n) (by simp)
  refine lib_code hΓ.at_ hΓ.code fun A _ _ _ => call_meets slot_list_contains ⟨_, h1, rfl⟩ entry_list_contains (args_list_contains _ _) (MeetsSeq.list_contains l vs n (.int x t) (isNum x) fun y hy => ?_) ⟨h1, ?_⟩
  · obtain ⟨z, u, rfl⟩ := hv.all y hy
    exact MeetsSeq.EqGives.int z x u t
  · rw [hv.any x]
    exact XPost.val 0 0 .none #[] trivial rfl (Ch.refl _ _) hg
theorem mod_req {w : World} {x m : Int} {t u : Nat} {hd own past : Option Value} {ks : List Kd} {sel : List (Addr × Obj)} {gens : List GenState} (hm : m ≠ 0) : ReqOk (MM w) (topG w) (Xint (x.fmod m)) ⟨biCode "int.__mod__" [.int x t, .int m u], hd, own, past, ks, sel, gens⟩ := by
  intro Γ p s hΓ T hL ho nd hg
  refine lib_code hΓ.at_ hΓ.code fun A _ _ _ => wpAny_mono (call_int_mod (E := fun _ _ => False) (Q := fun v s' => v = .int (x.fmod m) s.toks ∧ s' = { s with toks := s.toks + 1 }) hm ⟨rfl, rfl⟩) ?_ (fun _ _ h => h.elim)
  rintro v s' ⟨_, rfl, rfl⟩
  exact XPost.val s.toks 0 .none #[] trivial rfl ⟨fun b o e _ => e, Nat.le_refl _, rfl, rfl⟩ hg
theorem IA.toList {vs : Array Value} {ns : List Int} (h : IA vs ns) : IntsAre vs.toList ns := h
/-- sorted -/
theorem sorted_req {w : World} {l : Addr} {vs : Array Value} {n i : Nat} {ns : List Int} {hd own past : Option Value} {ks : List Kd} {gens : List GenState} (hv : IA vs ns) (hz : ns.length < 64) :
    ReqOk (MM w) (topG w) (Xlist [i] (fun us => ∃ ns', IA us ns' ∧ ns'.Perm ns ∧ ns'.Pairwise (· ≤ ·))) ⟨biCode "sorted" [.ref l], hd, own, past, ks, [(l, lstObj vs n)], gens⟩ := by
  intro Γ p s hΓ T hL ho nd hg
  have h1 := hL (l, lstObj vs n) (by simp)
  have hl : s.heap.IsList l vs.toList.toArray := by simpa using lst_is h1
  refine code_size (lib_code hΓ.at_ hΓ.code fun A _ _ _ => sorted_ints hl hv (by rw [Array.length_toList, hv.size]; exact hz) fun out ns' a1 a2 a3 hz => ?_)
  obtain ⟨e, he⟩ := sortedAll_at s.heap vs.toList out
  exact XPost.list ⟨ns', a1, a2, a3⟩ he (Nat.le_succ _) ⟨fun b o h _ => sortedAll_old h, hz, rfl, rfl⟩ hg
/-- a range -/
noncomputable def rngO (a b : Int) (t u v : Nat) : Obj := ⟨.type "range", none, .fields #[.int a t, .int b u, .int 1 v], #[]⟩
noncomputable def Xrng (a b : Int) : Xs := ⟨[], fun ρ _ => (.ok (.ret (.ref ρ.n)), [], [(ρ.n, rngO a b (ρ.tk 0) (ρ.tk 1) (ρ.tk 2))]), id, fun _ => True, none⟩
noncomputable def tk3 (t u v : Nat) : Nat → Nat
  | 0 => t
  | 1 => u
  | _ => v
theorem XPost.rng {a b : Int} {v : View} {s s' : Shared} {n t u t' : Nat} (hn : s'.heap.get? n = some (rngO a b t u t')) (hi : s.heap.objs.size ≤ n) (hc : Ch [] s s') (hg : s'.gens = v.gens.toArray) : ∃ ρ, XPost (Xrng a b) v s ρ (.ok (.ret (.ref n))) s' :=
  ⟨⟨xS s', s'.toks, 0, n, .none, #[], default, [], tk3 t u t'⟩, rfl, rfl, trivial, rfl, by cases v.sel <;> trivial, fun y hy => by simp [Xrng] at hy; subst hy; exact hn, by simp [Xrng], fun y hy => by simp [Xrng] at hy; subst hy; exact hi, hc.mono (fun b hb => nomatch hb), hg⟩
theorem rng1_req {w : World} {n : Int} {t : Nat} {hd own past : Option Value} {ks : List Kd} {gens : List GenState} :
    ReqOk (MM w) (topG w) (Xrng 0 n) ⟨.call (.type "range") ⟨[.int n t], []⟩, hd, own, past, ks, [], gens⟩ := by
  intro Γ p s hΓ T hL ho nd hg
  refine lib_code hΓ.at_ hΓ.code fun A _ _ _ => call_range_1 ?_
  exact XPost.rng (Heap.get?_push_size _ rfl) (Nat.le_refl _) ⟨fun b o e _ => Heap.get?_push_of_some _ e, by rw [Heap.size_push]; omega, rfl, rfl⟩ hg
theorem rng2_req {w : World} {a n : Int} {t u : Nat} {hd own past : Option Value} {ks : List Kd} {gens : List GenState} :
    ReqOk (MM w) (topG w) (Xrng a n) ⟨.call (.type "range") ⟨[.int a t, .int n u], []⟩, hd, own, past, ks, [], gens⟩ := by
  intro Γ p s hΓ T hL ho nd hg
  refine lib_code hΓ.at_ hΓ.code fun A _ _ _ => call_range_2 ?_
  exact XPost.rng (Heap.get?_push_size _ rfl) (Nat.le_refl _) ⟨fun b o e _ => Heap.get?_push_of_some _ e, by rw [Heap.size_push]; omega, rfl, rfl⟩ hg
/-- the ints from a up to b -/
noncomputable def upto (a b : Int) : List Int := (List.range (b - a).toNat).map fun (k : Nat) => a + (k : Int)
theorem IA.of_items {us : Array Value} {a : Int} : ∀ {n : Nat}, ItemsOf (fun i v => ∃ t, v = .int (a + i * 1) t) us n → IA us ((List.range n).map fun (k : Nat) => a + (k : Int)) := by
  intro n h
  obtain ⟨h1, h2⟩ := h
  have hv : ∀ (l : List Value) (ns : List Int), l.length = ns.length → (∀ (j : Nat) (v : Value), l[j]? = some v → ∃ x t, ns[j]? = some x ∧ v = .int x t) → IntsAre l ns := by
    intro l
    induction l with
    | nil =>
      intro ns hl _
      cases ns with
      | nil => exact .nil
      | cons => cases hl
    | cons v l ih =>
      intro ns hl hv
      cases ns with
      | nil => cases hl
      | cons x ns =>
        obtain ⟨x', t, e1, e2⟩ := hv 0 v rfl
        cases e1
        rw [e2]
        exact .cons x t (ih ns (by simpa using hl) fun j v' hj => hv (j + 1) v' (by simpa using hj))
  refine hv us.toList _ (by simp [h1]) fun j v hj => ?_
  have hj' : us[j]? = some v := by simpa using hj
  obtain ⟨t, e⟩ := h2 j v hj'
  have lt : j < n := by
    rw [← h1]
    rcases Nat.lt_or_ge j us.size with q | q
    · exact q
    · rw [Array.getElem?_eq_none q] at hj'; cases hj'
  exact ⟨a + (j : Int), t, by simp [lt], by rw [e, Int.mul_one]⟩
theorem listRng_req {w : World} {r : Addr} {a b : Int} {t u v i : Nat} {own past : Option Value} {ks : List Kd} {gens : List GenState} (ha : 0 ≤ a) (ha' : a < 1000) (hb : -1000 < b) (hb' : b < 1000) :
    ReqOk (MM w) (topG w) (Xlist [i] (fun us => IA us (upto a b))) ⟨.call (.type "list") ⟨[.ref r], []⟩, none, own, past, ks, [(r, rngO a b t u v)], gens⟩ := by
  intro Γ p s hΓ T hL ho nd hg
  have h1 := hL (r, rngO a b t u v) (by simp)
  have hn : Builtin.Range.rangeSize a b 1 = ((b - a).toNat : Int) := by
    rw [rangeSize_one]
    split <;> omega
  refine code_size (lib_code hΓ.at_ hΓ.code fun A hA _ _ => call_list_range (hA.trans hΓ.hd) h1 (small_one (by omega) (by omega) (by omega) (by omega)) hn (by omega) fun h' tk acc' c' hk hS' hacc hz => ?_)
  exact XPost.list (IA.of_items hacc) hS' (Nat.le_refl _) ⟨fun b o h _ => hk b o h, hz, rfl, rfl⟩ hg
end Mine
end
noncomputable section
open PySem PySem.W PyProof.Rows PySem.Calls
set_option maxRecDepth 100000
set_option maxHeartbeats 4000000
set_option linter.unusedVariables false
namespace Mine
noncomputable def slcO (vl vu : Value) : Obj := ⟨.type "slice", none, .fields #[vl, vu, .none], #[]⟩
/-- part of a list -/
theorem slice_reqS {w : World} {l sl : Addr} {vs : Array Value} {vl vu : Value} {lo hi : Option Int} {n i j : Nat} {hd own past : Option Value} {ks : List Kd} {gens : List GenState} (pl : IsPart vl lo) (pu : IsPart vu hi) (hz : (slicePick vs lo hi none).size ≤ 1000) :
    ReqOk (MM w) (topG w) (Xlist [i, j] (fun us => us = slicePick vs lo hi none)) ⟨biCode "list.__getitem__" [.ref l, .ref sl], hd, own, past, ks, [(l, lstObj vs n), (sl, slcO vl vu)], gens⟩ := by
  intro Γ p s hΓ T hL ho nd hg
  have h1 := hL (l, lstObj vs n) (by simp)
  have h2 := hL (sl, slcO vl vu) (by simp)
  have hT : s.TypeIs (.ref sl) "slice" := ⟨_, h2, rfl⟩
  refine lib_code hΓ.at_ hΓ.code fun A _ _ _ => wpAny_call_entry slot_list_getitem (lst_is h1).typeIs entry_list_getitem ?_ (args_list_getitem _ _)
  show wpAny _ _ (Builtin.List.listSubscript? (.ref sl) >>= _) _ _ s
  unfold Builtin.List.listSubscript?
  refine wpAny_bind (wpAny_bind (wpAny_specialOf hT slice_no_index ?_))
  simp only [Option.isNone_none, if_true]
  refine wpAny_pure ?_
  show wpAny _ _ (typeOf (.ref sl) >>= _) _ _ s
  refine wpAny_bind (wpAny_typeOf hT ?_)
  rw [if_neg (by decide), listSliceParts_eq]
  refine wpAny_bind (wpAny_bind (wpAny_field h2 rfl (x := .none) rfl (wpAny_bind (wpAny_listPart .none ?_))))
  rw [if_neg (show ¬ ((rawPart none == rawInt 0) = true) from Bool.false_ne_true)]
  refine wpAny_bind (wpAny_field h2 rfl (x := vl) rfl (wpAny_bind (wpAny_listPart pl ?_)))
  refine wpAny_bind (wpAny_field h2 rfl (x := vu) rfl (wpAny_bind (wpAny_listPart pu (wpAny_pure ?_))))
  refine wpAny_bind (m := Builtin.List.listItems (.ref l)) ?_
  unfold Builtin.List.listItems
  refine wpAny_bind (wpAny_seqItems h1 rfl (wpAny_pure ?_))
  refine wpAny_bind (wpAny_of_eq (sliceIndices_raw lo hi none vs.size (by simp)) ?_)
  refine wpAny_bind (wpAny_newObj_type (wpAny_pure ⟨_, rfl, ?_⟩) (Nat.le_trans hz (show 1000 ≤ sizeLine by rw [sizeLine_eq]; omega)))
  exact XPost.list (t := 0) rfl (Heap.get?_push_size _ rfl) (Nat.le_refl _) ⟨fun b o e _ => Heap.get?_push_of_some _ e, by rw [Heap.size_push]; omega, rfl, rfl⟩ hg
theorem slice_req {w : World} {l sl : Addr} {vs : Array Value} {vl vu : Value} {lo hi : Option Int} {n i j : Nat} {hd own past : Option Value} {ks : List Kd} {gens : List GenState} (pl : IsPart vl lo) (pu : IsPart vu hi) (hz : vs.size ≤ 1000) :
    ReqOk (MM w) (topG w) (Xlist [i, j] (fun us => us = slicePick vs lo hi none)) ⟨biCode "list.__getitem__" [.ref l, .ref sl], hd, own, past, ks, [(l, lstObj vs n), (sl, slcO vl vu)], gens⟩ := slice_reqS pl pu (Nat.le_trans (slicePick_size_le vs lo hi none) hz)
/-- a list grows by another -/
noncomputable def Xext (i j : Nat) (I : Array Value → Prop) : Xs := ⟨[i, j], fun ρ _ => (.ok (.ret .none), [lstObj ρ.vs ρ.t], []), id, fun ρ => I ρ.vs, none⟩
theorem extend_req {w : World} {l r : Addr} {xs ys : Array Value} {n m i j : Nat} {hd own past : Option Value} {ks : List Kd} {gens : List GenState} (hz : xs.size + ys.size ≤ 1000) (hij : i ≠ j) :
    ReqOk (MM w) (topG w) (Xext i j (fun vs => vs = xs ++ ys)) ⟨biCode "list.extend" [.ref l, .ref r], hd, own, past, ks, [(l, lstObj xs n), (r, lstObj ys m)], gens⟩ := by
  intro Γ p s hΓ T hL ho nd hg
  have h1 := hL (l, lstObj xs n) (by simp)
  have h2 := hL (r, lstObj ys m) (by simp)
  have hlt : ¬ (!xs.isEmpty && Builtin.List.listTooLong (xs.size + ys.size)) = true := by
    have : Builtin.List.listTooLong (xs.size + ys.size) = false := by
      unfold Builtin.List.listTooLong
      simp only [decide_eq_false_iff_not, sizeLine_eq]
      omega
    rw [this, Bool.and_false]
    exact Bool.false_ne_true
  refine lib_code hΓ.at_ hΓ.code fun A _ _ _ => call_meets F.slot_list_extend ⟨_, h1, rfl⟩ F.entry_list_extend (F.args_list_extend_2 _ _) (AutoSeq1.list_extend_list_list_0 l xs n r ys m hlt (by rw [sizeLine_eq]; omega) (by rw [sizeLine_eq]; omega)) ⟨h1, h2, ?_⟩
  obtain ⟨k, hk⟩ : ∃ k, (s.heap.update l (Obj.mapSeq fun x => x ++ ys)).get? l = some (lstObj (xs ++ ys) k) := by
    rw [Heap.get?_update_self _ h1 rfl]
    unfold Obj.mapSeq lstObj
    dsimp only
    exact ⟨_, rfl⟩
  refine ⟨⟨xS _, _, k, 0, .none, xs ++ ys, default, [], fun _ => 0⟩, rfl, rfl, rfl, rfl, ⟨hk, trivial⟩, fun y hy => (nomatch hy), List.nodup_nil, fun y hy => (nomatch hy), ?_, hg⟩
  exact Ch.put (Heap.SameBut.update ..)
end Mine
end
noncomputable section
open PySem PySem.W PyProof.Rows
set_option maxRecDepth 100000
set_option maxHeartbeats 4000000
set_option linter.unusedVariables false
namespace Mine
noncomputable def iv : Value → Int
  | .int x _ => x
  | _ => 0
/-- how many are at most x, at least x -/
noncomputable def cle (ns : List Int) (x : Int) : Nat := ns.countP (fun v => decide (v ≤ x))
noncomputable def cge (ns : List Int) (x : Int) : Nat := ns.countP (fun v => decide (x ≤ v))
noncomputable def Mid (ns : List Int) (k : Nat) (x : Int) : Prop := x ∈ ns ∧ k + 1 ≤ cle ns x ∧ ns.length - k ≤ cge ns x
theorem pre_le : ∀ (ns : List Int), ns.Pairwise (· ≤ ·) → ∀ (k : Nat) (x : Int), ns[k]? = some x → k + 1 ≤ cle ns x ∧ ns.length - k ≤ cge ns x
  | [], _, k, x, h => by simp at h
  | y :: ns, hp, k, x, h => by
    rw [List.pairwise_cons] at hp
    cases k with
    | zero =>
      simp at h
      subst h
      refine ⟨?_, ?_⟩
      · unfold cle; rw [List.countP_cons]; simp
      · unfold cge
        have : (y :: ns).countP (fun v => decide (y ≤ v)) = (y :: ns).length := by
          rw [List.countP_eq_length]
          intro v hv
          rcases List.mem_cons.mp hv with rfl | hv
          · simp
          · simpa using hp.1 v hv
        rw [this]; omega
    | succ k =>
      simp at h
      obtain ⟨h1, h2⟩ := pre_le ns hp.2 k x h
      have hy : y ≤ x := hp.1 x (List.mem_of_getElem? h)
      unfold cle cge at *
      rw [List.countP_cons, List.countP_cons]
      simp only [List.length_cons, decide_eq_true hy, if_true]
      refine ⟨by omega, ?_⟩
      split <;> omega
theorem mid_of {ns ns' : List Int} (hp : ns'.Perm ns) (hs : ns'.Pairwise (· ≤ ·)) {k : Nat} {x : Int} (hk : ns'[k]? = some x) : Mid ns k x := by
  obtain ⟨h1, h2⟩ := pre_le ns' hs k x hk
  unfold cle at h1
  unfold cge at h2
  rw [hp.countP_eq] at h1
  rw [hp.countP_eq] at h2
  rw [hp.length_eq] at h2
  exact ⟨hp.mem_iff.mp (List.mem_of_getElem? hk), h1, h2⟩
/-- canonical epochs with places for new objects -/
noncomputable def cEn (k : Nat) : Ep := { cEp [] k with n := 10000 * (k + 1) + 5000 }
namespace Median
noncomputable def kM : List Kd := [.fn, .bi "claim.caller"]
noncomputable def fnO : Bool → Nat
  | true => 71
  | false => 64
noncomputable def Xmed (i : Nat) (I : Int → Prop) : Xs := Xval [i] (fun ρ => .int (iv ρ.v) ρ.t) (fun ρ => I (iv ρ.v))
structure Dt where
  vs : Array Value
  n : Nat
  D : Nat → CD × Pos
  p : Pos
  toks : Nat
  gens : List GenState
noncomputable def SrtI (ns : List Int) (us : Array Value) : Prop := ∃ ns', IA us ns' ∧ ns'.Perm ns ∧ ns'.Pairwise (· ≤ ·)
noncomputable def xs (ns : List Int) (m : Int) (I : Int → Prop) : List Xs := [Xlist [0] (SrtI ns), XintS [2] m, Xmed 2 I]
noncomputable def sp : Sp := ⟨⟨true, true⟩, ["sorted", "len", "list.__getitem__"], [], true, 0⟩
noncomputable def cA (h : Bool) (pl : Addr) (d : Dt) : Conf := conf (cx (callCode (fnO h) [.ref pl]) kM d.D) d.p [(pl, lstObj d.vs d.n)] d.toks d.gens
/-- odd, even -/
noncomputable def sm : Bool → Int
  | true => 3
  | false => 4
noncomputable def sA (w : World) (h c : Bool) (x : Nat → Addr) (pl : Addr) (d : Dt) (ns : List Int) (m : Int) (I : Int → Prop) (ρ : Nat → Ep) : Out2 :=
  sim sp w x (fun _ => .none) (xs ns (sm c) I) (xs ns m I) cEn (cA h 4000 d) (cA h pl d) ρ
noncomputable def ix (h c : Bool) (m : Int) : Int := match h with
  | true => m.fdiv 2
  | false => match c with
    | true => m.fdiv 2
    | false => m.fdiv 2 - 1
noncomputable def pc (h c : Bool) (m : Int) : List Ob := match h with
  | true => []
  | false => [.p ((m.fmod 2 = 1) = (c = true))]
noncomputable def prA (o : Out2) (h c : Bool) (pl : Addr) (d : Dt) (m : Int) (ρ : Nat → Ep) : List Ob :=
  [.x ⟨biCode "sorted" [.ref pl], none, none, none, .fn :: kM, [(pl, lstObj d.vs d.n)], d.gens⟩,
   .x ⟨biCode "len" [.ref (ρ 0).n], none, none, none, .fn :: kM, [((ρ 0).n, lstObj (ρ 0).vs (ρ 0).t)], d.gens⟩,
   .p ((m = 0) = (false = true))] ++ pc h c m ++
  [.x ⟨biCode "list.__getitem__" [.ref (ρ 0).n, .int (ix h c m) (argTk o 2 1)], none, none, none, .fn :: kM, [((ρ 0).n, lstObj (ρ 0).vs (ρ 0).t)], d.gens⟩]
theorem factA (w : World) (a b h c : Bool) (x : Nat → Addr) (pl : Addr) (d : Dt) (ns : List Int) (m : Int) (I : Int → Prop) (ρ : Nat → Ep) :
    proj [0] (sA (wS w a b) h c x pl d ns m I ρ) = want (sA (wS w a b) h c x pl d ns m I ρ) (prA (sA (wS w a b) h c x pl d ns m I ρ) h c pl d m ρ)
      [(pl, lstObj d.vs d.n)] d.gens (.pure (.done (.ret (.int (iv (ρ 2).v) (ρ 2).t)))) (Join.codeO (sA (wS w a b) h c x pl d ns m I ρ)) := by
  cases h <;> cases c <;> cases a <;> kernel_rfl
end Median
end Mine
end
noncomputable section
open PySem PySem.W PyProof.Rows
set_option maxRecDepth 100000
set_option maxHeartbeats 4000000
set_option linter.unusedVariables false
namespace Mine
namespace Median
theorem med_of {w : World} {i : Nat} {I : Int → Prop} {v : View} {x : Int} {t : Nat} (h : ReqOk (MM w) (topG w) (Xval [i] (fun _ => .int x t) (fun _ => True)) v) (hI : I x) : ReqOk (MM w) (topG w) (Xmed i I) v := by
  intro Γ p s hΓ T hL ho nd hg
  refine wpCode_mono ?_ (h Γ p s hΓ T hL ho nd hg)
  rintro r s' ⟨ρ, h1, h2, h3, h4, h5, h6, h7, h8, h9, h10⟩
  exact ⟨⟨ρ.x, ρ.toks, t, ρ.n, .int x t, ρ.vs, ρ.o, ρ.os, ρ.tk⟩, h1, h2, hI, h4, h5, h6, h7, h8, h9, h10⟩
noncomputable def kx (h : Bool) (m : Nat) : Nat := match h with
  | true => m / 2
  | false => (m - 1) / 2
theorem req {w : World} {a b h : Bool} {pl : Addr} {vs : Array Value} {n i : Nat} {ns : List Int} {gens : List GenState} (hv : IA vs ns) (hz : ns.length < 64) (hne : ns ≠ []) :
    ReqOk (MM (wS w a b)) (topG (wS w a b)) (Xmed i (Mid ns (kx h ns.length))) ⟨callCode (fnO h) [.ref pl], none, none, none, kM, [(pl, lstObj vs n)], gens⟩ := by
  have hpos : 0 < ns.length := List.length_pos_iff.mpr hne
  refine req_of rfl fun D p s T hL ho nd hg => ?_
  obtain ⟨c, hc⟩ : ∃ c, decide (ns.length % 2 = 1) = c := ⟨_, rfl⟩
  have hmod : (ns.length : Int).fmod 2 = (ns.length % 2 : Nat) := by rw [Int.fmod_eq_emod_of_nonneg _ (by omega)]; omega
  have hdiv : (ns.length : Int).fdiv 2 = (ns.length / 2 : Nat) := by rw [Int.fdiv_eq_ediv_of_nonneg _ (by omega)]; omega
  have hix : ix h c ns.length = (kx h ns.length : Nat) := by
    cases h
    · cases c
      · have : ¬ ns.length % 2 = 1 := of_decide_eq_false hc
        show (ns.length : Int).fdiv 2 - 1 = ((ns.length - 1) / 2 : Nat)
        rw [hdiv]; omega
      · have : ns.length % 2 = 1 := of_decide_eq_true hc
        show (ns.length : Int).fdiv 2 = ((ns.length - 1) / 2 : Nat)
        rw [hdiv]; omega
    · exact hdiv
  have hkx : kx h ns.length < ns.length := by cases h <;> (show _ / 2 < _; omega)
  refine sim_go (led := [(pl, lstObj vs n)]) sp (fun _ => .none) _ (xs ns ns.length (Mid ns (kx h ns.length))) cEn _ [0]
    (fun ρ => factA w a b h c (xS s) pl ⟨vs, n, D, p, s.toks, gens⟩ ns ns.length (Mid ns (kx h ns.length)) ρ) T hL (by simp) ho hg (fun ρ => ?_) ?_
  · have r1 : ReqOk (MM (wS w a b)) (topG (wS w a b)) (Xlist [0] (SrtI ns)) ⟨biCode "sorted" [.ref pl], none, none, none, .fn :: kM, [(pl, lstObj vs n)], gens⟩ := sorted_req hv hz
    have h0 : (((ns.length : Int) = 0) = (false = true)) := by
      refine propext ⟨fun q => by omega, fun q => by cases q⟩
    refine ⟨r1, fun hI => ?_⟩
    obtain ⟨ns', g1, g2, g3⟩ : SrtI ns (ρ 0).vs := hI
    have hl' : (ρ 0).vs.size = ns.length := by rw [g1.size, g2.length_eq]
    refine ⟨by rw [← hl']; exact len_req (by omega), fun _ => ⟨h0, ?_⟩⟩
    obtain ⟨x, hx⟩ : ∃ x, ns'[kx h ns.length]? = some x := ⟨_, List.getElem?_eq_getElem (by rw [g2.length_eq]; exact hkx)⟩
    obtain ⟨t, ht⟩ := g1.at hx
    have r2 : ∀ u, ReqOk (MM (wS w a b)) (topG (wS w a b)) (Xmed 2 (Mid ns (kx h ns.length))) ⟨biCode "list.__getitem__" [.ref (ρ 0).n, .int (ix h c ns.length) u], none, none, none, .fn :: kM, [((ρ 0).n, lstObj (ρ 0).vs (ρ 0).t)], gens⟩ := by
      intro u
      rw [hix]
      exact med_of (x := x) (t := t) (item_req (Int.natCast_nonneg _) (by omega) (by rw [Int.toNat_natCast]; exact ht)) (mid_of g2 g3 hx)
    cases h
    · refine ⟨?_, r2 _, fun _ => trivial⟩
      rw [hmod]
      cases c
      · have : ¬ ns.length % 2 = 1 := of_decide_eq_false hc
        exact propext ⟨fun q => by omega, fun q => by cases q⟩
      · have : ns.length % 2 = 1 := of_decide_eq_true hc
        exact propext ⟨fun q => rfl, fun q => by omega⟩
    · exact ⟨r2 _, fun _ => trivial⟩
  · intro ρ s' p' hI F
    exact goes_done (XPost.val (ρ 2).t 0 (ρ 2).v #[] hI.2.2.1 rfl (F.ch.less (L1 := []) (Rd := [(pl, lstObj vs n)]) hL F.led (by simp)) F.gens)
end Median
end Mine
end
noncomputable section
open PySem PySem.W PyProof.Rows
set_option maxRecDepth 100000
set_option maxHeartbeats 4000000
set_option linter.unusedVariables false
namespace Mine
/-- a run of given events from any tree -/
theorem es_goT {w : World} {R : Result → Shared → Prop} {s : Shared} {Γ : Ctx} {p : Pos} {led : List (Addr × Obj)} {gens : List GenState} (t0 : Sem Fin) (es : List Ev) (it : Nat → Value) (xs : List Xs) (pick : List Nat)
    {pr : (Nat → Ep) → List Ob} {led' : (Nat → Ep) → List (Addr × Obj)} {gens' : (Nat → Ep) → List GenState} {t' : (Nat → Ep) → Sem Fin} {Γ' : (Nat → Ep) → Ctx}
    (F : ∀ ρ, proj pick (runE es w (xS s) it xs (confT Γ p t0 led s.toks gens) ρ) = want (runE es w (xS s) it xs (confT Γ p t0 led s.toks gens) ρ) (pr ρ) (led' ρ) (gens' ρ) (t' ρ) (Γ' ρ))
    (T : TopIn w s) (hL : Led s led) (nd : (led.map (·.1)).Nodup) (off : Off (topG w) led) (hg : s.gens = gens.toArray)
    (H : ∀ ρ, AllObs (MM w) (topG w) xs ρ (pr ρ))
    (next : ∀ ρ s' p', Is xs ρ → After w s (led.map (·.1)) pick (led' ρ) (gens' ρ) s' → Goes (MM w) R (Γ' ρ) p' (t' ρ) .base s') : Goes (MM w) R Γ p t0 .base s := by
  have f : ∀ ρ, (runE es w (xS s) it xs (confT Γ p t0 led s.toks gens) ρ).ok = true ∧ (runE es w (xS s) it xs (confT Γ p t0 led s.toks gens) ρ).ob.map (·.1) = (runE es w (xS s) it xs (confT Γ p t0 led s.toks gens) ρ).ob.map (·.2) ∧
      (runE es w (xS s) it xs (confT Γ p t0 led s.toks gens) ρ).pr.reverse = pr ρ ∧ pickO (runE es w (xS s) it xs (confT Γ p t0 led s.toks gens) ρ).c.led pick = some (led' ρ) ∧ (runE es w (xS s) it xs (confT Γ p t0 led s.toks gens) ρ).c.gens = gens' ρ ∧
      (runE es w (xS s) it xs (confT Γ p t0 led s.toks gens) ρ).c.t = t' ρ ∧ (runE es w (xS s) it xs (confT Γ p t0 led s.toks gens) ρ).c.κ = .base ∧ (runE es w (xS s) it xs (confT Γ p t0 led s.toks gens) ρ).c.Γ = Γ' ρ := by
    intro ρ
    have := F ρ
    simp only [proj, want, Prod.mk.injEq] at this
    exact this
  have key : ∀ (l : List (Addr × Addr)), l.map (·.1) = l.map (·.2) → ∀ y ∈ l, y.1 = y.2 := by
    intro l
    induction l with
    | nil => intro _ y hy; cases hy
    | cons z l ih =>
      intro e y hy
      simp only [List.map_cons, List.cons.injEq] at e
      rcases List.mem_cons.mp hy with rfl | hy
      · exact e.1
      · exact ih e.2 y hy
  have offT : ∀ a o, (EN w (xS s) it).top a = some o → ∀ y ∈ led, y.1 ≠ a := fun a o e y hy q => by
    have h1 := off y hy
    rw [q] at h1
    have e : topG w a = some o := e
    rw [h1] at e; cases e
  have r0 : Rep (EN w (xS s) it) s (led.map (·.1)) (confT Γ p t0 led s.toks gens) s :=
    ⟨fun n y e => hL y (getL_mem e), nd, T, offT, fun j => (by show s.heap.objs.size + (0 + j) = _; rw [Nat.zero_add]), fun y hy => .inl (List.mem_map_of_mem hy), Nat.le_refl _, fun _ _ e _ => e, rfl, hg, rfl, rfl⟩
  refine run2_sound (fun _ => trivial) (cmpOk w) (nextOk w) (pushOk w) es (EN w (xS s) it) (den_MM w).symm rfl xs (confT Γ p t0 led s.toks gens) s (fun ρ => (f ρ).1) (fun ρ => key _ (f ρ).2.1)
    (fun ρ => ?_) r0 (fun ρ x s' hI r => ?_)
  · have h := H ρ
    rw [← (f ρ).2.2.1] at h
    exact h
  · obtain ⟨h1, h2, h3, h4, h5, h6, h7, h8⟩ := f ρ
    have e : run2 es (EN w (xS s) it) xs ρ (confT Γ p t0 led s.toks gens) [] [] = runE es w (xS s) it xs (confT Γ p t0 led s.toks gens) ρ := rfl
    rw [e, h6, h7, h8]
    rw [e] at r
    obtain ⟨e1, e2⟩ := pickO_get h4
    have selin : ∀ y ∈ led' ρ, ∃ m, gL (runE es w (xS s) it xs (confT Γ p t0 led s.toks gens) ρ).c.led m = some y := by
      intro y hy
      obtain ⟨j, hj, ej⟩ := List.getElem_of_mem hy
      exact ⟨_, e2 j (pick[j]'(by omega)) y (List.getElem?_eq_getElem _) (by rw [← ej]; exact List.getElem?_eq_getElem _)⟩
    refine next ρ s' _ hI ⟨r.top, fun y hy => ?_, fun npick => ?_, fun y hy => ?_, ?_, ⟨r.keep, r.size, r.dr, r.os⟩, fun y hy => ?_⟩
    · obtain ⟨m, q⟩ := selin y hy
      exact r.led m y q
    · refine nd_of fun i j z g1 g2 => ?_
      simp only [List.getElem?_map, Option.map_eq_some_iff] at g1 g2
      obtain ⟨y1, g1, rfl⟩ := g1
      obtain ⟨y2, g2, g3⟩ := g2
      have li : i < (led' ρ).length := by
        rcases Nat.lt_or_ge i (led' ρ).length with h | h
        · exact h
        · rw [List.getElem?_eq_none h] at g1; cases g1
      have lj : j < (led' ρ).length := by
        rcases Nat.lt_or_ge j (led' ρ).length with h | h
        · exact h
        · rw [List.getElem?_eq_none h] at g2; cases g2
      have q1 := e2 i (pick[i]'(by omega)) y1 (List.getElem?_eq_getElem _) g1
      have q2 := e2 j (pick[j]'(by omega)) y2 (List.getElem?_eq_getElem _) g2
      have q3 := gL_inj r.nodup q1 q2 g3.symm
      exact nd_inj npick (a := pick[i]'(by omega)) (List.getElem?_eq_getElem _) (by rw [q3]; exact List.getElem?_eq_getElem _)
    · obtain ⟨m, q⟩ := selin y hy
      cases ht : topG w y.1 with
      | none => rfl
      | some o => exact absurd rfl (r.off _ _ ht y (getL_mem q))
    · rw [r.gn, h5]
    · obtain ⟨m, q⟩ := selin y hy
      exact r.newer y (getL_mem q)
/-- an entry of an exception's trace -/
noncomputable def tbO (L : Addr) (fl : Value) (tl : List Value) : Obj := ⟨.type "traceback", none, .fields ([.none, .ref L, .none, fl, .none] ++ tl).toArray, #[]⟩
structure Noted (F : List Addr) (e L : Addr) (oe : Obj) (h h' : Heap) : Prop where
  keep : ∀ b o, h.get? b = some o → b ∉ F → b ≠ e → h'.get? b = some o
  slots : ∀ b o, b ∈ F → h.get? b = some o → (∀ vs, o.data ≠ .fields vs) → ∃ sl, h'.get? b = some { o with slots := sl }
  exc : ∃ T tl, h.objs.size ≤ T ∧ h'.get? e = some (oe.mapFields (·.setIfInBounds 1 (.ref T))) ∧ h'.get? T = some (tbO L (rawInt L) tl)
theorem fun_frames {h : Heap} {env : Env} {outer : List Env} (e : Addr) (hl : FnFrames h (env :: outer)) : h.FunFrames (hide h (e :: (env :: outer).filterMap (·.frame))) (env :: outer) := by
  have key : ∀ l : List Env, (∀ en ∈ l, en ∈ env :: outer) → h.FunFrames (hide h (e :: (env :: outer).filterMap (·.frame))) l := by
    intro l
    induction l with
    | nil => intro _; trivial
    | cons en l ih =>
      intro hm
      obtain ⟨k1, L2, o, g1, g2, g3⟩ := hl en (hm en List.mem_cons_self)
      refine ⟨k1, ⟨L2, o, g1, ?_, g2, g3⟩, ih fun en' h' => hm en' (List.mem_cons_of_mem _ h')⟩
      exact (hide_get h L2 _).1 (List.mem_cons_of_mem _ (List.mem_filterMap.mpr ⟨en, hm en List.mem_cons_self, g1⟩))
  exact key _ fun en h => h
theorem note_any {M : Model} {A : Around} {E : Value → Shared → Prop} {s : Shared} {env : Env} {outer : List Env} {L e : Addr} {oe : Obj} {vs : Array Value} {Q : Unit → Shared → Prop}
    (hfr : A.frames = some (env :: outer)) (hl : FnFrames s.heap (env :: outer)) (hf : env.frame = some L) (he : s.heap.get? e = some oe) (hd : oe.data = .fields vs) (h1 : vs[1]? = some .none)
    (h : ∀ h', Noted ((env :: outer).filterMap (·.frame)) e L oe s.heap h' → Q () { s with heap := h' }) : wpAny M A (noteFrame (.ref e) env) Q E s := by
  have hsz : 1 < vs.size := (Array.getElem?_eq_some_iff.mp h1).1
  have hene : e ∉ (env :: outer).filterMap (·.frame) := fun hm => by
    obtain ⟨en, hen, hq⟩ := List.mem_filterMap.mp hm
    obtain ⟨_, L2, o, g1, g2, g3⟩ := hl en hen
    rw [hq] at g1; cases g1
    rw [he] at g2; cases g2
    exact g3 vs hd
  unfold noteFrame
  simp only [hf]
  refine wpAny_bind (wpAny_field he hd h1 ?_)
  rw [if_neg (by decide)]
  refine wpAny_bind (wpAny_frameOf_fun hfr (fun_frames e hl) hf fun h₁ hs₁ => ?_)
  refine wpAny_bind (wpAny_entryPlaceOf fun pl hpl => ?_)
  unfold EntryCells.newEntry newFields
  refine wpAny_bind (wpAny_newObj_type ?_ (hpl.sizeOk5 _ _ _ _ _))
  have he₁ : h₁.get? e = some oe := (hs₁.2.1 e hene).trans he
  generalize htl : (if pl.isEmpty then List.replicate 6 Value.none else pl) = tl
  have he₂ := Heap.get?_push_of_some (h := h₁) (tbO L (rawInt L) tl) he₁
  refine wpAny_setField he₂ hd hsz (h _ ?_)
  have hTe : h₁.objs.size ≠ e := Nat.ne_of_gt (Heap.lt_size he₁)
  have hd₃ := Obj.data_mapFields hd (·.setIfInBounds 1 (Value.ref h₁.objs.size))
  have he₃ := Heap.get?_update_self (Obj.mapFields (·.setIfInBounds 1 (Value.ref h₁.objs.size))) he₂ (Obj.isFreed_of_fields hd₃)
  have keep : ∀ b o, b ≠ e → h₁.get? b = some o → ((h₁.push (tbO L (rawInt L) tl)).update e (Obj.mapFields (·.setIfInBounds 1 (Value.ref h₁.objs.size)))).get? b = some o := fun b o hbe hb => by
    rw [Heap.get?_update_other _ _ (Ne.symm hbe)]
    exact Heap.get?_push_of_some _ hb
  have hT₃ := (Heap.get?_update_other (h₁.push (tbO L (rawInt L) tl)) (Obj.mapFields (·.setIfInBounds 1 (Value.ref h₁.objs.size))) (Ne.symm hTe)).trans (Heap.get?_push_size h₁ rfl)
  refine ⟨fun b o hb hF hbe => keep b o hbe ((hs₁.2.1 b hF).trans hb), fun b o hF hb hn => ?_, h₁.objs.size, tl, Nat.le_of_eq hs₁.1.symm, he₃, hT₃⟩
  obtain ⟨sl, hs⟩ := hs₁.2.2 b o hb
  exact ⟨sl, keep b _ (fun q => by rw [q, he] at hb; cases hb; exact hn vs hd) hs⟩
end Mine
end
noncomputable section
open PySem PySem.W PyProof.Rows PySem.Calls
set_option maxRecDepth 100000
set_option maxHeartbeats 4000000
set_option linter.unusedVariables false
namespace Mine
/-- an IndexError: its texts, its trace, what was handled when it came -/
noncomputable def excO (t tb ctx : Value) : Obj := ⟨.type "IndexError", none, .fields #[t, tb, ctx, .none, .bool false, .none], #[]⟩
/-- no such item, nothing handled -/
noncomputable def Xmiss (i : Nat) : Xs := ⟨[i], fun ρ _ => (.error (.ref ρ.n), [], [(ρ.n, excO ρ.v .none .none)]), id, fun _ => True, none⟩
/-- no such item while another exception is handled -/
noncomputable def XmissH (i ih : Nat) (h : Addr) : Xs := ⟨[i, ih], fun ρ _ => (.error (.ref ρ.n), [], [(ρ.n, excO ρ.v .none (.ref h))]), id, fun _ => True, none⟩
theorem raise0 {α : Type} {M : Model} {A : Around} {E : Value → Shared → Prop} {s : Shared} {msg : String} {Q : α → Shared → Prop} (hh : A.handled = none)
    (h : ∀ t tk, E (.ref (s.heap.objs.size + 1)) { s with heap := (s.heap.push (tupObj [.str msg t])).push (excO (.ref s.heap.objs.size) .none .none), toks := tk }) :
    wpAny M A (raiseErrorWords "IndexError" msg : Sem α) Q E s := by
  unfold raiseErrorWords
  refine wpAny_bind (wpAny_mkText (wpAny_bind ?_))
  unfold newExc newTuple
  refine wpAny_bind (wpAny_newObj_type ?_)
  refine wpAny_bind (m := firstArgMember _ _) (wpAny_of_eq (a := Value.none) (by simp only [firstArgMember, plainExc_IndexError.first]; rfl) ?_)
  rw [plainExc_IndexError.own]
  refine wpAny_newObj_type ?_
  unfold raiseNew
  refine wpAny_bind (wpAny_handled ?_)
  rw [hh]
  refine wpAny_throw ?_
  rw [Heap.size_push]
  exact h _ _
theorem entry_unchain : entryFor table "proto.unchain" = some Builtin.«proto.unchain» := entryFor_of_tree (by kernel_rfl)
theorem plain_unchain : plainId "proto.unchain" = true := by decide +kernel
theorem raise1 {α : Type} {prog : Program} {w : World} {A : Around} {E : Value → Shared → Prop} {s : Shared} {msg : String} {Q : α → Shared → Prop} {e : Addr} {oe : Obj} {vs : Array Value} (hh : A.handled = some (.ref e)) (he : s.heap.get? e = some oe) (hd : oe.data = .fields vs) (h2 : vs[2]? = some .none)
    (h : ∀ (tk : Nat) (h' : Heap), (∀ b o, s.heap.get? b = some o → h'.get? b = some o) → s.heap.objs.size + 2 ≤ h'.objs.size → h'.get? (s.heap.objs.size + 1) = some (excO (.ref s.heap.objs.size) .none (.ref e)) → E (.ref (s.heap.objs.size + 1)) { s with heap := h', toks := tk }) :
    wpAny (model prog w) A (raiseErrorWords "IndexError" msg : Sem α) Q E s := by
  unfold raiseErrorWords
  refine wpAny_bind (wpAny_mkText (wpAny_bind ?_))
  unfold newExc newTuple
  refine wpAny_bind (wpAny_newObj_type ?_)
  refine wpAny_bind (m := firstArgMember _ _) (wpAny_of_eq (a := Value.none) (by simp only [firstArgMember, plainExc_IndexError.first]; rfl) ?_)
  rw [plainExc_IndexError.own]
  refine wpAny_newObj_type ?_
  unfold raiseNew
  refine wpAny_bind (wpAny_handled ?_)
  rw [hh, Heap.size_push]
  have hlt : e < s.heap.objs.size := Heap.lt_size he
  have hne : s.heap.objs.size + 1 ≠ e := Nat.ne_of_gt (Nat.lt_succ_of_lt hlt)
  have he' := Heap.get?_push_of_some (excO (.ref s.heap.objs.size) .none .none) (Heap.get?_push_of_some (tupObj [.str msg s.toks]) he)
  have hx : ((s.heap.push (tupObj [.str msg s.toks])).push (excO (.ref s.heap.objs.size) .none .none)).get? (s.heap.objs.size + 1) = some (excO (.ref s.heap.objs.size) .none .none) := by
    have := Heap.get?_push_size (s.heap.push (tupObj [.str msg s.toks])) (o := excO (.ref s.heap.objs.size) .none .none) rfl
    rw [Heap.size_push] at this
    exact this
  show wpAny _ _ (if (Value.ref e != Value.ref (s.heap.objs.size + 1)) = true then _ else _) _ _ _
  rw [if_pos (bne_iff_ne.mpr fun q => hne (by injection q with q; exact q.symm))]
  refine wpAny_bind (wpAny_holding (wpAny_runValue (codeAny_builtin entry_unchain ?_)))
  rw [Around.under_plainId plain_unchain]
  show wpAny _ _ (field (.ref e) 2 >>= _) _ _ _
  refine wpAny_bind (wpAny_field he' hd h2 ?_)
  rw [if_pos (by decide)]
  refine wpAny_pure ?_
  show wpAny _ _ (updateField (s.heap.objs.size + 1) 2 (.ref e) >>= _) _ _ _
  refine wpAny_bind (wpAny_setField (vs := #[.ref s.heap.objs.size, .none, .none, .none, .bool false, .none]) hx rfl (show 2 < 6 by decide) (wpAny_throw ?_))
  refine h _ _ (fun b o hb => ?_) ?_ ?_
  · have hl : b < s.heap.objs.size := Heap.lt_size hb
    refine (Heap.get?_update_other _ _ (Nat.ne_of_gt (Nat.lt_succ_of_lt hl))).trans ?_
    exact Heap.get?_push_of_some _ (Heap.get?_push_of_some _ hb)
  · rw [Heap.size_update, Heap.size_push, Heap.size_push]
    exact Nat.le_refl _
  · exact (Heap.get?_update_self _ hx rfl).trans rfl
end Mine
end
noncomputable section
open PySem PySem.W PyProof.Rows PySem.Calls
set_option maxRecDepth 100000
set_option maxHeartbeats 4000000
set_option linter.unusedVariables false
namespace Mine
theorem miss_any {w : World} {A : Around} {s : Shared} {l : Addr} {vs : Array Value} {n u : Nat} {k : Int} {Q : Value → Shared → Prop} {E : Value → Shared → Prop} (h0 : 0 ≤ k) (hz : k < 1000) (hx : vs.size ≤ k.toNat) (h1 : s.heap.get? l = some (lstObj vs n))
    (h : wpAny (MM w) A.in1 (raiseErrorWords "IndexError" "list index out of range" : Sem Unit) (fun _ _ => False) E s) : wpAny (MM w) A (call (.builtin "list.__getitem__") [.ref l, .int k u]) Q E s := by
  refine wpAny_call_entry slot_list_getitem (lst_is h1).typeIs entry_list_getitem ?_ (args_list_getitem _ _)
  show wpAny _ _ (Builtin.List.listSubscript? (.int k u) >>= _) _ _ s
  refine wpAny_bind (wpAny_listSubscript_int (fitsIndex_of h0 (by omega)) ?_)
  clear hz
  obtain ⟨j, rfl⟩ := Int.eq_ofNat_of_zero_le h0
  have hx' : vs[j]? = none := Array.getElem?_eq_none hx
  show wpAny _ _ ((seqItemAt l j >>= fun r => pure (r.map (j, ·))) >>= _) _ _ s
  refine wpAny_bind (wpAny_bind (wpAny_seqItemAt h1 rfl (wpAny_pure ?_)))
  rw [hx']
  refine wpAny_bind (wpAny_rule ?_)
  first
    | exact wpAny_mono h (fun _ _ q => False.elim q) (fun _ _ q => q)
    | exact wpAny_bind (wpAny_mono h (fun _ _ q => False.elim q) (fun _ _ q => q))
theorem miss_req {w : World} {l : Addr} {vs : Array Value} {n i u : Nat} {k : Int} {own past : Option Value} {ks : List Kd} {gens : List GenState} (h0 : 0 ≤ k) (hz : k < 1000) (hx : vs.size ≤ k.toNat) :
    ReqOk (MM w) (topG w) (Xmiss i) ⟨biCode "list.__getitem__" [.ref l, .int k u], none, own, past, ks, [(l, lstObj vs n)], gens⟩ := by
  intro Γ p s hΓ T hL ho nd hg
  have h1 := hL (l, lstObj vs n) (by simp)
  refine code_size (lib_code hΓ.at_ hΓ.code fun A hA _ _ => miss_any h0 hz hx h1 (raise0 (hA.trans hΓ.hd) fun t tk hz => ?_))
  refine ⟨⟨xS _, _, 0, s.heap.objs.size + 1, .ref s.heap.objs.size, #[], default, [], fun _ => 0⟩, rfl, rfl, trivial, rfl, trivial, fun y hy => ?_, by simp [Xmiss], fun y hy => by simp [Xmiss] at hy; subst hy; exact Nat.le_succ _, ⟨fun b o h _ => Heap.get?_push_of_some _ (Heap.get?_push_of_some _ h), hz, rfl, rfl⟩, hg⟩
  simp [Xmiss] at hy
  subst hy
  have := Heap.get?_push_size (s.heap.push (tupObj [.str "list index out of range" t])) (o := excO (.ref s.heap.objs.size) .none .none) rfl
  rw [Heap.size_push] at this
  exact this
theorem missH_req {w : World} {l e : Addr} {vs : Array Value} {n i j u : Nat} {k : Int} {t tb : Value} {own past : Option Value} {ks : List Kd} {gens : List GenState} (h0 : 0 ≤ k) (hz : k < 1000) (hx : vs.size ≤ k.toNat) :
    ReqOk (MM w) (topG w) (XmissH i j e) ⟨biCode "list.__getitem__" [.ref l, .int k u], some (.ref e), own, past, ks, [(l, lstObj vs n), (e, excO t tb .none)], gens⟩ := by
  intro Γ p s hΓ T hL ho nd hg
  have h1 := hL (l, lstObj vs n) (by simp)
  have h2 := hL (e, excO t tb .none) (by simp)
  refine lib_code hΓ.at_ hΓ.code fun A hA _ _ => miss_any h0 hz hx h1 (raise1 (hA.trans hΓ.hd) h2 rfl rfl fun tk h' hk hz he => ?_)
  refine ⟨⟨xS _, _, 0, s.heap.objs.size + 1, .ref s.heap.objs.size, #[], default, [], fun _ => 0⟩, rfl, rfl, trivial, rfl, trivial, fun y hy => ?_, by simp [XmissH], fun y hy => by simp [XmissH] at hy; subst hy; exact Nat.le_succ _, ⟨fun b o h _ => hk b o h, Nat.le_trans (Nat.le_add_right _ 2) hz, rfl, rfl⟩, hg⟩
  simp [XmissH] at hy
  subst hy
  exact he
end Mine
end
noncomputable section
open PySem PySem.W PyProof.Rows
set_option maxRecDepth 100000
set_option maxHeartbeats 4000000
set_option linter.unusedVariables false
namespace Mine
/-- the token of a name's value -/
noncomputable def vtk (o : Out2) (i j : Nat) : Nat := match gL o.c.led i with
  | some (_, ⟨_, _, .dict es _, _⟩) => match es.toList[j]? with
    | some e => tokV e.val
    | none => 0
  | _ => 0
namespace Sld
noncomputable def W : Stmt := nthS (fBody [33]) 3
noncomputable def fn (A : Nat → Addr) : Env := fenv 33 "sorted_list_difference" 793 792 (A 0) []
noncomputable def wl (A : Nat → Addr) : Code := .whileLoop (stE W) (stB W) [] (fn A)
noncomputable def kW : List Kd := [.fn, .fn, .bi "claim.caller"]
structure Dt where
  es : Array Value
  as : Array Value
  ms : Array Value
  us : Array Value
  ne : Nat
  na : Nat
  nm : Nat
  nu : Nat
  i : Int
  j : Int
  ti : Nat
  tj : Nat
  tk : Nat → Nat
  ev : Value
  av : Value
  te : Nat
  ta : Nat
  tn : Nat
  tm : Nat
  D : Nat → CD × Pos
  p : Pos
  toks : Nat
  gens : List GenState
  sl : Array (Option Value)
/-- a frame with its slots -/
noncomputable def frS (P : Params) (es : List (String × Value)) (tk : Nat → Nat) (n : Nat) (sl : Array (Option Value)) : Obj := ⟨.type "frame", none, .dict (ents P es tk).toArray n, sl⟩
noncomputable def fr (P : Params) (A : Nat → Addr) (nb : Bool) (d : Dt) : Obj := match nb with
  | true => frS P [("expected", .ref (A 1)), ("actual", .ref (A 2)), ("i", .int d.i d.ti), ("j", .int d.j d.tj), ("missing", .ref (A 3)), ("unexpected", .ref (A 4))] d.tk 6 d.sl
  | false => frS P [("expected", .ref (A 1)), ("actual", .ref (A 2)), ("i", .int d.i d.ti), ("j", .int d.j d.tj), ("missing", .ref (A 3)), ("unexpected", .ref (A 4)), ("e", d.ev), ("a", d.av)] d.tk 8 d.sl
noncomputable def led (P : Params) (A : Nat → Addr) (nb : Bool) (d : Dt) : List (Addr × Obj) := [(A 0, fr P A nb d), (A 1, lstObj d.es d.ne), (A 2, lstObj d.as d.na), (A 3, lstObj d.ms d.nm), (A 4, lstObj d.us d.nu)]
noncomputable def cT (P : Params) (A : Nat → Addr) (nb : Bool) (d : Dt) : Conf := conf (cx (wl A) kW d.D) d.p (led P A nb d) d.toks d.gens
inductive Br3 where
  | lt | gt | eq
noncomputable def Xitem (i : Nat) (v : Int) (t : Nat) : Xs := Xval [i] (fun _ => .int v t) (fun _ => True)
noncomputable def xs (g : Br3) (d : Dt) (e a e' a' : Int) : List Xs := match g with
  | .lt => [Xitem 1 e d.te, Xitem 2 a d.ta, Xitem 1 e' d.tn]
  | .gt => [Xitem 1 e d.te, Xitem 2 a d.ta, Xitem 2 a' d.tn]
  | .eq => [Xitem 1 e d.te, Xitem 2 a d.ta, Xitem 1 e' d.tn, Xitem 2 a' d.tm]
noncomputable def sE : Br3 → Int
  | .lt => 1
  | .gt => 3
  | .eq => 2
noncomputable def sp : Sp := ⟨⟨true, true⟩, ["list.__getitem__"], [], true, 0⟩
noncomputable def sT (w : World) (x A : Nat → Addr) (nb : Bool) (g : Br3) (d : Dt) (e a e' a' : Int) (ρ : Nat → Ep) : Out2 :=
  sim sp w x (fun _ => .none) (xs g d (sE g) 2 9 9) (xs g d e a e' a') cEn (cT w.params (fun j => 4000 + j) nb d) (cT w.params A nb d) ρ
noncomputable def gi (A : Nat → Addr) (d : Dt) (q : Nat) (k : Int) (u : Nat) (ks : List Kd) : Ob := match q with
  | 1 => .x ⟨biCode "list.__getitem__" [.ref (A 1), .int k u], none, none, none, ks, [(A 1, lstObj d.es d.ne)], d.gens⟩
  | _ => .x ⟨biCode "list.__getitem__" [.ref (A 2), .int k u], none, none, none, ks, [(A 2, lstObj d.as d.na)], d.gens⟩
noncomputable def pr (o : Out2) (A : Nat → Addr) (d : Dt) (g : Br3) (e a e' a' : Int) : List Ob :=
  [gi A d 1 d.i d.ti (.wh :: kW), gi A d 2 d.j d.tj (.wh :: kW)] ++ match g with
  | .lt => [.p ((e < a) = (true = true)), .p (PushP (lstObj d.ms d.nm)), gi A d 1 (d.i + 1) (argTk o 2 1) (.wh :: .wh :: kW), .p ((e' = e) = (false = true))]
  | .gt => [.p ((e < a) = (false = true)), .p ((e > a) = (true = true)), .p (PushP (lstObj d.us d.nu)), gi A d 2 (d.j + 1) (argTk o 2 1) (.wh :: .wh :: kW), .p ((a' = a) = (false = true))]
  | .eq => [.p ((e < a) = (false = true)), .p ((e > a) = (false = true)), gi A d 1 (d.i + 1) (argTk o 2 1) (.wh :: .wh :: kW), .p ((e' = e) = (false = true)), gi A d 2 (d.j + 1) (argTk o 3 1) (.wh :: .bl :: .wh :: kW), .p ((a' = a) = (false = true))]
noncomputable def Dt.next (d : Dt) (g : Br3) (e a : Int) (ti tj : Nat) (tk : Nat → Nat) : Dt :=
  let d := { d with tk := tk, ev := .int e d.te, av := .int a d.ta }
  match g with
  | .lt => { d with i := d.i + 1, ti := ti, ms := d.ms.push (.int e d.te), nm := d.nm + 1 }
  | .gt => { d with j := d.j + 1, tj := tj, us := d.us.push (.int a d.ta), nu := d.nu + 1 }
  | .eq => { d with i := d.i + 1, ti := ti, j := d.j + 1, tj := tj }
noncomputable def FactT (w : World) (P : Params) (nb : Bool) (g : Br3) (x A : Nat → Addr) (d : Dt) (e a e' a' : Int) (ρ : Nat → Ep) : Prop :=
    proj [0, 1, 2, 3, 4] (sT w x A nb g d e a e' a' ρ) =
    want (sT w x A nb g d e a e' a' ρ) (pr (sT w x A nb g d e a e' a' ρ) A d g e a e' a')
      (led P A false (d.next g e a (vtk (sT w x A nb g d e a e' a' ρ) 0 2) (vtk (sT w x A nb g d e a e' a' ρ) 0 3) (tks (sT w x A nb g d e a e' a' ρ) 0))) d.gens
      (.pure (.again (wl A))) (cx (wl A) kW d.D)
theorem factL (w : World) (a b nb : Bool) (x A : Nat → Addr) (d : Dt) (e a0 e' a' : Int) (ρ : Nat → Ep) : FactT (wS w a b) w.params nb .lt x A d e a0 e' a' ρ := by
  unfold FactT
  cases nb <;> cases a <;> kernel_rfl
theorem factG (w : World) (a b nb : Bool) (x A : Nat → Addr) (d : Dt) (e a0 e' a' : Int) (ρ : Nat → Ep) : FactT (wS w a b) w.params nb .gt x A d e a0 e' a' ρ := by
  unfold FactT
  cases nb <;> cases a <;> kernel_rfl
theorem factQ (w : World) (a b nb : Bool) (x A : Nat → Addr) (d : Dt) (e a0 e' a' : Int) (ρ : Nat → Ep) : FactT (wS w a b) w.params nb .eq x A d e a0 e' a' ρ := by
  unfold FactT
  cases nb <;> cases a <;> kernel_rfl
end Sld
end Mine
end
noncomputable section
open PySem PySem.W PyProof.Rows
set_option maxRecDepth 100000
set_option maxHeartbeats 4000000
set_option linter.unusedVariables false
namespace Mine
noncomputable def noteT (env : Env) (e : Addr) : Sem Fin := (do noteFrame (.ref e) env; theTreesLotGoes (.ref e) : Sem Unit).bind fun _ => .raise (.ref e)
noncomputable def stO (s : Stmt) : List Stmt := match s with
  | .If _ _ o _ => o
  | _ => []
noncomputable def stF (s : Stmt) : List Stmt := match s with
  | .Try _ _ _ f _ => f
  | _ => []
noncomputable def cxh (c : Code) (h : Option Value) (ks : List Kd) (D : Nat → CD × Pos) : Ctx := ⟨c, h, h, mkB ks D, none⟩
namespace Sld
noncomputable def tryO : Stmt := nthS (stB W) 0
noncomputable def tryI : Stmt := nthS (stO (nthS (stO (nthS (stB tryO) 2)) 0)) 1
/-- the inner loops: over the one list, over the other -/
noncomputable def wS' (q : Bool) : Stmt := match q with
  | true => nthS (stB tryI) 0
  | false => nthS (stF tryI) 1
noncomputable def wc (q : Bool) (A : Nat → Addr) : Code := .whileLoop (stE (wS' q)) (stB (wS' q)) [] (fn A)
noncomputable def blk (A : Nat → Addr) : Code := .block (stF tryI) (fn A)
noncomputable def ctxV : Option Value → Value
  | none => .none
  | some v => v
noncomputable def ledX (P : Params) (A : Nat → Addr) (d : Dt) (h : Option Addr) (t tb : Value) : List (Addr × Obj) := [(A 0, fr P A false d), (A 1, lstObj d.es d.ne), (A 2, lstObj d.as d.na)] ++ match h with
  | none => []
  | some e => [(e, excO t tb .none)]
noncomputable def cX (P : Params) (q : Bool) (ks : List Kd) (A : Nat → Addr) (d : Dt) (h : Option Addr) (t tb : Value) : Conf := confT (cxh (wc q A) (h.map .ref) ks d.D) d.p (denQ (wc q A)) (ledX P A d h t tb) d.toks d.gens
noncomputable def iq : Bool → Nat
  | true => 1
  | false => 2
noncomputable def xX (q : Bool) (h : Option Addr) : List Xs := match h with
  | none => [Xmiss (iq q)]
  | some e => [XmissH (iq q) 3 e]
noncomputable def esX (w : World) (q : Bool) (ks : List Kd) (d : Dt) (h : Bool) : List Ev :=
  can { sp with st := 15000 } w (xX q (match h with | true => some 4100 | false => none)) cEn (cX w.params q ks (fun j => 4000 + j) d (match h with | true => some 4100 | false => none) .none .none)
noncomputable def sX (w : World) (q : Bool) (ks : List Kd) (x A : Nat → Addr) (d : Dt) (h : Option Addr) (t tb : Value) (ρ : Nat → Ep) : Out2 :=
  run2 (esX w q ks d h.isSome) ⟨Join.denO, ⟨pw, w.params⟩, (topT w.params).get, x, fun _ => .none⟩ (xX q h) ρ (confT (cxh (wc q A) (h.map .ref) ks d.D) d.p (Join.denO (wc q A)) (ledX w.params A d h t tb) d.toks d.gens) [] []
noncomputable def prX (q : Bool) (ks : List Kd) (A : Nat → Addr) (d : Dt) (h : Option Addr) (t tb : Value) : List Ob := match q with
  | true => [.x ⟨biCode "list.__getitem__" [.ref (A 1), .int d.i d.ti], h.map .ref, h.map .ref, none, .wh :: ks, (A 1, lstObj d.es d.ne) :: (match h with | none => [] | some e => [(e, excO t tb .none)]), d.gens⟩]
  | false => [.x ⟨biCode "list.__getitem__" [.ref (A 2), .int d.j d.tj], h.map .ref, h.map .ref, none, .wh :: ks, (A 2, lstObj d.as d.na) :: (match h with | none => [] | some e => [(e, excO t tb .none)]), d.gens⟩]
noncomputable def kX (q : Bool) : List Kd := match q with
  | true => .wh :: kW
  | false => .bl :: .wh :: kW
noncomputable def pkX (h : Option Addr) : List Nat := match h with
  | none => [0, 1, 2, 3]
  | some _ => [0, 1, 2, 3, 4]
end Sld
end Mine
end
noncomputable section
open PySem PySem.W PyProof.Rows
set_option maxRecDepth 100000
set_option maxHeartbeats 4000000
set_option linter.unusedVariables false
namespace Mine
namespace Sld
noncomputable def FactX (w : World) (P : Params) (q : Bool) (x A : Nat → Addr) (d : Dt) (h : Option Addr) (t tb : Value) (ρ : Nat → Ep) : Prop :=
    proj (pkX h) (sX w q (kX q) x A d h t tb ρ) = want (sX w q (kX q) x A d h t tb ρ) (prX q (kX q) A d h t tb)
      (ledX P A d h t tb ++ [((ρ 0).n, excO (ρ 0).v .none (ctxV (h.map .ref)))]) d.gens (noteT (fn A) (ρ 0).n) (cxh (wc q A) (h.map .ref) (kX q) d.D)
theorem factX1 (w : World) (a b : Bool) (x A : Nat → Addr) (d : Dt) (t tb : Value) (ρ : Nat → Ep) : FactX (wS w a b) w.params true x A d none t tb ρ := by
  unfold FactX
  cases a <;> kernel_rfl
theorem factX2 (w : World) (a b : Bool) (x A : Nat → Addr) (d : Dt) (t tb : Value) (ρ : Nat → Ep) : FactX (wS w a b) w.params false x A d none t tb ρ := by
  unfold FactX
  cases a <;> kernel_rfl
theorem factX3 (w : World) (a b : Bool) (x A : Nat → Addr) (d : Dt) (e : Addr) (t tb : Value) (ρ : Nat → Ep) : FactX (wS w a b) w.params false x A d (some e) t tb ρ := by
  unfold FactX
  cases a <;> kernel_rfl
theorem factX (w : World) (a b q : Bool) (h : Option Addr) (hq : q = true → h = none) (x A : Nat → Addr) (d : Dt) (t tb : Value) (ρ : Nat → Ep) : FactX (wS w a b) w.params q x A d h t tb ρ := by
  cases q
  · cases h
    · exact factX2 w a b x A d t tb ρ
    · exact factX3 w a b x A d _ t tb ρ
  · rw [hq rfl]
    exact factX1 w a b x A d t tb ρ
theorem sX_E (w : World) (q : Bool) (x A : Nat → Addr) (d : Dt) (h : Option Addr) (t tb : Value) (ρ : Nat → Ep) :
    sX w q (kX q) x A d h t tb ρ = runE (esX w q (kX q) d h.isSome) w x (fun _ => .none) (xX q h) (cX w.params q (kX q) A d h t tb) ρ := by
  unfold sX runE cX EN
  rw [Join.denO_eq]
end Sld
end Mine
end
noncomputable section
open PySem PySem.W PyProof.Rows
set_option maxRecDepth 100000
set_option maxHeartbeats 4000000
set_option linter.unusedVariables false
namespace Mine
theorem wp_of_goes {M : Model} {R : Result → Shared → Prop} {Γ : Ctx} {p : Pos} {t : Sem Fin} {s : Shared} (h : Goes M R Γ p t .base s) : Sem.wp M Γ t (Sem.finPost M Γ R) (fun e _ s' => R (.error e) s') p s := by
  obtain ⟨e, s', h1, r, rfl, h2⟩ := h
  exact (Sem.wp_iff_runs M Γ t R p s).mpr ⟨r, s', h1, h2⟩
theorem noteT_goes {w : World} {R : Result → Shared → Prop} {Γ : Ctx} {p : Pos} {s : Shared} {env : Env} {outer : List Env} {L e : Addr} {oe : Obj} {vs : Array Value} (hc : Γ.code.envs = [])
    (hb : envsOf Γ.below = env :: outer) (hl : FnFrames s.heap (env :: outer)) (hf : env.frame = some L) (he : s.heap.get? e = some oe) (hd : oe.data = .fields vs) (h1 : vs[1]? = some .none)
    (hR : ∀ h', Noted ((env :: outer).filterMap (·.frame)) e L oe s.heap h' → R (.error (.ref e)) { s with heap := h' }) : Goes (MM w) R Γ p (noteT env e) .base s := by
  refine goes_wp ?_
  let A : Around := { (AΓ Γ).under Γ.code with frames := some (env :: outer) }
  have hin : Γ.In A := by
    have h : Γ.In ((AΓ Γ).under Γ.code) := Ctx.Below.in ⟨rfl, Nat.le_refl _, fun l hl => (nomatch hl), fun l hl => (nomatch hl), Nat.le_refl _⟩
    refine ⟨h.1, h.2.1, fun l hl => ?_, h.2.2.2.1, h.2.2.2.2⟩
    cases hl
    rw [hc, hb]; rfl
  unfold noteT
  have e0 : ((do noteFrame (.ref e) env; theTreesLotGoes (.ref e) : Sem Unit).bind fun _ => (.raise (.ref e) : Sem Fin)) = ((do noteFrame (.ref e) env; theTreesLotGoes (.ref e) : Sem Unit) >>= fun _ => (.raise (.ref e) : Sem Fin)) := rfl
  rw [e0, Sem.wp_bind']
  have h := wpAny_bind (note_any (M := MM w) (A := A) (E := fun _ _ => False) (Q := fun _ s' => wpAny (MM w) A (theTreesLotGoes (.ref e)) (fun _ s'' => R (.error (.ref e)) s'') (fun _ _ => False) s') (s := s) rfl hl hf he hd h1 (fun h' g => wpAny_theTreesLotGoes (hR h' g))) Γ p hin
  exact Sem.wp_mono _ _ _ (fun a p' s' h => h) (fun _ _ _ h => h.elim) _ _ h
/-- the envs below: this one, and another function's with its frame at F -/
noncomputable def FrsE (env : Env) (F : Addr) (envs : List Env) : Prop := ∃ law, envs = [env, law] ∧ law.frame = some F ∧ law.scope.kind ≠ .module
open Split (slO)
/-- a new exception that has been noted in its frame -/
noncomputable def getS (l : List (Addr × Obj)) (i : Nat) : Obj := match gL l i with
  | some y => y.2
  | none => default
noncomputable def Xrz (sel : List Nat) (env : Env) (L F : Addr) (ctx : Value) : Xs :=
  ⟨sel, fun ρ l => (.error (.ref ρ.n), [slO (getS l 0) (getO ρ.os 0).slots, slO (getS l 1) (getO ρ.os 1).slots], [(ρ.n, excO ρ.v (.ref ρ.t) ctx), (ρ.t, tbO L (rawInt L) ρ.vs.toList)]), id, fun _ => True, some (FrsE env F)⟩
/-- the end of a run that raises: noted here -/
theorem noted_end {w : World} {Γ : Ctx} {p : Pos} {s s0 : Shared} {env : Env} {L F e : Addr} {o1 o2 : Obj} {t ctx : Value} {sel : List Nat} {v : View} {rest : List (Addr × Obj)} (hc : Γ.code.envs = []) (hb : FrsE env F (envsOf Γ.below)) (hk : env.scope.kind ≠ .module) (hf : env.frame = some L)
    (hv : v.sel = (L, o1) :: (F, o2) :: rest) (hL : s.heap.get? L = some o1) (hF : s.heap.get? F = some o2) (hd1 : ∀ vs, o1.data ≠ .fields vs) (hd2 : ∀ vs, o2.data ≠ .fields vs) (hLF : L ≠ F) (he : s.heap.get? e = some (excO t .none ctx)) (hge : s0.heap.objs.size ≤ e) (hC : Ch [L, F] s0 s) (hg : s.gens = v.gens.toArray)
    (hlt : L < s0.heap.objs.size) (hlF : F < s0.heap.objs.size) :
    Goes (MM w) (fun r s' => s.heap.objs.size ≤ s'.heap.objs.size → ∃ ρ, XPost (Xrz sel env L F ctx) v s0 ρ r s') Γ p (noteT env e) .base s := by
  obtain ⟨law, hb, hlf, hlk⟩ := hb
  refine noteT_goes (outer := [law]) (vs := #[t, .none, ctx, .none, .bool false, .none]) hc hb ?_ hf he rfl rfl fun h' G hz => ?_
  · intro en hen
    simp at hen
    rcases hen with rfl | rfl
    · exact ⟨hk, L, o1, hf, hL, hd1⟩
    · exact ⟨hlk, F, o2, hlf, hF, hd2⟩
  · have eF : ([env, law] : List Env).filterMap (·.frame) = [L, F] := by simp [hf, hlf]
    rw [eF] at G
    obtain ⟨sl1, h1⟩ := G.slots L o1 (by simp) hL hd1
    obtain ⟨sl2, h2⟩ := G.slots F o2 (by simp) hF hd2
    obtain ⟨T, tl, g1, g2, g3⟩ := G.exc
    have hsz := hC.size
    have hz : s.heap.objs.size ≤ h'.objs.size := hz
    have hes : e < s.heap.objs.size := Heap.lt_size he
    have hTe : T ≠ e := fun q => by rw [q] at g1; exact absurd hes (Nat.not_lt.mpr g1)
    refine ⟨⟨xS { s with heap := h' }, s.toks, T, e, t, tl.toArray, default, [slO o1 sl1, slO o2 sl2], fun _ => 0⟩, rfl, rfl, trivial, rfl, ?_, ?_, ?_, ?_, ?_, hg⟩
    · rw [hv]
      exact ⟨h1, h2, by cases rest <;> trivial⟩
    · intro y hy
      simp [Xrz] at hy
      rcases hy with rfl | rfl
      · exact g2
      · exact g3
    · simp [Xrz, Ne.symm hTe]
    · intro y hy
      simp [Xrz] at hy
      rcases hy with rfl | rfl
      · exact hge
      · exact Nat.le_trans hsz g1
    · rw [hv]
      refine ⟨fun b o hb hn => ?_, Nat.le_trans hsz hz, hC.dr, hC.os⟩
      have hn : b ≠ L ∧ b ≠ F := by
        have : b ∉ [L, F] := hn
        simpa using this
      refine G.keep b o (hC.keep b o hb (by simp [hn])) (by simp [hn]) (fun q => ?_)
      have := Heap.lt_size hb
      rw [q] at this
      exact absurd this (Nat.not_lt.mpr hge)
end Mine
end
noncomputable section
open PySem PySem.W PyProof.Rows
set_option maxRecDepth 100000
set_option maxHeartbeats 4000000
set_option linter.unusedVariables false
namespace Mine
theorem goes_size {M : Model} {R : Result → Shared → Prop} {Γ : Ctx} {p : Pos} {t : Sem Fin} {s : Shared} (h : Goes M (fun r s' => s.heap.objs.size ≤ s'.heap.objs.size → R r s') Γ p t .base s) : Goes M R Γ p t .base s := by
  obtain ⟨e, s', h1, r, rfl, h2⟩ := h
  exact ⟨_, s', h1, r, rfl, h2 (runs_size h1)⟩
namespace Sld
open Split (slO)
/-- the exception that is handled, as the ledger holds it -/
noncomputable def hL (h : Option Addr) (t tb : Value) : List (Addr × Obj) := match h with
  | none => []
  | some e => [(e, excO t tb .none)]
noncomputable def Out (q : Bool) (d : Dt) : Prop := match q with
  | true => 0 ≤ d.i ∧ d.i < 1000 ∧ d.es.size ≤ d.i.toNat
  | false => 0 ≤ d.j ∧ d.j < 1000 ∧ d.as.size ≤ d.j.toNat
theorem x_req {w : World} {a b q : Bool} {h : Option Addr} (hq : q = true → h = none) {A : Nat → Addr} {d : Dt} {F : Addr} {o2 : Obj} {t tb : Value} {sel : List Nat} (hs : sel.Nodup) (ho : Out q d) (hd2 : ∀ vs, o2.data ≠ .fields vs) :
    ReqOk (MM (wS w a b)) (topG (wS w a b)) (Xrz sel (fn A) (A 0) F (ctxV (h.map .ref)))
      ⟨wc q A, h.map .ref, h.map .ref, none, kX q, (A 0, fr w.params A false d) :: (F, o2) :: (A 1, lstObj d.es d.ne) :: (A 2, lstObj d.as d.na) :: hL h t tb, d.gens⟩ := by
  refine req_ofC (by cases q <;> rfl) fun D p s hC T hLd hoff nd hg => ?_
  have nd := nd hs
  have hFr : FrsE (fn A) F (envsOf (mkB (kX q) D)) := hC _ rfl
  let d' : Dt := { d with D := D, p := p, toks := s.toks }
  have sub : (ledX w.params A d' h t tb).Sublist ((A 0, fr w.params A false d) :: (F, o2) :: (A 1, lstObj d.es d.ne) :: (A 2, lstObj d.as d.na) :: hL h t tb) := by
    cases h
    · exact (List.Sublist.refl _).cons_cons _ |>.trans (List.Sublist.cons_cons _ (List.Sublist.cons _ (List.Sublist.refl _)))
    · exact (List.Sublist.refl _).cons_cons _ |>.trans (List.Sublist.cons_cons _ (List.Sublist.cons _ (List.Sublist.refl _)))
  have hLX : Led s (ledX w.params A d' h t tb) := fun y hy => hLd y (sub.subset hy)
  refine goes_code ?_
  show Goes (MM (wS w a b)) _ (cxh (wc q A) (h.map .ref) (kX q) D) p ((MM (wS w a b)).den (wc q A)) .base s
  rw [den_MM]
  have F0 : ∀ ρ, proj (pkX h) (runE (esX (wS w a b) q (kX q) d' h.isSome) (wS w a b) (xS s) (fun _ => .none) (xX q h) (confT (cxh (wc q A) (h.map .ref) (kX q) D) p (denQ (wc q A)) (ledX w.params A d' h t tb) s.toks d.gens) ρ) = want (runE (esX (wS w a b) q (kX q) d' h.isSome) (wS w a b) (xS s) (fun _ => .none) (xX q h) (confT (cxh (wc q A) (h.map .ref) (kX q) D) p (denQ (wc q A)) (ledX w.params A d' h t tb) s.toks d.gens) ρ) (prX q (kX q) A d' h t tb)
      (ledX w.params A d' h t tb ++ [((ρ 0).n, excO (ρ 0).v .none (ctxV (h.map .ref)))]) d.gens (noteT (fn A) (ρ 0).n) (cxh (wc q A) (h.map .ref) (kX q) D) := by
    intro ρ
    have e := factX w a b q h hq (xS s) A d' t tb ρ
    unfold FactX at e
    rw [sX_E] at e
    exact e
  refine es_goT (denQ (wc q A)) (led := ledX w.params A d' h t tb) _ (fun _ => .none) (xX q h) (pkX h) F0 T hLX ((sub.map (·.1)).nodup nd) (fun y hy => hoff y (sub.subset hy)) hg (fun ρ => ?_) ?_
  · cases q
    · obtain ⟨o1, o2', o3⟩ := ho
      cases h
      · exact ⟨miss_req o1 o2' o3, fun _ => trivial⟩
      · exact ⟨missH_req o1 o2' o3, fun _ => trivial⟩
    · obtain ⟨o1, o2', o3⟩ := ho
      rw [hq rfl]
      exact ⟨miss_req o1 o2' o3, fun _ => trivial⟩
  · intro ρ s1 p1 _ G
    have G1 := G.led
    have G2 := G.ch
    have G3 := G.gens
    have G4 := G.new
    have G5 := G.nd (by cases h; (show [0, 1, 2, 3].Nodup; decide); (show [0, 1, 2, 3, 4].Nodup; decide))
    have hge : s.heap.objs.size ≤ (ρ 0).n := by
      rcases G4 ((ρ 0).n, excO (ρ 0).v .none (ctxV (h.map .ref))) (by simp) with z | z
      · exfalso
        rw [List.map_append, List.nodup_append] at G5
        exact G5.2.2 _ z (ρ 0).n (by simp) rfl
      · exact z
    have hF0 : s.heap.get? F = some o2 := hLd (F, o2) (by simp)
    have hFn : F ∉ (ledX w.params A d' h t tb).map (·.1) := by
      cases h <;> (simp [ledX, hL] at nd ⊢; obtain ⟨⟨n1, n2⟩, n3, n4⟩ := nd; simp_all [eq_comm])
    have hA0 : s.heap.get? (A 0) = some (fr w.params A false d) := hLd (A 0, fr w.params A false d) (by simp)
    refine goes_size (noted_end (o2 := o2) (F := F) rfl hFr (by decide +kernel : (fScope [33]).kind ≠ .module) rfl rfl (G1 (A 0, fr w.params A false d) (by simp [ledX, d', fr])) (G2.keep F o2 hF0 hFn) (fun vs q => by cases q) hd2 ?_ (G1 ((ρ 0).n, excO (ρ 0).v .none (ctxV (h.map .ref))) (by simp)) hge ?_ G3 (Heap.lt_size hA0) (Heap.lt_size hF0))
    · intro q
      rw [List.map_cons, List.nodup_cons] at nd
      exact nd.1 (by simp [q])
    · refine G2.less (L1 := [A 0, F]) (Rd := (ledX w.params A d' h t tb).tail) (fun y hy => hLX y (List.mem_of_mem_tail hy)) (fun y hy => G1 y (List.mem_append.mpr (.inl (List.mem_of_mem_tail hy)))) (fun q hq => ?_)
      have : q = A 0 ∨ q ∈ ((ledX w.params A d' h t tb).tail).map (·.1) := by
        cases h <;> simpa [ledX] using hq
      rcases this with z | z
      · exact .inl (by simp [z])
      · exact .inr z
end Sld
end Mine
end
noncomputable section
open PySem PySem.W PyProof.Rows
set_option maxRecDepth 100000
set_option maxHeartbeats 4000000
set_option linter.unusedVariables false
namespace Mine
/-- canonical events, the last k left out -/
noncomputable def cut (k : Nat) (es : List Ev) : List Ev := es.take (es.length - k)
/-- calls that are not run: the inner loops too, a block too -/
noncomputable def isw (wh bl : Bool) (k : Sp) (c : Conf) : Bool := match isx k c with
  | true => true
  | false => match c with
    | ⟨_, _, t, _, _, _, _, _⟩ => match t with
      | .call d _ _ _ _ => match d with
        | .whileLoop .. => wh
        | .block s _ => match s with
          | [] => false
          | _ :: _ => bl
        | _ => false
      | _ => false
noncomputable def canW (wh bl : Bool) (sp : Sp) (w : World) (xs : List Xs) (ρc : Nat → Ep) (c : Conf) : List Ev := run0 sp.m (isw wh bl sp) (stopB sp.st) 20000 (EN w (fun j => 5000 + j) (fun _ => .none)) xs ρc 0 c
noncomputable def runD (es : List Ev) (w : World) (x : Nat → Addr) (xs : List Xs) (Γ : Ctx) (p : Pos) (t : Sem Fin) (led : List (Addr × Obj)) (toks : Nat) (gens : List GenState) (ρ : Nat → Ep) : Out2 :=
  run2 es ⟨Join.denO, ⟨pw, w.params⟩, (topT w.params).get, x, fun _ => .none⟩ xs ρ (confT Γ p t led toks gens) [] []
/-- canonical epochs with places for a trace's entry -/
noncomputable def cEt (k : Nat) : Ep := { cEn k with t := 10000 * (k + 1) + 6000 }
namespace Sld
open Split (slO)
noncomputable def ledB (P : Params) (A : Nat → Addr) (d : Dt) (F : Addr) (o2 : Obj) (h : Option Addr) (t tb : Value) : List (Addr × Obj) := (A 0, fr P A false d) :: (F, o2) :: (A 1, lstObj d.es d.ne) :: (A 2, lstObj d.as d.na) :: hL h t tb
noncomputable def ixB (h : Option Addr) : List Nat := match h with
  | none => [0, 1, 2, 3]
  | some _ => [0, 1, 2, 3, 4]
noncomputable def xB (A : Nat → Addr) (F : Addr) (h : Option Addr) : List Xs := [Xrz (ixB h) (fn A) (A 0) F (ctxV (h.map .ref))]
noncomputable def kB : List Kd := .wh :: kW
noncomputable def cBk (P : Params) (A : Nat → Addr) (d : Dt) (F : Addr) (o2 : Obj) (h : Option Addr) (t tb : Value) : Conf := confT (cxh (blk A) (h.map .ref) kB d.D) d.p (denQ (blk A)) (ledB P A d F o2 h t tb) d.toks d.gens
noncomputable def hB : Bool → Option Addr
  | true => some 4100
  | false => none
noncomputable def esB (w : World) (d : Dt) (o2 : Obj) (h : Bool) (k : Nat) : List Ev :=
  cut k (canW true false sp w (xB (fun j => 4000 + j) 4050 (hB h)) cEt (cBk w.params (fun j => 4000 + j) d 4050 o2 (hB h) .none .none))
noncomputable def sB (w : World) (x A : Nat → Addr) (d : Dt) (F : Addr) (o2 : Obj) (h : Option Addr) (t tb : Value) (k : Nat) (ρ : Nat → Ep) : Out2 :=
  runD (esB w d o2 h.isSome k) w x (xB A F h) (cxh (blk A) (h.map .ref) kB d.D) d.p (Join.denO (blk A)) (ledB w.params A d F o2 h t tb) d.toks d.gens ρ
noncomputable def prB (o : Out2) (P : Params) (A : Nat → Addr) (d : Dt) (F : Addr) (o2 : Obj) (h : Option Addr) (t tb : Value) (ρ : Nat → Ep) (tj : Nat) : List Ob :=
  [.p (FrsE (fn A) F [(d.D 1).1.env, (d.D 2).1.env]),
   .x ⟨wc false A, h.map .ref, h.map .ref, none, .bl :: kB, ledB P A { d with j := d.j + 1, tj := tj } F o2 h t tb, d.gens⟩]
end Sld
end Mine
end
noncomputable section
open PySem PySem.W PyProof.Rows
set_option maxRecDepth 100000
set_option maxHeartbeats 4000000
set_option linter.unusedVariables false
namespace Mine
/-- the same at the end of a block -/
noncomputable def noteTB (env : Env) (e : Addr) : Sem Fin := do return .done (← ((do noteFrame (.ref e) env; theTreesLotGoes (.ref e) : Sem Unit).bind fun _ => (.raise (.ref e) : Sem Flow)))
namespace Sld
open Split (slO)
noncomputable def pkB (h : Option Addr) : List Nat := match h with
  | none => [0, 1, 2, 3, 4, 5]
  | some _ => [0, 1, 2, 3, 4, 5, 6]
noncomputable def dB (d : Dt) (tj : Nat) : Dt := { d with j := d.j + 1, tj := tj }
noncomputable def ledB2 (P : Params) (A : Nat → Addr) (d : Dt) (F : Addr) (o2 : Obj) (h : Option Addr) (t tb : Value) (ρ : Nat → Ep) : List (Addr × Obj) :=
  (A 0, slO (fr P A false d) (getO (ρ 0).os 0).slots) :: (F, slO o2 (getO (ρ 0).os 1).slots) :: (A 1, lstObj d.es d.ne) :: (A 2, lstObj d.as d.na) :: (hL h t tb ++ [((ρ 0).n, excO (ρ 0).v (.ref (ρ 0).t) (ctxV (h.map .ref))), ((ρ 0).t, tbO (A 0) (rawInt (A 0)) (ρ 0).vs.toList)])
noncomputable def FactB (w : World) (P : Params) (x A : Nat → Addr) (d : Dt) (F : Addr) (o2 : Obj) (h : Option Addr) (t tb : Value) (ρ : Nat → Ep) : Prop :=
    proj (pkB h) (sB w x A d F o2 h t tb 6 ρ) = want (sB w x A d F o2 h t tb 6 ρ) (prB (sB w x A d F o2 h t tb 6 ρ) P A d F o2 h t tb ρ (vtk (sB w x A d F o2 h t tb 6 ρ) 0 3))
      (ledB2 P A (dB d (vtk (sB w x A d F o2 h t tb 6 ρ) 0 3)) F o2 h t tb ρ) d.gens (noteTB (fn A) (ρ 0).n) (cxh (blk A) (h.map .ref) kB d.D)
theorem factB0 (w : World) (a b : Bool) (x A : Nat → Addr) (d : Dt) (F : Addr) (o2 : Obj) (t tb : Value) (ρ : Nat → Ep) : FactB (wS w a b) w.params x A d F o2 none t tb ρ := by
  unfold FactB
  cases a <;> kernel_rfl
theorem factB1 (w : World) (a b : Bool) (x A : Nat → Addr) (d : Dt) (F : Addr) (o2 : Obj) (e : Addr) (t tb : Value) (ρ : Nat → Ep) : FactB (wS w a b) w.params x A d F o2 (some e) t tb ρ := by
  unfold FactB
  cases a <;> kernel_rfl
end Sld
end Mine
end
noncomputable section
open PySem PySem.W PyProof.Rows
set_option maxRecDepth 100000
set_option maxHeartbeats 4000000
set_option linter.unusedVariables false
namespace Mine
theorem in_under {Γ : Ctx} : Γ.In ((AΓ Γ).under Γ.code) := Ctx.Below.in ⟨rfl, Nat.le_refl _, fun l hl => (nomatch hl), fun l hl => (nomatch hl), Nat.le_refl _⟩
theorem goes_any {w : World} {R : Result → Shared → Prop} {Γ : Ctx} {p : Pos} {s : Shared} {t : Sem Fin} (h : wpAny (MM w) ((AΓ Γ).under Γ.code) t (fun _ _ => False) (fun e s' => R (.error e) s') s) : Goes (MM w) R Γ p t .base s :=
  goes_wp (Sem.wp_mono _ _ _ (fun _ _ _ q => q.elim) (fun _ _ _ q => q) _ _ (h Γ p in_under))
theorem noteTB_again {w : World} {R : Result → Shared → Prop} {Γ : Ctx} {p : Pos} {s : Shared} {env : Env} {L e tb : Addr} {oe otb : Obj} {vs tvs : Array Value} (hf : env.frame = some L) (he : s.heap.get? e = some oe) (hd : oe.data = .fields vs) (h1 : vs[1]? = some (.ref tb))
    (htb : s.heap.get? tb = some otb) (hdt : otb.data = .fields tvs) (h3 : tvs[3]? = some (rawInt L)) (hR : R (.error (.ref e)) s) : Goes (MM w) R Γ p (noteTB env e) .base s := by
  refine goes_any ?_
  unfold noteTB
  refine wpAny_bind ?_
  have e0 : ((do noteFrame (.ref e) env; theTreesLotGoes (.ref e) : Sem Unit).bind fun _ => (.raise (.ref e) : Sem Flow)) = ((do noteFrame (.ref e) env; theTreesLotGoes (.ref e) : Sem Unit) >>= fun _ => (throw (.ref e) : Sem Flow)) := rfl
  rw [e0]
  exact wpAny_bind (wpAny_bind (wpAny_noteFrame_inFlight hf he hd h1 htb hdt h3 (wpAny_theTreesLotGoes (wpAny_throw hR))))
noncomputable def setVL : List DictEntry → Nat → Value → List DictEntry
  | [], _, _ => []
  | e :: r, k, v => match k with
    | 0 => ⟨e.hash, e.key, v⟩ :: r
    | k + 1 => e :: setVL r k v
/-- another value for a name -/
noncomputable def setV (o : Obj) (k : Nat) (v : Value) : Obj := match o with
  | ⟨c, d, dt, sl⟩ => match dt with
    | .dict es n => ⟨c, d, .dict (setVL es.toList k v).toArray n, sl⟩
    | dt => ⟨c, d, dt, sl⟩
namespace Sld
open Split (slO)
/-- the block behind it raises -/
noncomputable def Xbk (sel : List Nat) (jn : Int) (env : Env) (L F : Addr) (ctx : Value) : Xs :=
  ⟨sel, fun ρ l => (.error (.ref ρ.n), [slO (setV (getS l 0) 3 (.int jn (ρ.tk 0))) (getO ρ.os 0).slots, slO (getS l 1) (getO ρ.os 1).slots], [(ρ.n, excO ρ.v (.ref ρ.t) ctx), (ρ.t, tbO L (rawInt L) ρ.vs.toList)]), id, fun _ => True, some (FrsE env F)⟩
theorem factB (w : World) (a b : Bool) (h : Option Addr) (x A : Nat → Addr) (d : Dt) (F : Addr) (o2 : Obj) (t tb : Value) (ρ : Nat → Ep) : FactB (wS w a b) w.params x A d F o2 h t tb ρ := by
  cases h
  · exact factB0 w a b x A d F o2 t tb ρ
  · exact factB1 w a b x A d F o2 _ t tb ρ
theorem ixB_nd (h : Option Addr) : (ixB h).Nodup := by
  cases h
  · show [0, 1, 2, 3].Nodup; decide
  · show [0, 1, 2, 3, 4].Nodup; decide
theorem pkB_nd (h : Option Addr) : (pkB h).Nodup := by
  cases h
  · show [0, 1, 2, 3, 4, 5].Nodup; decide
  · show [0, 1, 2, 3, 4, 5, 6].Nodup; decide
theorem blk_req {w : World} {a b : Bool} {h : Option Addr} {A : Nat → Addr} {d : Dt} {F : Addr} {o2 : Obj} {t tb : Value} {sel : List Nat} (hs : sel.Nodup) (h0 : 0 ≤ d.j) (hz : d.j < 900) (hout : d.as.size ≤ d.j.toNat + 1) (hd2 : ∀ vs, o2.data ≠ .fields vs) :
    ReqOk (MM (wS w a b)) (topG (wS w a b)) (Xbk sel (d.j + 1) (fn A) (A 0) F (ctxV (h.map .ref))) ⟨blk A, h.map .ref, h.map .ref, none, kB, ledB w.params A d F o2 h t tb, d.gens⟩ := by
  refine req_ofC rfl fun D p s hC T hLd hoff nd hg => ?_
  have nd := nd hs
  have hFr : FrsE (fn A) F (envsOf (mkB kB D)) := hC _ rfl
  let d' : Dt := { d with D := D, p := p, toks := s.toks }
  refine goes_code ?_
  show Goes (MM (wS w a b)) _ (cxh (blk A) (h.map .ref) kB D) p ((MM (wS w a b)).den (blk A)) .base s
  rw [den_MM, ← Join.denO_eq]
  have hLX : Led s (ledB w.params A d' F o2 h t tb) := hLd
  have F0 := fun ρ => factB w a b h (xS s) A d' F o2 t tb ρ
  unfold FactB sB runD at F0
  rw [Join.denO_eq] at F0 ⊢
  refine es_goT (denQ (blk A)) (led := ledB w.params A d' F o2 h t tb) _ (fun _ => .none) (xB A F h) (pkB h) F0 T hLX nd hoff hg (fun ρ => ⟨hFr, x_req (q := false) (d := dB d' _) (fun q => nomatch q) (ixB_nd h) ⟨?_, ?_, ?_⟩ hd2, fun _ => trivial⟩) ?_
  · show 0 ≤ d.j + 1; omega
  · show d.j + 1 < 1000; omega
  · show d.as.size ≤ (d.j + 1).toNat; omega
  · intro ρ s1 p1 _ G
    have G1 := G.led
    have G2 := G.ch
    have G3 := G.gens
    have G4 := G.new
    have G5 := G.nd (pkB_nd h)
    clear G F0
    generalize vtk _ 0 3 = tj at G1 G4 G5
    have hmem : ∀ y ∈ [((ρ 0).n, excO (ρ 0).v (.ref (ρ 0).t) (ctxV (h.map .ref))), ((ρ 0).t, tbO (A 0) (rawInt (A 0)) (ρ 0).vs.toList)], y ∈ ledB2 w.params A (dB d' tj) F o2 h t tb ρ := by
      intro y hy
      unfold ledB2
      simp only [List.mem_cons, List.mem_append]
      exact .inr (.inr (.inr (.inr (.inr (by simpa using hy)))))
    have hnew : ∀ y ∈ [((ρ 0).n, excO (ρ 0).v (.ref (ρ 0).t) (ctxV (h.map .ref))), ((ρ 0).t, tbO (A 0) (rawInt (A 0)) (ρ 0).vs.toList)], s.heap.objs.size ≤ y.1 := by
      intro y hy
      rcases G4 y (hmem y hy) with z | z
      · exfalso
        have e : (ledB2 w.params A (dB d' tj) F o2 h t tb ρ).map (·.1) = (ledB w.params A d' F o2 h t tb).map (·.1) ++ [(ρ 0).n, (ρ 0).t] := by simp [ledB2, ledB]
        rw [e, List.nodup_append] at G5
        exact G5.2.2 _ z y.1 (by simp at hy ⊢; rcases hy with rfl | rfl <;> simp) rfl
      · exact z
    have hne : (ρ 0).n ≠ (ρ 0).t := by
      have e : (ledB2 w.params A (dB d' tj) F o2 h t tb ρ).map (·.1) = (ledB w.params A d' F o2 h t tb).map (·.1) ++ [(ρ 0).n, (ρ 0).t] := by simp [ledB2, ledB]
      rw [e, List.nodup_append] at G5
      have := G5.2.1
      simpa using this
    refine noteTB_again (L := A 0) (e := (ρ 0).n) (tb := (ρ 0).t) (oe := excO (ρ 0).v (.ref (ρ 0).t) (ctxV (h.map .ref))) (vs := #[(ρ 0).v, .ref (ρ 0).t, ctxV (h.map .ref), .none, .bool false, .none]) (otb := tbO (A 0) (rawInt (A 0)) (ρ 0).vs.toList) (tvs := ([.none, .ref (A 0), .none, rawInt (A 0), .none] ++ (ρ 0).vs.toList).toArray) rfl (G1 _ (hmem ((ρ 0).n, excO (ρ 0).v (.ref (ρ 0).t) (ctxV (h.map .ref))) List.mem_cons_self)) rfl rfl (G1 _ (hmem ((ρ 0).t, tbO (A 0) (rawInt (A 0)) (ρ 0).vs.toList) (List.mem_cons_of_mem _ List.mem_cons_self))) rfl (by simp) ?_
    refine ⟨⟨xS s1, s1.toks, (ρ 0).t, (ρ 0).n, (ρ 0).v, (ρ 0).vs, default, [getO (ρ 0).os 0, getO (ρ 0).os 1], fun _ => tj⟩, rfl, rfl, trivial, rfl, ?_, ?_, ?_, ?_, ?_, G3⟩
    · exact ⟨G1 (A 0, slO (fr w.params A false (dB d' tj)) (getO (ρ 0).os 0).slots) (by simp [ledB2]), G1 (F, slO o2 (getO (ρ 0).os 1).slots) (by simp [ledB2]), trivial⟩
    · intro y hy
      exact G1 y (hmem y hy)
    · show [(ρ 0).n, (ρ 0).t].Nodup
      simp [hne]
    · intro y hy
      exact hnew y hy
    · have L1 : Led s1 ((A 1, lstObj d.es d.ne) :: (A 2, lstObj d.as d.na) :: hL h t tb) := fun y hy => G1 y (by
        unfold ledB2
        refine List.mem_cons_of_mem _ (List.mem_cons_of_mem _ ?_)
        rcases List.mem_cons.mp hy with rfl | hy
        · exact List.mem_cons_self
        rcases List.mem_cons.mp hy with rfl | hy
        · exact List.mem_cons_of_mem _ List.mem_cons_self
        · exact List.mem_cons_of_mem _ (List.mem_cons_of_mem _ (List.mem_append.mpr (.inl hy))))
      refine G2.less (L1 := [A 0, F]) (Rd := (A 1, lstObj d.es d.ne) :: (A 2, lstObj d.as d.na) :: hL h t tb) (fun y hy => hLd y (List.mem_cons_of_mem _ (List.mem_cons_of_mem _ hy))) L1 (fun q hq => ?_)
      have hq : q = A 0 ∨ q = F ∨ q ∈ ((A 1, lstObj d.es d.ne) :: (A 2, lstObj d.as d.na) :: hL h t tb).map (·.1) := by
        have : q ∈ (A 0 :: F :: ((A 1, lstObj d.es d.ne) :: (A 2, lstObj d.as d.na) :: hL h t tb).map (·.1)) := hq
        simpa using this
      rcases hq with rfl | rfl | z
      · exact .inl (by simp)
      · exact .inl (by simp)
      · exact .inr z
end Sld
end Mine
end
noncomputable section
open PySem PySem.W PyProof.Rows
set_option maxRecDepth 100000
set_option maxHeartbeats 4000000
set_option linter.unusedVariables false
namespace Mine
noncomputable def stH (s : Stmt) : List ExceptHandler := match s with
  | .Try _ h _ _ _ => h
  | _ => []
/-- what comes behind the last statement of a list -/
noncomputable def seqEnd (env : Env) (f : Flow) : Sem Flow := match f with
  | .next => execs [] env
  | f => pure f
/-- what comes behind a loop's turn -/
noncomputable def flowEnd (c : Code) (f : Flow) : Sem Fin := match f with
  | .next | .cont => again c
  | .brk => pure (.done .next)
  | .ret v => pure (.done (.ret v))
/-- the events up to the n-th call that is not run, and k more -/
noncomputable def untilX : Nat → Nat → List Ev → List Ev
  | _, _, [] => []
  | 0, k, es => es.take k
  | n + 1, k, e :: es => match e with
    | .x => e :: untilX n k es
    | _ => e :: untilX (n + 1) k es
namespace Sld
open Split (slO)
noncomputable def hs : List ExceptHandler := stH tryO
noncomputable def tailW (A : Nat → Addr) (m : Sem Flow) : Sem Fin := ((m >>= seqEnd (fn A)) >>= flowEnd (wl A)).onRaise (fun x => do noteFrame x (fn A); theTreesLotGoes x)
noncomputable def tryT (A : Nat → Addr) (m : Sem Flow) : Sem Flow := tryStmt false m hs (execs [] (fn A)) [] (fn A)
noncomputable def bT (A : Nat → Addr) (m : Sem Flow) : Sem Flow := ((m >>= seqEnd (fn A)) >>= seqEnd (fn A)) >>= seqEnd (fn A)
noncomputable def tryIT (A : Nat → Addr) (m : Sem Flow) : Sem Flow := tryStmt false m [] (execs [] (fn A)) (stF tryI) (fn A)
/-- the ledger at the last turn: the caller's frame too -/
noncomputable def ledZ (P : Params) (A : Nat → Addr) (nb : Bool) (d : Dt) (F : Addr) (o2 : Obj) : List (Addr × Obj) := (A 0, fr P A nb d) :: (F, o2) :: (A 1, lstObj d.es d.ne) :: (A 2, lstObj d.as d.na) :: (A 3, lstObj d.ms d.nm) :: (A 4, lstObj d.us d.nu) :: []
noncomputable def XitemZ (i : Nat) (v : Int) (t : Nat) : Xs := Xval [i] (fun _ => .int v t) (fun _ => True)
/-- up to the raise: the one list goes on, or it does not -/
noncomputable def x9 (A : Nat → Addr) (d : Dt) (F : Addr) (e a e' : Int) : List Xs := [Xitem 2 e d.te, Xitem 3 a d.ta, Xitem 2 e' d.tn, Xbk [0, 1, 2, 3] (d.j + 1) (fn A) (A 0) F .none]
noncomputable def x7 (A : Nat → Addr) (d : Dt) (F : Addr) (e a : Int) : List Xs := [Xitem 2 e d.te, Xitem 3 a d.ta, Xrz [0, 1, 2, 3] (fn A) (A 0) F .none]
noncomputable def c9 (P : Params) (A : Nat → Addr) (nb : Bool) (d : Dt) (F : Addr) (o2 : Obj) : Conf := confT (cx (wl A) kW d.D) d.p (denQ (wl A)) (ledZ P A nb d F o2) d.toks d.gens
noncomputable def cn (j : Nat) : Addr := 4000 + j
noncomputable def es9 (w : World) (nb : Bool) (d : Dt) (o2 : Obj) : List Ev := untilX 4 4 (canW false true sp w (x9 cn d 4050 2 2 9) cEt (c9 w.params cn nb d 4050 o2))
noncomputable def es7 (w : World) (nb : Bool) (d : Dt) (o2 : Obj) : List Ev := untilX 3 4 (canW true true sp w (x7 cn d 4050 2 2) cEt (c9 w.params cn nb d 4050 o2))
noncomputable def s9 (w : World) (x A : Nat → Addr) (nb : Bool) (d : Dt) (F : Addr) (o2 : Obj) (e a e' : Int) (ρ : Nat → Ep) : Out2 :=
  runD (es9 w nb d o2) w x (x9 A d F e a e') (cx (wl A) kW d.D) d.p (Join.denO (wl A)) (ledZ w.params A nb d F o2) d.toks d.gens ρ
noncomputable def s7 (w : World) (x A : Nat → Addr) (nb : Bool) (d : Dt) (F : Addr) (o2 : Obj) (e a : Int) (ρ : Nat → Ep) : Out2 :=
  runD (es7 w nb d o2) w x (x7 A d F e a) (cx (wl A) kW d.D) d.p (Join.denO (wl A)) (ledZ w.params A nb d F o2) d.toks d.gens ρ
/-- the state of the names when e = a was seen -/
noncomputable def dQ (d : Dt) (e a : Int) (ti : Nat) (tk : Nat → Nat) : Dt := { d with tk := tk, ev := .int e d.te, av := .int a d.ta, i := d.i + 1, ti := ti }
noncomputable def pr9 (o : Out2) (P : Params) (A : Nat → Addr) (d : Dt) (F : Addr) (o2 : Obj) (e a e' : Int) (ti : Nat) (tk : Nat → Nat) : List Ob :=
  [gi A d 1 d.i d.ti kB, gi A d 2 d.j d.tj kB, .p ((e < a) = (false = true)), .p ((e > a) = (false = true)), gi A d 1 (d.i + 1) (argTk o 2 1) (.wh :: kB), .p ((e' = e) = (false = true)),
   .p (FrsE (fn A) F [(d.D 0).1.env, (d.D 1).1.env]),
   .x ⟨blk A, none, none, none, kB, ledB P A (dQ d e a ti tk) F o2 none .none .none, d.gens⟩]
noncomputable def pr7 (P : Params) (A : Nat → Addr) (d : Dt) (F : Addr) (o2 : Obj) (e a : Int) (ti : Nat) (tk : Nat → Nat) : List Ob :=
  [gi A d 1 d.i d.ti kB, gi A d 2 d.j d.tj kB, .p ((e < a) = (false = true)), .p ((e > a) = (false = true)),
   .p (FrsE (fn A) F [(d.D 0).1.env, (d.D 1).1.env]),
   .x ⟨wc true A, none, none, none, kB, ledB P A (dQ d e a ti tk) F o2 none .none .none, d.gens⟩]
/-- the ledger behind a raise -/
noncomputable def led9 (P : Params) (A : Nat → Addr) (d : Dt) (F : Addr) (o2 : Obj) (r : Ep) (ctx : Value) : List (Addr × Obj) :=
  (A 0, slO (fr P A false d) (getO r.os 0).slots) :: (F, slO o2 (getO r.os 1).slots) :: (A 1, lstObj d.es d.ne) :: (A 2, lstObj d.as d.na) :: (A 3, lstObj d.ms d.nm) :: (A 4, lstObj d.us d.nu) ::
    [(r.n, excO r.v (.ref r.t) ctx), (r.t, tbO (A 0) (rawInt (A 0)) r.vs.toList)]
noncomputable def Fact9 (w : World) (P : Params) (x A : Nat → Addr) (nb : Bool) (d : Dt) (F : Addr) (o2 : Obj) (e a e' : Int) (ρ : Nat → Ep) : Prop :=
  proj [0, 1, 2, 3, 4, 5, 6, 7] (s9 w x A nb d F o2 e a e' ρ) = want (s9 w x A nb d F o2 e a e' ρ) (pr9 (s9 w x A nb d F o2 e a e' ρ) P A d F o2 e a e' (vtk (s9 w x A nb d F o2 e a e' ρ) 0 2) (tks (s9 w x A nb d F o2 e a e' ρ) 0))
    (led9 P A (dB (dQ d e a (vtk (s9 w x A nb d F o2 e a e' ρ) 0 2) (tks (s9 w x A nb d F o2 e a e' ρ) 0)) ((ρ 3).tk 0)) F o2 (ρ 3) .none) d.gens (tailW A (tryT A (throw (.ref (ρ 3).n)))) (cx (wl A) kW d.D)
noncomputable def Fact7 (w : World) (P : Params) (x A : Nat → Addr) (nb : Bool) (d : Dt) (F : Addr) (o2 : Obj) (e a : Int) (ρ : Nat → Ep) : Prop :=
  proj [0, 1, 2, 3, 4, 5, 6, 7] (s7 w x A nb d F o2 e a ρ) = want (s7 w x A nb d F o2 e a ρ) (pr7 P A d F o2 e a (vtk (s7 w x A nb d F o2 e a ρ) 0 2) (tks (s7 w x A nb d F o2 e a ρ) 0))
    (led9 P A (dQ d e a (vtk (s7 w x A nb d F o2 e a ρ) 0 2) (tks (s7 w x A nb d F o2 e a ρ) 0)) F o2 (ρ 2) .none) d.gens (tailW A (tryT A (bT A (tryIT A (throw (.ref (ρ 2).n)))))) (cx (wl A) kW d.D)
end Sld
end Mine
end
noncomputable section
open PySem PySem.W PyProof.Rows
set_option maxRecDepth 100000
set_option maxHeartbeats 4000000
set_option linter.unusedVariables false
namespace Mine
/-- a place in a tree where another tree stands -/
noncomputable def Hole (C : Sem Flow → Sem Fin) : Prop := ∀ (M : Model) (Γ : Ctx) (Q : Fin → Pos → Shared → Prop) (E : Value → Pos → Shared → Prop), ∃ Q' E', ∀ m p s, Sem.wp M Γ (C m) Q E p s = Sem.wp M Γ m Q' E' p s
theorem Hole.bind {C : Sem Flow → Sem Fin} (h : Hole C) (k : Flow → Sem Flow) : Hole (fun m => C (m >>= k)) := by
  intro M Γ Q E
  obtain ⟨Q', E', e⟩ := h M Γ Q E
  exact ⟨_, _, fun m p s => by rw [e, Sem.wp_bind']⟩
theorem Hole.attempt {C : Sem Flow → Sem Fin} (h : Hole C) (k : Except Value Flow → Sem Flow) : Hole (fun m => C (m.attempt >>= k)) := by
  intro M Γ Q E
  obtain ⟨Q', E', e⟩ := h M Γ Q E
  exact ⟨_, _, fun m p s => by rw [e, Sem.wp_bind', Sem.wp_attempt]⟩
theorem strip {w : World} {R : Result → Shared → Prop} {Γ : Ctx} {p : Pos} {s : Shared} {C : Sem Flow → Sem Fin} {K : Unit → Sem Flow} {env : Env} {L e tb : Addr} {oe otb : Obj} {vs tvs : Array Value} (hC : Hole C) (hf : env.frame = some L) (he : s.heap.get? e = some oe) (hd : oe.data = .fields vs) (h1 : vs[1]? = some (.ref tb))
    (htb : s.heap.get? tb = some otb) (hdt : otb.data = .fields tvs) (h3 : tvs[3]? = some (rawInt L)) (h : ∀ p', Goes (MM w) R Γ p' (C (K ())) .base s) : Goes (MM w) R Γ p (C (noteFrame (.ref e) env >>= K)) .base s := by
  refine goes_wp ?_
  obtain ⟨Q', E', eq⟩ := hC (MM w) Γ (Sem.finPost (MM w) Γ R) (fun e _ s' => R (.error e) s')
  rw [eq, Sem.wp_bind']
  have h2 := wpAny_noteFrame_inFlight (M := MM w) (A := (AΓ Γ).under Γ.code) (E := fun _ _ => False) (Q := fun _ s' => ∀ p', Sem.wp (MM w) Γ (K ()) Q' E' p' s') hf he hd h1 htb hdt h3 (fun p' => by
    have := wp_of_goes (h p')
    rw [eq] at this
    exact this) Γ p in_under
  exact Sem.wp_mono _ _ _ (fun _ p' s' q => q p') (fun _ _ _ q => q.elim) _ _ h2
namespace Sld
open Split (slO)
theorem hole_tail (A : Nat → Addr) : Hole (tailW A) := by
  intro M Γ Q E
  exact ⟨_, _, fun m p s => by unfold tailW; rw [Sem.wp_onRaise, Sem.wp_bind', Sem.wp_bind']⟩
/-- what the outer try does behind the raise -/
noncomputable def tryZ (A : Nat → Addr) : { Z : Except Value Flow → Sem Flow // ∀ m, tryT A m = (m.attempt >>= Z) } := by
  refine ⟨?_, fun m => ?_⟩
  rotate_left
  · unfold tryT tryStmt
    rw [if_pos (show ([] : List Stmt).isEmpty = true from rfl)]
theorem hole_try {C : Sem Flow → Sem Fin} (A : Nat → Addr) (h : Hole C) : Hole (fun m => C (tryT A m)) := by
  have e : (fun m => C (tryT A m)) = fun m => C (m.attempt >>= (tryZ A).1) := by
    funext m
    rw [(tryZ A).2]
  rw [e]
  exact h.attempt _
theorem hole_b {C : Sem Flow → Sem Fin} (A : Nat → Addr) (h : Hole C) : Hole (fun m => C (bT A m)) := by
  unfold bT
  exact Hole.bind (C := fun m => C ((m >>= seqEnd (fn A)) >>= seqEnd (fn A))) (Hole.bind (C := fun m => C (m >>= seqEnd (fn A))) (h.bind _) _) _
noncomputable def tryK (A : Nat → Addr) (e : Addr) : { K : Unit → Sem Flow // tryT A (throw (.ref e)) = (noteFrame (.ref e) (fn A) >>= K) } := by
  refine ⟨?_, ?_⟩
  rotate_left
  · unfold tryT tryStmt
    rw [if_pos (show ([] : List Stmt).isEmpty = true from rfl)]
    exact rfl
noncomputable def tryI1 (A : Nat → Addr) (e : Addr) : { K : (Unit → Sem Flow) × (Except Value Flow → Sem Flow) // tryIT A (throw (.ref e)) = ((noteFrame (.ref e) (fn A) >>= K.1).attempt >>= K.2) } := ⟨⟨_, _⟩, rfl⟩
noncomputable def tryI2 (A : Nat → Addr) (e : Addr) : { K : Unit → Sem Flow // (((tryI1 A e).1.1 ()).attempt >>= (tryI1 A e).1.2) = (noteFrame (.ref e) (fn A) >>= K) } := ⟨_, rfl⟩
theorem fact9 (w : World) (a b nb : Bool) (x A : Nat → Addr) (d : Dt) (F : Addr) (o2 : Obj) (e a0 e' : Int) (ρ : Nat → Ep) : Fact9 (wS w a b) w.params x A nb d F o2 e a0 e' ρ := by
  unfold Fact9
  cases nb <;> cases a <;> kernel_rfl
theorem fact7 (w : World) (a b nb : Bool) (x A : Nat → Addr) (d : Dt) (F : Addr) (o2 : Obj) (e a0 : Int) (ρ : Nat → Ep) : Fact7 (wS w a b) w.params x A nb d F o2 e a0 ρ := by
  unfold Fact7
  cases nb <;> cases a <;> kernel_rfl
end Sld
end Mine
end
noncomputable section
open PySem PySem.W PyProof.Rows
set_option maxRecDepth 100000
set_option maxHeartbeats 4000000
set_option linter.unusedVariables false
namespace Mine
namespace Sld
open Split (slO)
noncomputable def ledY (P : Params) (A : Nat → Addr) (d : Dt) (F : Addr) (o2 : Obj) (e T : Addr) (t fl ctx : Value) (tl : List Value) : List (Addr × Obj) :=
  (A 0, fr P A false d) :: (F, o2) :: (A 1, lstObj d.es d.ne) :: (A 2, lstObj d.as d.na) :: (A 3, lstObj d.ms d.nm) :: (A 4, lstObj d.us d.nu) :: [(e, excO t (.ref T) ctx), (T, tbO (A 0) fl tl)]
noncomputable def t7 (A : Nat → Addr) (e : Addr) : Sem Fin := tailW A (tryT A (bT A ((tryI2 A e).1 ())))
noncomputable def x7b (A : Nat → Addr) (d : Dt) (F e : Addr) : List Xs := [Xbk [0, 1, 2, 3, 6] (d.j + 1) (fn A) (A 0) F (.ref e)]
noncomputable def c7b (P : Params) (A : Nat → Addr) (d : Dt) (F : Addr) (o2 : Obj) (e T : Addr) (t fl : Value) (tl : List Value) : Conf := confT (cx (wl A) kW d.D) d.p (t7 A e) (ledY P A d F o2 e T t fl .none tl) d.toks d.gens
noncomputable def es7b (w : World) (d : Dt) (o2 : Obj) : List Ev := untilX 1 4 (canW false true sp w (x7b cn d 4050 4100) cEt (c7b w.params cn d 4050 o2 4100 4101 .none (rawInt 4000) []))
noncomputable def s7b (w : World) (x A : Nat → Addr) (d : Dt) (F : Addr) (o2 : Obj) (e T : Addr) (t : Value) (tl : List Value) (ρ : Nat → Ep) : Out2 :=
  runD (es7b w d o2) w x (x7b A d F e) (cx (wl A) kW d.D) d.p (t7 A e) (ledY w.params A d F o2 e T t (rawInt (A 0)) .none tl) d.toks d.gens ρ
noncomputable def pr7b (P : Params) (A : Nat → Addr) (d : Dt) (F : Addr) (o2 : Obj) (e T : Addr) (t : Value) : List Ob :=
  [.p (FrsE (fn A) F [(d.D 0).1.env, (d.D 1).1.env]), .x ⟨blk A, some (.ref e), some (.ref e), none, kB, ledB P A d F o2 (some e) t (.ref T), d.gens⟩]
noncomputable def led7b (P : Params) (A : Nat → Addr) (d : Dt) (F : Addr) (o2 : Obj) (e T : Addr) (t : Value) (tl : List Value) (r : Ep) : List (Addr × Obj) :=
  [(A 0, slO (fr P A false d) (getO r.os 0).slots), (F, slO o2 (getO r.os 1).slots), (A 1, lstObj d.es d.ne), (A 2, lstObj d.as d.na), (A 3, lstObj d.ms d.nm), (A 4, lstObj d.us d.nu), (e, excO t (.ref T) .none), (T, tbO (A 0) .none tl)] ++
    [(r.n, excO r.v (.ref r.t) (.ref e)), (r.t, tbO (A 0) (rawInt (A 0)) r.vs.toList)]
noncomputable def Fact7b (w : World) (P : Params) (x A : Nat → Addr) (d : Dt) (F : Addr) (o2 : Obj) (e T : Addr) (t : Value) (tl : List Value) (ρ : Nat → Ep) : Prop :=
  proj [0, 1, 2, 3, 4, 5, 6, 7, 8, 9] (s7b w x A d F o2 e T t tl ρ) = want (s7b w x A d F o2 e T t tl ρ) (pr7b P A d F o2 e T t)
    (led7b P A (dB d ((ρ 0).tk 0)) F o2 e T t tl (ρ 0)) d.gens (tailW A (tryT A (throw (.ref (ρ 0).n)))) (cx (wl A) kW d.D)
noncomputable def tZ (A : Nat → Addr) (e : Addr) : Sem Fin := tailW A ((tryK A e).1 ())
noncomputable def spZ : Sp := ⟨⟨true, true⟩, ["list.__getitem__", "list.extend"], [], true, 0⟩
noncomputable def xZ (d : Dt) (I1 I2 I3 I4 : Array Value → Prop) : List Xs := [Xlist [2, 8] I1, Xext 4 9 I2, Xlist [3, 10] I3, Xext 5 11 I4]
noncomputable def cZ (P : Params) (A : Nat → Addr) (d : Dt) (F : Addr) (o2 : Obj) (e T : Addr) (t fl ctx : Value) (tl : List Value) : Conf := confT (cx (wl A) kW d.D) d.p (tZ A e) (ledY P A d F o2 e T t fl ctx tl) d.toks d.gens
noncomputable def esZ (w : World) (d : Dt) (o2 : Obj) (ctx : Value) (I1 I2 I3 I4 : Array Value → Prop) : List Ev := can spZ w (xZ d I1 I2 I3 I4) cEt (cZ w.params cn d 4050 o2 4100 4101 .none (rawInt 4000) ctx [])
noncomputable def sZ (w : World) (x A : Nat → Addr) (d : Dt) (F : Addr) (o2 : Obj) (e T : Addr) (t ctx : Value) (tl : List Value) (I1 I2 I3 I4 : Array Value → Prop) (ρ : Nat → Ep) : Out2 :=
  runD (esZ w d o2 ctx I1 I2 I3 I4) w x (xZ d I1 I2 I3 I4) (cx (wl A) kW d.D) d.p (tZ A e) (ledY w.params A d F o2 e T t (rawInt (A 0)) ctx tl) d.toks d.gens ρ
end Sld
end Mine
end
noncomputable section
open PySem PySem.W PyProof.Rows
set_option maxRecDepth 100000
set_option maxHeartbeats 4000000
set_option linter.unusedVariables false
namespace Mine
namespace Sld
open Split (slO)
noncomputable def kH : List Kd := .ot :: kB
noncomputable def prZ (x A : Nat → Addr) (d : Dt) (e : Addr) (ρ : Nat → Ep) : List Ob :=
  [.x ⟨biCode "list.__getitem__" [.ref (A 1), .ref (x 0)], some (.ref e), some (.ref e), none, kH, [(A 1, lstObj d.es d.ne), (x 0, slcO (.int d.i d.ti) .none)], d.gens⟩,
   .x ⟨biCode "list.extend" [.ref (A 3), .ref (ρ 0).n], some (.ref e), some (.ref e), none, kH, [(A 3, lstObj d.ms d.nm), ((ρ 0).n, lstObj (ρ 0).vs (ρ 0).t)], d.gens⟩,
   .x ⟨biCode "list.__getitem__" [.ref (A 2), .ref ((ρ 1).x 0)], some (.ref e), some (.ref e), none, kH, [(A 2, lstObj d.as d.na), ((ρ 1).x 0, slcO (.int d.j d.tj) .none)], d.gens⟩,
   .x ⟨biCode "list.extend" [.ref (A 4), .ref (ρ 2).n], some (.ref e), some (.ref e), none, kH, [(A 4, lstObj d.us d.nu), ((ρ 2).n, lstObj (ρ 2).vs (ρ 2).t)], d.gens⟩]
noncomputable def FactZ (w : World) (P : Params) (x A : Nat → Addr) (d : Dt) (F : Addr) (o2 : Obj) (e T : Addr) (t ctx : Value) (tl : List Value) (I1 I2 I3 I4 : Array Value → Prop) (ρ : Nat → Ep) : Prop :=
  proj [0, 1, 2, 3, 4, 5] (sZ w x A d F o2 e T t ctx tl I1 I2 I3 I4 ρ) = want (sZ w x A d F o2 e T t ctx tl I1 I2 I3 I4 ρ) (prZ x A d e ρ)
    [(A 0, fr P A false d), (F, o2), (A 1, lstObj d.es d.ne), (A 2, lstObj d.as d.na), (A 3, lstObj (ρ 1).vs (ρ 1).t), (A 4, lstObj (ρ 3).vs (ρ 3).t)] d.gens (.pure (.done .next)) (cx (wl A) kW d.D)
theorem factZ (w : World) (a b : Bool) (x A : Nat → Addr) (d : Dt) (F : Addr) (o2 : Obj) (e T : Addr) (t ctx : Value) (tl : List Value) (I1 I2 I3 I4 : Array Value → Prop) (ρ : Nat → Ep) : FactZ (wS w a b) w.params x A d F o2 e T t ctx tl I1 I2 I3 I4 ρ := by
  unfold FactZ
  cases a <;> kernel_rfl
theorem fact7b (w : World) (a b : Bool) (x A : Nat → Addr) (d : Dt) (F : Addr) (o2 : Obj) (e T : Addr) (t : Value) (tl : List Value) (ρ : Nat → Ep) : Fact7b (wS w a b) w.params x A d F o2 e T t tl ρ := by
  unfold Fact7b
  cases a <;> kernel_rfl
end Sld
end Mine
end
noncomputable section
open PySem PySem.W PyProof.Rows
set_option maxRecDepth 100000
set_option maxHeartbeats 4000000
set_option linter.unusedVariables false
namespace Mine
namespace Sld
open Split (slO)
theorem frF (P : Params) (A : Nat → Addr) (nb : Bool) (d : Dt) : ∀ vs, (fr P A nb d).data ≠ .fields vs := fun vs q => by cases nb <;> cases q
theorem tail_goes {w : World} {a b : Bool} {A : Nat → Addr} {d : Dt} {F e T : Addr} {o2 : Obj} {t ctx : Value} {tl : List Value} {D : Nat → CD × Pos} {p : Pos} {s : Shared} {R : Result → Shared → Prop}
    (S0 : St (wS w a b) d.gens (ledY w.params A d F o2 e T t (rawInt (A 0)) ctx tl) s) (h1 : d.es.size ≤ 300) (h2 : d.as.size ≤ 300) (h3 : d.ms.size ≤ 300) (h4 : d.us.size ≤ 300)
    (hR : ∀ s' n1 n2, Led s' [(A 0, fr w.params A false d), (F, o2), (A 3, lstObj (d.ms ++ slicePick d.es (some d.i) none none) n1), (A 4, lstObj (d.us ++ slicePick d.as (some d.j) none none) n2)] → s'.gens = d.gens.toArray → Ch [A 3, A 4, e, T] s s' → R (.ok .next) s') :
    Goes (MM (wS w a b)) R (cx (wl A) kW D) p (tailW A (tryT A (throw (.ref e)))) .base s := by
  rw [(tryK A e).2]
  refine strip (hole_tail A) (L := A 0) (vs := #[t, .ref T, ctx, .none, .bool false, .none]) (tvs := ([.none, .ref (A 0), .none, rawInt (A 0), .none] ++ tl).toArray) rfl (S0.led (e, excO t (.ref T) ctx) (by simp [ledY])) rfl rfl (S0.led (T, tbO (A 0) (rawInt (A 0)) tl) (by simp [ledY])) rfl (by simp) fun p' => ?_
  let d' : Dt := { d with D := D, p := p', toks := s.toks }
  let I1 : Array Value → Prop := fun us => us = slicePick d.es (some d.i) none none
  let I2 : Array Value → Prop := fun us => us = d.ms ++ slicePick d.es (some d.i) none none
  let I3 : Array Value → Prop := fun us => us = slicePick d.as (some d.j) none none
  let I4 : Array Value → Prop := fun us => us = d.us ++ slicePick d.as (some d.j) none none
  have F0 := fun ρ => factZ w a b (xS s) A d' F o2 e T t ctx tl I1 I2 I3 I4 ρ
  unfold FactZ sZ runD at F0
  rw [Join.denO_eq] at F0
  refine es_goT (tZ A e) (led := ledY w.params A d' F o2 e T t (rawInt (A 0)) ctx tl) _ (fun _ => .none) (xZ d' I1 I2 I3 I4) [0, 1, 2, 3, 4, 5] F0 S0.top S0.led S0.nd S0.off S0.gens (fun ρ => ?_) ?_
  · have z1 := slicePick_size_le d.es (some d.i) none none
    have z2 := slicePick_size_le d.as (some d.j) none none
    refine ⟨slice_req (.int _ _) .none (by show d.es.size ≤ 1000; omega), fun hI1 => ?_⟩
    have hI1 : (ρ 0).vs = slicePick d.es (some d.i) none none := hI1
    refine ⟨?_, fun _ => ⟨slice_req (.int _ _) .none (by show d.as.size ≤ 1000; omega), fun hI3 => ?_⟩⟩
    · rw [hI1]
      exact extend_req (by show d.ms.size + _ ≤ 1000; omega) (by decide)
    · have hI3 : (ρ 2).vs = slicePick d.as (some d.j) none none := hI3
      refine ⟨?_, fun _ => trivial⟩
      rw [hI3]
      exact extend_req (by show d.us.size + _ ≤ 1000; omega) (by decide)
  · intro ρ s1 p1 hI G
    have e1 : (ρ 1).vs = d.ms ++ slicePick d.es (some d.i) none none := hI.2.1
    have e3 : (ρ 3).vs = d.us ++ slicePick d.as (some d.j) none none := hI.2.2.2.1
    have G1 := G.led
    rw [e1, e3] at G1
    refine goes_done (hR s1 (ρ 1).t (ρ 3).t (fun y hy => G1 y ?_) G.gens ?_)
    · simp only [List.mem_cons, List.not_mem_nil, or_false] at hy ⊢
      rcases hy with h | h | h | h
      · exact .inl h
      · exact .inr (.inl h)
      · exact .inr (.inr (.inr (.inr (.inl h))))
      · exact .inr (.inr (.inr (.inr (.inr h))))
    · refine G.ch.less (L1 := [A 3, A 4, e, T]) (Rd := [(A 0, fr w.params A false d), (F, o2), (A 1, lstObj d.es d.ne), (A 2, lstObj d.as d.na)]) (fun y hy => S0.led y ?_) (fun y hy => G1 y ?_) (fun q hq => ?_)
      · simp only [List.mem_cons, List.not_mem_nil, or_false, ledY] at hy ⊢
        rcases hy with h | h | h | h <;> simp [h]
      · simp only [List.mem_cons, List.not_mem_nil, or_false] at hy ⊢
        rcases hy with h | h | h | h
        · exact .inl h
        · exact .inr (.inl h)
        · exact .inr (.inr (.inl h))
        · exact .inr (.inr (.inr (.inl h)))
      · simp only [ledY, List.map_cons, List.map_nil, List.mem_cons, List.not_mem_nil, or_false] at hq ⊢
        rcases hq with h | h | h | h | h | h | h | h <;> simp [h]
end Sld
end Mine
end
noncomputable section
open PySem PySem.W PyProof.Rows
set_option maxRecDepth 100000
set_option maxHeartbeats 4000000
set_option linter.unusedVariables false
namespace Mine
theorem After.fresh {w : World} {s s' : Shared} {L : List Addr} {pick : List Nat} {led' old news : List (Addr × Obj)} {gens' : List GenState} (G : After w s L pick led' gens' s') (hp : pick.Nodup) (e : led' = old ++ news) (ho : old.map (·.1) = L) : ∀ y ∈ news, s.heap.objs.size ≤ y.1 := by
  intro y hy
  rcases G.new y (by rw [e]; exact List.mem_append.mpr (.inr hy)) with z | z
  · exfalso
    have nd := G.nd hp
    rw [e, List.map_append, List.nodup_append, ho] at nd
    exact nd.2.2 _ z y.1 (List.mem_map_of_mem hy) rfl
  · exact z
namespace Sld
open Split (slO)
theorem led9_eq (P : Params) (A : Nat → Addr) (d : Dt) (F : Addr) (o2 : Obj) (r : Ep) (ctx : Value) : led9 P A d F o2 r ctx = ledY P A { d with sl := (getO r.os 0).slots } F (slO o2 (getO r.os 1).slots) r.n r.t r.v (rawInt (A 0)) ctx r.vs.toList := rfl
noncomputable def Ends (w : World) (A : Nat → Addr) (F : Addr) (o2 : Obj) (gens : List GenState) (M U : Array Value) (s0 : Shared) (r : Result) (s' : Shared) : Prop :=
  r = .ok .next ∧ ∃ d' sl n1 n2, Led s' [(A 0, fr w.params A false d'), (F, slO o2 sl), (A 3, lstObj M n1), (A 4, lstObj U n2)] ∧ s'.gens = gens.toArray ∧ Ch [A 0, F, A 3, A 4] s0 s'
/-- the tail behind a state reached from s0 -/
theorem tail_ends {w : World} {a b : Bool} {A : Nat → Addr} {d : Dt} {F e T : Addr} {o2 : Obj} {sl : Array (Option Value)} {t ctx : Value} {tl : List Value} {D : Nat → CD × Pos} {p : Pos} {s0 s : Shared}
    (S0 : St (wS w a b) d.gens (ledY w.params A d F (slO o2 sl) e T t (rawInt (A 0)) ctx tl) s) (h1 : d.es.size ≤ 300) (h2 : d.as.size ≤ 300) (h3 : d.ms.size ≤ 300) (h4 : d.us.size ≤ 300)
    (hC : Ch [A 0, F] s0 s) (he : s0.heap.objs.size ≤ e) (hT : s0.heap.objs.size ≤ T) :
    Goes (MM (wS w a b)) (Ends w A F o2 d.gens (d.ms ++ slicePick d.es (some d.i) none none) (d.us ++ slicePick d.as (some d.j) none none) s0) (cx (wl A) kW D) p (tailW A (tryT A (throw (.ref e)))) .base s := by
  refine tail_goes S0 h1 h2 h3 h4 fun s' n1 n2 L g C => ⟨rfl, d, sl, n1, n2, L, g, ?_⟩
  have C0 : Ch [A 0, F, A 3, A 4] s0 s := hC.mono (fun q hq => by simp at hq ⊢; rcases hq with h | h <;> simp [h])
  have key : Ch [A 0, F, A 3, A 4, e, T] s0 s' := (C0.mono (fun q hq => by simp at hq ⊢; rcases hq with h | h | h | h <;> simp [h])).trans C (fun q hq => .inl (by simp at hq ⊢; rcases hq with h | h | h | h <;> simp [h]))
  refine ⟨fun b' o' hb hn => key.keep b' o' hb (fun q => ?_), key.size, key.dr, key.os⟩
  have lt := Heap.lt_size hb
  simp at q hn
  rcases q with h | h | h | h | h | h
  · exact hn.1 h
  · exact hn.2.1 h
  · exact hn.2.2.1 h
  · exact hn.2.2.2 h
  · rw [h] at lt; exact absurd lt (Nat.not_lt.mpr he)
  · rw [h] at lt; exact absurd lt (Nat.not_lt.mpr hT)
theorem it_req {w : World} {l : Addr} {vs : Array Value} {n i u : Nat} {k : Int} {v : Int} {t : Nat} {hd own past : Option Value} {ks : List Kd} {gens : List GenState} (h0 : 0 ≤ k) (hz : k < 1000) (hx : vs[k.toNat]? = some (.int v t)) :
    ReqOk (MM w) (topG w) (Xitem i v t) ⟨biCode "list.__getitem__" [.ref l, .int k u], hd, own, past, ks, [(l, lstObj vs n)], gens⟩ := item_req h0 hz hx
theorem notP {P : Prop} (h : ¬ P) : P = (false = true) := propext ⟨fun q => absurd q h, fun q => by cases q⟩
theorem isP {P : Prop} (h : P) : P = (true = true) := propext ⟨fun _ => rfl, fun _ => h⟩
theorem end9 {w : World} {a b nb : Bool} {A : Nat → Addr} {d : Dt} {F : Addr} {o2 : Obj} {D : Nat → CD × Pos} {p : Pos} {s : Shared} {e e' : Int} {i j : Nat} (S0 : St (wS w a b) d.gens (ledZ w.params A nb d F o2) s) (hFr : FrsE (fn A) F [(D 0).1.env, (D 1).1.env]) (hd2 : ∀ vs, o2.data ≠ .fields vs)
    (hi : d.i = (i : Nat)) (hj : d.j = (j : Nat)) (he : d.es[i]? = some (.int e d.te)) (ha : d.as[j]? = some (.int e d.ta)) (hn : d.es[i + 1]? = some (.int e' d.tn)) (hne : e' ≠ e) (hend : d.as.size = j + 1)
    (h1 : d.es.size ≤ 300) (h2 : d.as.size ≤ 300) (h3 : d.ms.size ≤ 300) (h4 : d.us.size ≤ 300) :
    wpCode (MM (wS w a b)) (cx (wl A) kW D) (Ends w A F o2 d.gens (d.ms ++ slicePick d.es (some (d.i + 1)) none none) (d.us ++ slicePick d.as (some (d.j + 1)) none none) s) p s := by
  let d' : Dt := { d with D := D, p := p, toks := s.toks }
  have hi' : d'.i = (i : Nat) := hi
  have hj' : d'.j = (j : Nat) := hj
  have ilt : i < d.es.size := by
    rcases Nat.lt_or_ge i d.es.size with q | q
    · exact q
    · rw [Array.getElem?_eq_none q] at he; cases he
  have F0 := fun ρ => fact9 w a b nb (xS s) A d' F o2 e e e' ρ
  unfold Fact9 s9 runD at F0
  rw [Join.denO_eq] at F0
  refine goes_code ?_
  rw [den_MM]
  refine es_goT (denQ (wl A)) (led := ledZ w.params A nb d' F o2) _ (fun _ => .none) (x9 A d' F e e e') [0, 1, 2, 3, 4, 5, 6, 7] F0 S0.top S0.led S0.nd S0.off S0.gens (fun ρ => ?_) ?_
  · refine ⟨it_req (by omega) (by omega) (by rw [hi]; exact he), fun _ => ⟨it_req (by omega) (by omega) (by rw [hj]; exact ha), fun _ => ⟨notP (by omega), notP (by omega), it_req (by omega) (by omega) (by
      rw [hi]; exact hn), fun _ => ⟨notP hne, hFr, ?_, fun _ => trivial⟩⟩⟩⟩
    exact blk_req (h := none) (d := dQ d' e e _ _) (by decide) (by show 0 ≤ d.j; omega) (by show d.j < 900; omega) (by show d.as.size ≤ d.j.toNat + 1; omega) hd2
  · intro ρ s1 p1 hI G
    have fresh := G.fresh (old := (A 0, _) :: (F, _) :: (A 1, _) :: (A 2, _) :: (A 3, _) :: (A 4, _) :: []) (news := [_, _]) (by decide) rfl rfl
    have S1 := G.st (by decide)
    have G2 := G.ch
    clear G F0
    rw [led9_eq] at S1
    refine tail_ends (d := { dB (dQ d' e e _ _) _ with sl := _ }) (s0 := s) S1 h1 h2 h3 h4 ?_ (fresh _ List.mem_cons_self) (fresh _ (List.mem_cons_of_mem _ List.mem_cons_self))
    refine G2.less (L1 := [A 0, F]) (Rd := [(A 1, lstObj d.es d.ne), (A 2, lstObj d.as d.na), (A 3, lstObj d.ms d.nm), (A 4, lstObj d.us d.nu)]) (fun y hy => S0.led y ?_) (fun y hy => S1.led y ?_) (fun q hq => ?_)
    · simp only [List.mem_cons, List.not_mem_nil, or_false, ledZ] at hy ⊢
      rcases hy with h | h | h | h <;> simp [h]
    · simp only [List.mem_cons, List.not_mem_nil, or_false, ledY] at hy ⊢
      rcases hy with h | h | h | h <;> (subst h; simp [dB, dQ, d'])
    · simp only [ledZ, List.map_cons, List.map_nil, List.mem_cons, List.not_mem_nil, or_false] at hq ⊢
      rcases hq with h | h | h | h | h | h <;> simp [h]
theorem end7 {w : World} {a b nb : Bool} {A : Nat → Addr} {d : Dt} {F : Addr} {o2 : Obj} {D : Nat → CD × Pos} {p : Pos} {s : Shared} {e : Int} {i j : Nat} (S0 : St (wS w a b) d.gens (ledZ w.params A nb d F o2) s) (hFr : FrsE (fn A) F [(D 0).1.env, (D 1).1.env]) (hd2 : ∀ vs, o2.data ≠ .fields vs)
    (hi : d.i = (i : Nat)) (hj : d.j = (j : Nat)) (he : d.es[i]? = some (.int e d.te)) (ha : d.as[j]? = some (.int e d.ta)) (hen : d.es.size = i + 1) (hend : d.as.size = j + 1)
    (h1 : d.es.size ≤ 300) (h2 : d.as.size ≤ 300) (h3 : d.ms.size ≤ 300) (h4 : d.us.size ≤ 300) :
    wpCode (MM (wS w a b)) (cx (wl A) kW D) (Ends w A F o2 d.gens (d.ms ++ slicePick d.es (some (d.i + 1)) none none) (d.us ++ slicePick d.as (some (d.j + 1)) none none) s) p s := by
  let d' : Dt := { d with D := D, p := p, toks := s.toks }
  have hi' : d'.i = (i : Nat) := hi
  have hj' : d'.j = (j : Nat) := hj
  have F0 := fun ρ => fact7 w a b nb (xS s) A d' F o2 e e ρ
  unfold Fact7 s7 runD at F0
  rw [Join.denO_eq] at F0
  refine goes_code ?_
  rw [den_MM]
  refine es_goT (denQ (wl A)) (led := ledZ w.params A nb d' F o2) _ (fun _ => .none) (x7 A d' F e e) [0, 1, 2, 3, 4, 5, 6, 7] F0 S0.top S0.led S0.nd S0.off S0.gens (fun ρ => ?_) ?_
  · refine ⟨it_req (by omega) (by omega) (by rw [hi]; exact he), fun _ => ⟨it_req (by omega) (by omega) (by rw [hj]; exact ha), fun _ => ⟨notP (by omega), notP (by omega), hFr, ?_, fun _ => trivial⟩⟩⟩
    exact x_req (q := true) (h := none) (t := .none) (tb := .none) (d := dQ d' e e _ _) (fun _ => rfl) (by decide) ⟨by show 0 ≤ d.i + 1; omega, by show d.i + 1 < 1000; omega, by show d.es.size ≤ (d.i + 1).toNat; omega⟩ hd2
  · intro ρ s1 p1 hI G
    have fresh := G.fresh (old := (A 0, _) :: (F, _) :: (A 1, _) :: (A 2, _) :: (A 3, _) :: (A 4, _) :: []) (news := [_, _]) (by decide) rfl rfl
    have S1 := G.st (by decide)
    have G2 := G.ch
    clear G F0
    rw [led9_eq] at S1
    have f1 := fresh _ List.mem_cons_self
    have f2 := fresh _ (List.mem_cons_of_mem _ List.mem_cons_self)
    clear fresh
    generalize vtk _ 0 2 = ti at S1 f1 f2
    generalize tks _ 0 = tk0 at S1 f1 f2
    let d2 : Dt := { dQ d' e e ti tk0 with sl := (getO (ρ 2).os 0).slots }
    have C1 : Ch [A 0, F] s s1 := by
      refine G2.less (L1 := [A 0, F]) (Rd := [(A 1, lstObj d.es d.ne), (A 2, lstObj d.as d.na), (A 3, lstObj d.ms d.nm), (A 4, lstObj d.us d.nu)]) (fun y hy => S0.led y ?_) (fun y hy => S1.led y ?_) (fun q hq => ?_)
      · simp only [List.mem_cons, List.not_mem_nil, or_false, ledZ] at hy ⊢
        rcases hy with h | h | h | h <;> simp [h]
      · simp only [List.mem_cons, List.not_mem_nil, or_false, ledY] at hy ⊢
        rcases hy with h | h | h | h <;> (subst h; simp [dB, dQ, d'])
      · simp only [ledZ, List.map_cons, List.map_nil, List.mem_cons, List.not_mem_nil, or_false] at hq ⊢
        rcases hq with h | h | h | h | h | h <;> simp [h]
    have S1 : St (wS w a b) d.gens (ledY w.params A d2 F (slO o2 (getO (ρ 2).os 1).slots) (ρ 2).n (ρ 2).t (ρ 2).v (rawInt (A 0)) .none (ρ 2).vs.toList) s1 := S1
    have le := S1.led ((ρ 2).n, excO (ρ 2).v (.ref (ρ 2).t) .none) (by simp [ledY])
    have lt := S1.led ((ρ 2).t, tbO (A 0) (rawInt (A 0)) (ρ 2).vs.toList) (by simp [ledY])
    rw [(tryI1 A (ρ 2).n).2]
    refine strip (C := fun m => tailW A (tryT A (bT A (m.attempt >>= (tryI1 A (ρ 2).n).1.2)))) (K := (tryI1 A (ρ 2).n).1.1) (env := fn A) (e := (ρ 2).n) ((hole_b A (hole_try A (hole_tail A))).attempt (tryI1 A (ρ 2).n).1.2) (L := A 0) (vs := #[(ρ 2).v, .ref (ρ 2).t, .none, .none, .bool false, .none]) (tvs := ([.none, .ref (A 0), .none, rawInt (A 0), .none] ++ (ρ 2).vs.toList).toArray) rfl le rfl rfl lt rfl (by simp) fun p2 => ?_
    show Goes (MM (wS w a b)) _ (cx (wl A) kW D) p2 (tailW A (tryT A (bT A (((tryI1 A (ρ 2).n).1.1 ()).attempt >>= (tryI1 A (ρ 2).n).1.2)))) .base s1
    rw [(tryI2 A (ρ 2).n).2]
    refine strip (C := fun m => tailW A (tryT A (bT A m))) (K := (tryI2 A (ρ 2).n).1) (env := fn A) (e := (ρ 2).n) (hole_b A (hole_try A (hole_tail A))) (L := A 0) (vs := #[(ρ 2).v, .ref (ρ 2).t, .none, .none, .bool false, .none]) (tvs := ([.none, .ref (A 0), .none, rawInt (A 0), .none] ++ (ρ 2).vs.toList).toArray) rfl le rfl rfl lt rfl (by simp) fun p3 => ?_
    let d3 : Dt := { d2 with D := D, p := p3, toks := s1.toks }
    have F1 := fun ρ' => fact7b w a b (xS s1) A d3 F (slO o2 (getO (ρ 2).os 1).slots) (ρ 2).n (ρ 2).t (ρ 2).v (ρ 2).vs.toList ρ'
    unfold Fact7b s7b runD at F1
    rw [Join.denO_eq] at F1
    refine es_goT (t7 A (ρ 2).n) (led := ledY w.params A d3 F (slO o2 (getO (ρ 2).os 1).slots) (ρ 2).n (ρ 2).t (ρ 2).v (rawInt (A 0)) .none (ρ 2).vs.toList) _ (fun _ => .none) (x7b A d3 F (ρ 2).n) [0, 1, 2, 3, 4, 5, 6, 7, 8, 9] F1 S1.top S1.led S1.nd S1.off S1.gens (fun ρ' => ⟨hFr, ?_, fun _ => trivial⟩) ?_
    · exact blk_req (h := some (ρ 2).n) (d := d3) (by decide) (by show 0 ≤ d.j; omega) (by show d.j < 900; omega) (by show d.as.size ≤ d.j.toNat + 1; omega) (fun vs q => hd2 vs (by simpa [slO] using q))
    · intro ρ' s2 p4 hI' G'
      have fresh := G'.fresh (old := (A 0, _) :: (F, _) :: (A 1, _) :: (A 2, _) :: (A 3, _) :: (A 4, _) :: ((ρ 2).n, _) :: ((ρ 2).t, _) :: []) (news := [_, _]) (by decide) rfl rfl
      have S2 := G'.st (by decide)
      have G2' := G'.ch
      clear G' F1
      have S3 : St (wS w a b) d.gens (ledY w.params A { dB d3 ((ρ' 0).tk 0) with sl := (getO (ρ' 0).os 0).slots } F (slO o2 (getO (ρ' 0).os 1).slots) (ρ' 0).n (ρ' 0).t (ρ' 0).v (rawInt (A 0)) (.ref (ρ 2).n) (ρ' 0).vs.toList) s2 :=
        S2.sub (((((((((List.Sublist.refl _).cons _).cons _).cons_cons _).cons_cons _).cons_cons _).cons_cons _).cons_cons _).cons_cons _)
      have C2 : Ch [A 0, F, (ρ 2).n, (ρ 2).t] s1 s2 := by
        refine G2'.less (L1 := [A 0, F, (ρ 2).n, (ρ 2).t]) (Rd := [(A 1, lstObj d.es d.ne), (A 2, lstObj d.as d.na), (A 3, lstObj d.ms d.nm), (A 4, lstObj d.us d.nu)]) (fun y hy => S1.led y ?_) (fun y hy => S3.led y ?_) (fun q hq => ?_)
        · simp only [List.mem_cons, List.not_mem_nil, or_false, ledY] at hy ⊢
          rcases hy with h | h | h | h <;> (subst h; simp [dQ, d2, d'])
        · simp only [List.mem_cons, List.not_mem_nil, or_false, ledY] at hy ⊢
          rcases hy with h | h | h | h <;> (subst h; simp [dB, dQ, d3, d2, d'])
        · simp only [ledY, List.map_cons, List.map_nil, List.mem_cons, List.not_mem_nil, or_false] at hq ⊢
          rcases hq with h | h | h | h | h | h | h | h <;> simp [h]
      have hsz := C1.size
      have C12 : Ch [A 0, F] s s2 := C1.trans C2 (fun q hq => by
        simp at hq ⊢
        rcases hq with h | h | h | h
        · exact .inl (.inl h)
        · exact .inl (.inr h)
        · exact .inr (by rw [h]; exact f1)
        · exact .inr (by rw [h]; exact f2))
      exact tail_ends (d := { dB d3 ((ρ' 0).tk 0) with sl := (getO (ρ' 0).os 0).slots }) (s0 := s) S3 h1 h2 h3 h4 C12 (Nat.le_trans hsz (fresh _ List.mem_cons_self)) (Nat.le_trans hsz (fresh _ (List.mem_cons_of_mem _ List.mem_cons_self)))
end Sld
end Mine
end
noncomputable section
open PySem PySem.W PyProof.Rows
set_option maxRecDepth 100000
set_option maxHeartbeats 4000000
set_option linter.unusedVariables false
namespace Mine
/-- the way of the loop through two lists whose last numbers meet -/
inductive Dif : List Int → List Int → List Int → List Int → Prop
  | lt {e e' a : Int} {es as m u : List Int} : e < a → e' ≠ e → Dif (e' :: es) (a :: as) m u → Dif (e :: e' :: es) (a :: as) (e :: m) u
  | gt {e a a' : Int} {es as m u : List Int} : e > a → a' ≠ a → Dif (e :: es) (a' :: as) m u → Dif (e :: es) (a :: a' :: as) m (a :: u)
  | eq {e e' a' : Int} {es as m u : List Int} : e' ≠ e → a' ≠ e → Dif (e' :: es) (a' :: as) m u → Dif (e :: e' :: es) (e :: a' :: as) m u
  | fin {e : Int} {es : List Int} : (∀ e' ∈ es.head?, e' ≠ e) → Dif (e :: es) [e] es []
theorem off_map {w : World} {l l' : List (Addr × Obj)} (h : l'.map (·.1) = l.map (·.1)) (ho : Off (topG w) l) : Off (topG w) l' := by
  intro y hy
  have : y.1 ∈ l.map (·.1) := by rw [← h]; exact List.mem_map_of_mem hy
  obtain ⟨z, hz, e⟩ := List.mem_map.mp this
  rw [← e]; exact ho z hz
theorem IA.from {vs : Array Value} {ns : List Int} (h : IA vs ns) {x : Int} {i : Nat} (hx : x = (i : Nat)) (hi : i ≤ ns.length) : IA (slicePick vs (some x) none none) (ns.drop i) := by
  have q := slice_ints_from (vs := vs.toList) h (x := x) (by omega) (by omega)
  have e : vs.toList.toArray = vs := by simp
  rw [e] at q
  have e2 : x.toNat = i := by omega
  rw [e2] at q
  exact q
theorem drop_head {l r : List Int} {i : Nat} {x : Int} (h : l.drop i = x :: r) : l[i]? = some x ∧ l.drop (i + 1) = r ∧ i < l.length := by
  have h1 : (l.drop i)[0]? = some x := by rw [h]; rfl
  rw [List.getElem?_drop] at h1
  have h2 : (l.drop i).drop 1 = r := by rw [h]; rfl
  rw [List.drop_drop] at h2
  have hl : i < l.length := by
    rcases Nat.lt_or_ge i l.length with q | q
    · exact q
    · rw [List.drop_eq_nil_of_le q] at h; cases h
  exact ⟨by simpa using h1, h2, hl⟩
namespace Sld
open Split (slO)
theorem stZ {w : World} {a b nb : Bool} {A : Nat → Addr} {d d' dn : Dt} {F : Addr} {o2 : Obj} {s s' : Shared} (S0 : St (wS w a b) d.gens (ledZ w.params A nb d F o2) s) (he : led w.params A nb d' = led w.params A nb d) (G : After (wS w a b) s ((led w.params A nb d').map (·.1)) [0, 1, 2, 3, 4] (led w.params A false dn) d.gens s')
    (h1 : lstObj dn.es dn.ne = lstObj d.es d.ne) (h2 : lstObj dn.as dn.na = lstObj d.as d.na) :
    St (wS w a b) d.gens (ledZ w.params A false dn F o2) s' ∧ Ch [A 0, A 3, A 4] s s' := by
  have hF : F ∉ (led w.params A nb d').map (·.1) := by
    have := S0.nd
    simp only [ledZ, List.map_cons, List.map_nil, List.nodup_cons, List.mem_cons, List.not_mem_nil, or_false, not_or] at this
    obtain ⟨⟨n1, n2, n3, n4, n5⟩, ⟨m1, m2, m3, m4⟩, _⟩ := this
    simp only [led, List.map_cons, List.map_nil, List.mem_cons, List.not_mem_nil, or_false, not_or]
    exact ⟨Ne.symm n1, m1, m2, m3, m4⟩
  have hF2 := G.ch.keep F o2 (S0.led (F, o2) (by simp [ledZ])) hF
  refine ⟨⟨G.top, fun y hy => ?_, S0.nd, off_map (l := ledZ w.params A nb d F o2) rfl S0.off, G.gens⟩, ?_⟩
  · simp only [ledZ, List.mem_cons, List.not_mem_nil, or_false] at hy
    rcases hy with h | h | h | h | h | h
    · subst h; exact G.led _ List.mem_cons_self
    · subst h; exact hF2
    · subst h; exact G.led (A 1, lstObj dn.es dn.ne) (by simp [led])
    · subst h; exact G.led (A 2, lstObj dn.as dn.na) (by simp [led])
    · subst h; exact G.led (A 3, lstObj dn.ms dn.nm) (by simp [led])
    · subst h; exact G.led (A 4, lstObj dn.us dn.nu) (by simp [led])
  · refine G.ch.less (L1 := [A 0, A 3, A 4]) (Rd := [(A 1, lstObj d.es d.ne), (A 2, lstObj d.as d.na)]) (fun y hy => S0.led y ?_) (fun y hy => G.led y ?_) (fun q hq => ?_)
    · simp only [List.mem_cons, List.not_mem_nil, or_false] at hy
      rcases hy with h | h <;> (subst h; simp [ledZ])
    · simp only [List.mem_cons, List.not_mem_nil, or_false] at hy
      rcases hy with h | h
      · subst h; rw [← h1]; simp [led]
      · subst h; rw [← h2]; simp [led]
    · simp only [led, List.map_cons, List.map_nil, List.mem_cons, List.not_mem_nil, or_false] at hq ⊢
      rcases hq with h | h | h | h | h <;> simp [h]
/-- what the loop leaves -/
noncomputable def Left (w : World) (A : Nat → Addr) (F : Addr) (o2 : Obj) (gens : List GenState) (m u : List Int) (s0 : Shared) (r : Result) (s' : Shared) : Prop :=
  r = .ok .next ∧ ∃ d' sl n1 n2 ms us, IA ms m ∧ IA us u ∧ Led s' [(A 0, fr w.params A false d'), (F, slO o2 sl), (A 3, lstObj ms n1), (A 4, lstObj us n2)] ∧ s'.gens = gens.toArray ∧ Ch [A 0, F, A 3, A 4] s0 s'
theorem loop {w : World} {a b : Bool} {A : Nat → Addr} {F : Addr} {o2 : Obj} {D : Nat → CD × Pos} {s0 : Shared} {E Ac : List Int} (hE : E.length ≤ 100) (hA : Ac.length ≤ 100) (hFr : FrsE (fn A) F [(D 0).1.env, (D 1).1.env]) (hd2 : ∀ vs, o2.data ≠ .fields vs) {E2 A2 m u : List Int} (h : Dif E2 A2 m u) :
    ∀ (d : Dt) (nb : Bool) (p : Pos) (s : Shared) (i j : Nat) (M U : List Int), IA d.es E → IA d.as Ac → E.drop i = E2 → Ac.drop j = A2 → d.i = (i : Nat) → d.j = (j : Nat) → IA d.ms M → IA d.us U → M.length ≤ i → U.length ≤ j →
      St (wS w a b) d.gens (ledZ w.params A nb d F o2) s → Ch [A 0, F, A 3, A 4] s0 s →
      wpCode (MM (wS w a b)) (cx (wl A) kW D) (Left w A F o2 d.gens (M ++ m) (U ++ u) s0) p s := by
  induction h with
  | @lt e e' ac es as m u h1 h2 _ ih =>
    intro d nb p s i j M U iE iA dE dA hi hj iM iU lM lU S0 C0
    obtain ⟨g1, g2, g3⟩ := drop_head dE
    obtain ⟨k1, k2, k3⟩ := drop_head dA
    obtain ⟨g4, g5, g6⟩ := drop_head g2
    obtain ⟨te, he⟩ := iE.at g1
    obtain ⟨ta, ha⟩ := iA.at k1
    obtain ⟨tn, hn⟩ := iE.at g4
    let d' : Dt := { d with te := te, ta := ta, tn := tn, D := D, p := p, toks := s.toks }
    have hi' : d'.i = (i : Nat) := hi
    have hj' : d'.j = (j : Nat) := hj
    have F0 := fun ρ => factL w a b nb (xS s) A d' e ac e' 0 ρ
    unfold FactT sT cT at F0
    have e5 : led w.params A nb d' = led w.params A nb d := by cases nb <;> rfl
    have S1 : St (wS w a b) d.gens (led w.params A nb d') s := by rw [e5]; exact S0.sub (((List.Sublist.refl _).cons _).cons_cons _)
    refine sim_go (led := led w.params A nb d') sp (fun _ => .none) _ (xs .lt d' e ac e' 0) cEn _ [0, 1, 2, 3, 4] F0 S1.top S1.led S1.nd S1.off S1.gens (fun ρ => ⟨it_req (by omega) (by omega) (by rw [hi']; exact he), fun _ => ⟨it_req (by omega) (by omega) (by rw [hj']; exact ha), fun _ => ⟨isP h1, ⟨d.ms, d.nm, rfl, by rw [sizeLine_eq, iM.size]; omega⟩, it_req (by omega) (by omega) (by rw [hi']; exact hn), fun _ => ⟨notP h2, trivial⟩⟩⟩⟩) ?_
    intro ρ s1 p1 _ G
    generalize vtk _ 0 2 = ti at G
    generalize vtk _ 0 3 = tj at G
    generalize tks _ 0 = tk0 at G
    obtain ⟨S2, C2⟩ := stZ (dn := d'.next .lt e ac ti tj tk0) S0 e5 G rfl rfl
    refine goes_again rfl ?_
    have e6 : M ++ e :: m = (M ++ [e]) ++ m := by simp
    rw [e6]
    exact ih (d'.next .lt e ac ti tj tk0) false p1 s1 (i + 1) j (M ++ [e]) U iE iA g2 dA (by show d.i + 1 = _; omega) hj (iM.push e te) iU (by simp; omega) lU S2 (C0.trans C2 fun q hq => .inl (by simp at hq ⊢; rcases hq with h | h | h <;> simp [h]))
  | @gt e ac a' es as m u h1 h2 _ ih =>
    intro d nb p s i j M U iE iA dE dA hi hj iM iU lM lU S0 C0
    obtain ⟨g1, g2, g3⟩ := drop_head dE
    obtain ⟨k1, k2, k3⟩ := drop_head dA
    obtain ⟨k4, k5, k6⟩ := drop_head k2
    obtain ⟨te, he⟩ := iE.at g1
    obtain ⟨ta, ha⟩ := iA.at k1
    obtain ⟨tn, hn⟩ := iA.at k4
    let d' : Dt := { d with te := te, ta := ta, tn := tn, D := D, p := p, toks := s.toks }
    have hi' : d'.i = (i : Nat) := hi
    have hj' : d'.j = (j : Nat) := hj
    have F0 := fun ρ => factG w a b nb (xS s) A d' e ac 0 a' ρ
    unfold FactT sT cT at F0
    have e5 : led w.params A nb d' = led w.params A nb d := by cases nb <;> rfl
    have S1 : St (wS w a b) d.gens (led w.params A nb d') s := by rw [e5]; exact S0.sub (((List.Sublist.refl _).cons _).cons_cons _)
    refine sim_go (led := led w.params A nb d') sp (fun _ => .none) _ (xs .gt d' e ac 0 a') cEn _ [0, 1, 2, 3, 4] F0 S1.top S1.led S1.nd S1.off S1.gens (fun ρ => ⟨it_req (by omega) (by omega) (by rw [hi']; exact he), fun _ => ⟨it_req (by omega) (by omega) (by rw [hj']; exact ha), fun _ => ⟨notP (by omega), isP h1, ⟨d.us, d.nu, rfl, by rw [sizeLine_eq, iU.size]; omega⟩, it_req (by omega) (by omega) (by rw [hj']; exact hn), fun _ => ⟨notP h2, trivial⟩⟩⟩⟩) ?_
    intro ρ s1 p1 _ G
    generalize vtk _ 0 2 = ti at G
    generalize vtk _ 0 3 = tj at G
    generalize tks _ 0 = tk0 at G
    obtain ⟨S2, C2⟩ := stZ (dn := d'.next .gt e ac ti tj tk0) S0 e5 G rfl rfl
    refine goes_again rfl ?_
    have e6 : U ++ ac :: u = (U ++ [ac]) ++ u := by simp
    rw [e6]
    exact ih (d'.next .gt e ac ti tj tk0) false p1 s1 i (j + 1) M (U ++ [ac]) iE iA dE k2 hi (by show d.j + 1 = _; omega) iM (iU.push ac ta) lM (by simp; omega) S2 (C0.trans C2 fun q hq => .inl (by simp at hq ⊢; rcases hq with h | h | h <;> simp [h]))
  | @eq e e' a' es as m u h1 h2 _ ih =>
    intro d nb p s i j M U iE iA dE dA hi hj iM iU lM lU S0 C0
    obtain ⟨g1, g2, g3⟩ := drop_head dE
    obtain ⟨k1, k2, k3⟩ := drop_head dA
    obtain ⟨g4, g5, g6⟩ := drop_head g2
    obtain ⟨k4, k5, k6⟩ := drop_head k2
    obtain ⟨te, he⟩ := iE.at g1
    obtain ⟨ta, ha⟩ := iA.at k1
    obtain ⟨tn, hn⟩ := iE.at g4
    obtain ⟨tm, hm⟩ := iA.at k4
    let d' : Dt := { d with te := te, ta := ta, tn := tn, tm := tm, D := D, p := p, toks := s.toks }
    have hi' : d'.i = (i : Nat) := hi
    have hj' : d'.j = (j : Nat) := hj
    have F0 := fun ρ => factQ w a b nb (xS s) A d' e e e' a' ρ
    unfold FactT sT cT at F0
    have e5 : led w.params A nb d' = led w.params A nb d := by cases nb <;> rfl
    have S1 : St (wS w a b) d.gens (led w.params A nb d') s := by rw [e5]; exact S0.sub (((List.Sublist.refl _).cons _).cons_cons _)
    refine sim_go (led := led w.params A nb d') sp (fun _ => .none) _ (xs .eq d' e e e' a') cEn _ [0, 1, 2, 3, 4] F0 S1.top S1.led S1.nd S1.off S1.gens (fun ρ => ⟨it_req (by omega) (by omega) (by rw [hi']; exact he), fun _ => ⟨it_req (by omega) (by omega) (by rw [hj']; exact ha), fun _ => ⟨notP (by omega), notP (by omega), it_req (by omega) (by omega) (by rw [hi']; exact hn), fun _ => ⟨notP h1, it_req (by omega) (by omega) (by rw [hj']; exact hm), fun _ => ⟨notP h2, trivial⟩⟩⟩⟩⟩) ?_
    intro ρ s1 p1 _ G
    generalize vtk _ 0 2 = ti at G
    generalize vtk _ 0 3 = tj at G
    generalize tks _ 0 = tk0 at G
    obtain ⟨S2, C2⟩ := stZ (dn := d'.next .eq e e ti tj tk0) S0 e5 G rfl rfl
    refine goes_again rfl ?_
    exact ih (d'.next .eq e e ti tj tk0) false p1 s1 (i + 1) (j + 1) M U iE iA g2 k2 (by show d.i + 1 = _; omega) (by show d.j + 1 = _; omega) iM iU (by omega) (by omega) S2 (C0.trans C2 fun q hq => .inl (by simp at hq ⊢; rcases hq with h | h | h <;> simp [h]))
  | @fin e es hne =>
    intro d nb p s i j M U iE iA dE dA hi hj iM iU lM lU S0 C0
    obtain ⟨g1, g2, g3⟩ := drop_head dE
    obtain ⟨k1, k2, k3⟩ := drop_head dA
    obtain ⟨te, he⟩ := iE.at g1
    obtain ⟨ta, ha⟩ := iA.at k1
    have hend : d.as.size = j + 1 := by
      have := congrArg List.length dA
      rw [List.length_drop] at this
      rw [iA.size]
      simp at this
      omega
    have fin : ∀ r s', Ends w A F o2 d.gens (d.ms ++ slicePick d.es (some (d.i + 1)) none none) (d.us ++ slicePick d.as (some (d.j + 1)) none none) s r s' → Left w A F o2 d.gens (M ++ es) (U ++ []) s0 r s' := by
      rintro r s' ⟨rfl, d', sl, n1, n2, L, g, C⟩
      refine ⟨rfl, d', sl, n1, n2, _, _, ?_, ?_, L, g, C0.trans C fun q hq => .inl hq⟩
      · have := IA.from iE (x := d.i + 1) (i := i + 1) (by omega) (by omega)
        rw [g2] at this
        exact iM.append this
      · have := IA.from iA (x := d.j + 1) (i := j + 1) (by omega) (by omega)
        rw [k2] at this
        exact iU.append this
    have z1 := iE.size
    have z2 := iA.size
    have z3 := iM.size
    have z4 := iU.size
    cases es with
    | nil =>
      have hen : d.es.size = i + 1 := by
        have := congrArg List.length dE
        rw [List.length_drop] at this
        rw [iE.size]
        simp at this
        omega
      refine wpCode_mono (fun r s' q => fin r s' q) (end7 (d := { d with te := te, ta := ta }) (nb := nb) (i := i) (j := j) (e := e) ?_ hFr hd2 hi hj he ha hen hend ?_ ?_ ?_ ?_)
      · cases nb <;> exact S0
      · show d.es.size ≤ 300; omega
      · show d.as.size ≤ 300; omega
      · show d.ms.size ≤ 300; omega
      · show d.us.size ≤ 300; omega
    | cons e' es =>
      obtain ⟨g4, g5, g6⟩ := drop_head g2
      obtain ⟨tn, hn⟩ := iE.at g4
      refine wpCode_mono (fun r s' q => fin r s' q) (end9 (d := { d with te := te, ta := ta, tn := tn }) (nb := nb) (i := i) (j := j) (e := e) (e' := e') ?_ hFr hd2 hi hj he ha hn (hne e' (by simp)) hend ?_ ?_ ?_ ?_)
      · cases nb <;> exact S0
      · show d.es.size ≤ 300; omega
      · show d.as.size ≤ 300; omega
      · show d.ms.size ≤ 300; omega
      · show d.us.size ≤ 300; omega
end Sld
end Mine
end
noncomputable section
open PySem PySem.W PyProof.Rows
set_option maxRecDepth 100000
set_option maxHeartbeats 4000000
set_option linter.unusedVariables false
namespace Mine
noncomputable def cntO (o : Obj) : Nat := match o.data with
  | .seq _ n => n
  | _ => 0
noncomputable def vAt (o : Obj) (k : Nat) : Value := match o.data with
  | .dict es _ => match es.toList[k]? with
    | some e => e.val
    | none => .none
  | _ => .none
/-- canonical epochs with places of all kinds -/
noncomputable def cEl (k : Nat) : Ep := { cEt k with tk := fun i => 10000 * (k + 1) + 7000 + i }
namespace Sld
open Split (slO Frs)
noncomputable def frL (P : Params) (A : Nat → Addr) (o : Obj) (tk : Nat → Nat) : Obj := frS P [("expected", .ref (A 1)), ("actual", .ref (A 2)), ("i", vAt o 2), ("j", vAt o 3), ("missing", .ref (A 3)), ("unexpected", .ref (A 4)), ("e", vAt o 6), ("a", vAt o 7)] tk 8 o.slots
noncomputable def Xloop (P : Params) (A : Nat → Addr) (F : Addr) (m u : List Int) : Xs :=
  ⟨[3, 2, 4, 5, 0, 1], fun ρ l => (.ok .next, [frL P A (getO ρ.os 0) ρ.tk, slO (getS l 1) (getO ρ.os 1).slots, lstObj ρ.vs ρ.t, lstObj (itemsO ρ.o) (cntO ρ.o)], []), id, fun ρ => IA ρ.vs m ∧ IA (itemsO ρ.o) u, some (FrsE (fn A) F)⟩
noncomputable def kS : List Kd := [.fn, .bi "claim.caller"]
structure Dc where
  es : Array Value
  as : Array Value
  ne : Nat
  na : Nat
  D : Nat → CD × Pos
  p : Pos
  toks : Nat
  gens : List GenState
noncomputable def cC (E Ac F : Addr) (o2 : Obj) (d : Dc) : Conf := conf (cx (callCode 793 [.ref E, .ref Ac]) kS d.D) d.p [(E, lstObj d.es d.ne), (Ac, lstObj d.as d.na), (F, o2)] d.toks d.gens
noncomputable def AL (x : Nat → Addr) (E Ac : Addr) : Nat → Addr := adr [x 0, E, Ac, x 1, x 2]
noncomputable def spC : Sp := ⟨⟨false, true⟩, [], [], true, 0⟩
noncomputable def sC (w : World) (x : Nat → Addr) (E Ac F : Addr) (o2 : Obj) (d : Dc) (m u : List Int) (ρ : Nat → Ep) : Out2 :=
  sim spC w x (fun _ => .none) [Xloop w.params (AL (fun j => 5000 + j) 4000 4001) 4002 m u] [Xloop w.params (AL x E Ac) F m u] cEl (cC 4000 4001 4002 o2 d) (cC E Ac F o2 d) ρ
/-- the state at the loop's start -/
noncomputable def d0 (d : Dc) (tk : Nat → Nat) (ti tj : Nat) : Dt := ⟨d.es, d.as, #[], #[], d.ne, d.na, 0, 0, 0, 0, ti, tj, tk, .none, .none, 0, 0, 0, 0, d.D, d.p, d.toks, d.gens, #[]⟩
/-- tokens of a listed dict's values, as a call that was not run saw it -/
noncomputable def vwVal (o : Out2) (j i k : Nat) : Nat := match viewAt o j with
  | some v => match gL v.sel i with
    | some (_, ⟨_, _, .dict es _, _⟩) => match es.toList[k]? with
      | some e => tokV e.val
      | none => 0
    | _ => 0
  | none => 0
noncomputable def prC (o : Out2) (P : Params) (x : Nat → Addr) (E Ac F : Addr) (o2 : Obj) (d : Dc) : List Ob :=
  [.p (FrsE (fn (AL x E Ac)) F [fn (AL x E Ac), (d.D 0).1.env]),
   .x ⟨wl (AL x E Ac), none, none, none, kW, (x 0, fr P (AL x E Ac) true (d0 d (vwD o 0 0) (vwVal o 0 0 2) (vwVal o 0 0 3))) :: (F, o2) :: (x 1, lstObj #[] 0) :: (x 2, lstObj #[] 0) :: (E, lstObj d.es d.ne) :: (Ac, lstObj d.as d.na) :: [], d.gens⟩]
noncomputable def FactC (w : World) (P : Params) (x : Nat → Addr) (E Ac F : Addr) (o2 : Obj) (d : Dc) (m u : List Int) (ρ : Nat → Ep) : Prop :=
  proj [6, 4, 5, 2, 0, 1] (sC w x E Ac F o2 d m u ρ) = want (sC w x E Ac F o2 d m u ρ) (prC (sC w x E Ac F o2 d m u ρ) P x E Ac F o2 d)
    [((ρ 0).x 0, tupObj [.ref (x 1), .ref (x 2)]), (x 1, lstObj (ρ 0).vs (ρ 0).t), (x 2, lstObj (itemsO (ρ 0).o) (cntO (ρ 0).o)), (F, slO o2 (getO (ρ 0).os 1).slots), (E, lstObj d.es d.ne), (Ac, lstObj d.as d.na)] d.gens
    (.pure (.done (.ret (.ref ((ρ 0).x 0))))) (cx (.func (fBody [33]) (fn (AL x E Ac))) kS d.D)
end Sld
end Mine
end
noncomputable section
open PySem PySem.W PyProof.Rows
set_option maxRecDepth 100000
set_option maxHeartbeats 4000000
set_option linter.unusedVariables false
namespace Mine
theorem St.perm {w : World} {g : List GenState} {l l' : List (Addr × Obj)} {s : Shared} (S : St w g l s) (h : l'.Perm l) : St w g l' s :=
  ⟨S.top, fun y hy => S.led y (h.subset hy), ((h.map (·.1)).nodup_iff).mpr S.nd, fun y hy => S.off y (h.subset hy), S.gens⟩
namespace Sld
open Split (slO Frs)
theorem factC (w : World) (a b : Bool) (x : Nat → Addr) (E Ac F : Addr) (o2 : Obj) (d : Dc) (m u : List Int) (ρ : Nat → Ep) : FactC (wS w a b) w.params x E Ac F o2 d m u ρ := by
  unfold FactC
  cases a <;> kernel_rfl
/-- the two lists' difference by its contract -/
noncomputable def Xsld (sel : List Nat) (F : Addr) (m u : List Int) : Xs :=
  ⟨sel, fun ρ l => (.ok (.ret (.ref ρ.n)), [slO (getS l 0) (getO ρ.os 0).slots], [(ρ.n, tupObj [.ref (ρ.tk 0), .ref (ρ.tk 1)]), (ρ.tk 0, lstObj ρ.vs ρ.t), (ρ.tk 1, lstObj (itemsO ρ.o) (cntO ρ.o))]), id, fun ρ => IA ρ.vs m ∧ IA (itemsO ρ.o) u, some (Frs [F])⟩
theorem loop_req {w : World} {a b : Bool} {A : Nat → Addr} {F : Addr} {o2 : Obj} {d : Dt} {E Ac m u : List Int} {gens : List GenState} (hE : E.length ≤ 100) (hA : Ac.length ≤ 100) (h : Dif E Ac m u) (iE : IA d.es E) (iA : IA d.as Ac) (hi : d.i = 0) (hj : d.j = 0) (hm : d.ms = #[]) (hu : d.us = #[]) (hg' : d.gens = gens) (hnm : d.nm = 0) (hnu : d.nu = 0) (hd2 : ∀ vs, o2.data ≠ .fields vs) :
    ReqOk (MM (wS w a b)) (topG (wS w a b)) (Xloop w.params A F m u) ⟨wl A, none, none, none, kW, (A 0, fr w.params A true d) :: (F, o2) :: (A 3, lstObj #[] 0) :: (A 4, lstObj #[] 0) :: (A 1, lstObj d.es d.ne) :: (A 2, lstObj d.as d.na) :: [], gens⟩ := by
  refine req_ofC rfl fun D p s hC T hLd hoff nd hg => ?_
  have nd := nd (by show [3, 2, 4, 5, 0, 1].Nodup; decide)
  have hFr : FrsE (fn A) F [(D 0).1.env, (D 1).1.env] := hC _ rfl
  have S0 : St (wS w a b) gens ((A 0, fr w.params A true d) :: (F, o2) :: (A 3, lstObj #[] 0) :: (A 4, lstObj #[] 0) :: (A 1, lstObj d.es d.ne) :: (A 2, lstObj d.as d.na) :: []) s := ⟨T, hLd, nd, hoff, hg⟩
  have S1 : St (wS w a b) d.gens (ledZ w.params A true d F o2) s := by
    rw [hg']
    refine S0.perm ?_
    unfold ledZ
    rw [hm, hu, hnm, hnu]
    exact List.Perm.append_left [(A 0, fr w.params A true d), (F, o2)] (List.perm_append_comm (l₁ := [(A 1, lstObj d.es d.ne), (A 2, lstObj d.as d.na)]) (l₂ := [(A 3, lstObj #[] 0), (A 4, lstObj #[] 0)]))
  refine wpCode_mono ?_ (loop (s0 := s) hE hA hFr hd2 h d true p s 0 0 [] [] iE iA rfl rfl (by rw [hi]; rfl) (by rw [hj]; rfl) (by rw [hm]; exact IA.nil) (by rw [hu]; exact IA.nil) (Nat.le_refl _) (Nat.le_refl _) S1 (Ch.refl _ _))
  rintro r s' ⟨rfl, d', sl, n1, n2, ms, us, g1, g2, g3, g4, g5⟩
  refine ⟨⟨xS s', s'.toks, n1, 0, .none, ms, lstObj us n2, [fr w.params A false d', slO o2 sl], d'.tk⟩, rfl, rfl, ⟨g1, g2⟩, rfl, ⟨?_, ?_, ?_, ?_, trivial⟩, fun y hy => (nomatch hy), List.nodup_nil, fun y hy => (nomatch hy), g5, by rw [g4, hg']; rfl⟩
  · exact g3 (A 0, fr w.params A false d') (by simp)
  · exact g3 (F, slO o2 sl) (by simp)
  · exact g3 (A 3, lstObj ms n1) (by simp)
  · exact g3 (A 4, lstObj us n2) (by simp)
theorem req {w : World} {a b : Bool} {E0 Ac0 F : Addr} {o2 : Obj} {es as : Array Value} {ne na : Nat} {E Ac m u : List Int} {gens : List GenState} {sel : List Nat} (hs : sel.Nodup) (hE : E.length ≤ 100) (hA : Ac.length ≤ 100) (h : Dif E Ac m u) (iE : IA es E) (iA : IA as Ac) (hd2 : ∀ vs, o2.data ≠ .fields vs) :
    ReqOk (MM (wS w a b)) (topG (wS w a b)) (Xsld sel F m u) ⟨callCode 793 [.ref E0, .ref Ac0], none, none, none, kS, [(F, o2), (E0, lstObj es ne), (Ac0, lstObj as na)], gens⟩ := by
  refine req_ofC rfl fun D p s hC T hLd hoff nd hg => ?_
  have nd := nd hs
  have hFr : Frs [F] [(D 0).1.env] := hC _ rfl
  have S0 : St (wS w a b) gens [(F, o2), (E0, lstObj es ne), (Ac0, lstObj as na)] s := ⟨T, hLd, nd, hoff, hg⟩
  have S1 : St (wS w a b) gens [(E0, lstObj es ne), (Ac0, lstObj as na), (F, o2)] s := S0.perm (List.perm_append_comm (l₁ := [(E0, lstObj es ne), (Ac0, lstObj as na)]) (l₂ := [(F, o2)]))
  let d : Dc := ⟨es, as, ne, na, D, p, s.toks, gens⟩
  have F0 := fun ρ => factC w a b (xS s) E0 Ac0 F o2 d m u ρ
  unfold FactC sC cC at F0
  refine sim_go (led := [(E0, lstObj es ne), (Ac0, lstObj as na), (F, o2)]) spC (fun _ => .none) _ [Xloop w.params (AL (xS s) E0 Ac0) F m u] cEl _ [6, 4, 5, 2, 0, 1] F0 S1.top S1.led S1.nd S1.off S1.gens (fun ρ => ⟨⟨(D 0).1.env, rfl, ?_, hFr.2 _ (by simp)⟩, loop_req (A := AL (xS s) E0 Ac0) (d := d0 d _ _ _) hE hA h iE iA rfl rfl rfl rfl rfl rfl rfl hd2, fun _ => trivial⟩) ?_
  · have := hFr.1
    simpa using this
  · intro ρ s' p' hI G
    have fresh := G.fresh (old := []) (news := [((ρ 0).x 0, tupObj [.ref (xS s 1), .ref (xS s 2)])])
    have G1 := G.led
    have nd1 := G.nd (by decide)
    have hge : s.heap.objs.size ≤ (ρ 0).x 0 := by
      rcases G.new _ List.mem_cons_self with z | z
      · exfalso
        simp only [List.map_cons, List.map_nil, List.nodup_cons, List.mem_cons, List.not_mem_nil, or_false, not_or] at nd1 z
        obtain ⟨⟨q1, q2, q3, q4, q5⟩, _⟩ := nd1
        rcases z with z | z | z
        · exact q4 z
        · exact q5 z
        · exact q3 z
      · exact z
    refine goes_done ⟨⟨xS s', s'.toks, (ρ 0).t, (ρ 0).x 0, .none, (ρ 0).vs, (ρ 0).o, [slO o2 (getO (ρ 0).os 1).slots], fun k => match k with | 0 => xS s 1 | _ => xS s 2⟩, rfl, rfl, hI.1, rfl, ⟨G1 (F, slO o2 (getO (ρ 0).os 1).slots) (by simp), trivial⟩, ?_, ?_, ?_, ?_, G.gens⟩
    · intro y hy
      simp only [Xsld, List.mem_cons, List.not_mem_nil, or_false] at hy
      rcases hy with h | h | h
      · subst h; exact G1 _ List.mem_cons_self
      · subst h; exact G1 (xS s 1, lstObj (ρ 0).vs (ρ 0).t) (by simp)
      · subst h; exact G1 (xS s 2, lstObj (itemsO (ρ 0).o) (cntO (ρ 0).o)) (by simp)
    · show [(ρ 0).x 0, xS s 1, xS s 2].Nodup
      simp only [List.map_cons, List.map_nil, List.nodup_cons, List.mem_cons, List.not_mem_nil, or_false, not_or] at nd1
      simp [nd1.1.1, nd1.1.2.1]
      exact fun q => by simp [xS] at q
    · intro y hy
      simp only [Xsld, List.mem_cons, List.not_mem_nil, or_false] at hy
      rcases hy with h | h | h
      · subst h; exact hge
      · subst h; exact Nat.le_add_right _ _
      · subst h; exact Nat.le_add_right _ _
    · refine G.ch.less (L1 := [F]) (Rd := [(E0, lstObj es ne), (Ac0, lstObj as na)]) (fun y hy => S0.led y (List.mem_cons_of_mem _ hy)) (fun y hy => G1 y ?_) (fun q hq => ?_)
      · simp only [List.mem_cons, List.not_mem_nil, or_false] at hy
        rcases hy with h | h
        · subst h; simp [d]
        · subst h; simp [d]
      · simp only [List.map_cons, List.map_nil, List.mem_cons, List.not_mem_nil, or_false] at hq ⊢
        rcases hq with h | h | h <;> simp [h]
end Sld
end Mine
end
noncomputable section
open PySem PySem.W PyProof.Rows
set_option maxRecDepth 100000
set_option maxHeartbeats 4000000
set_option linter.unusedVariables false
namespace Mine
namespace Law
open Split (slO Frs Xsplit)
open Join (Xjoin tab)
/-- the law's env: frame, cells -/
noncomputable def cells (B : Nat → Addr) : List (PySem.Str × Addr) := [(S "high", B 7), (S "low", B 6), (S "houses", B 5), (S "places", B 4), (S "read", B 3), (S "homes", B 2), (S "street", B 1)]
noncomputable def fn (B : Nat → Addr) : Env := fenv 40 "law" 827 826 (B 0) (cells B)
noncomputable def kL : List Kd := [.bi "claim.caller"]
structure Dl where
  vs : Array Value
  n : Nat
  D : Nat → CD × Pos
  p : Pos
  toks : Nat
noncomputable def cL (l c : Addr) (d : Dl) : Conf := conf (cx (callCode 827 [.ref l]) kL d.D) d.p [(l, lstObj d.vs d.n), (773, tab true c)] d.toks []
noncomputable def spL : Sp := ⟨⟨true, true⟩, ["list.__getitem__", "list.__add__", "list.__ne__", "list.__eq__", "len", "range", "list"], [812, 778, 771, 64, 71, 793], true, 0⟩
noncomputable def T1 (P : Array Value → Prop) : List Xs := [Xlist [0, 10] P]
end Law
end Mine
end
noncomputable section
open PySem PySem.W PyProof.Rows
set_option maxRecDepth 100000
set_option maxHeartbeats 4000000
set_option linter.unusedVariables false
namespace Mine
namespace Law
noncomputable def S40 (i : Nat) : Stmt := nthS (fBody [40]) i
noncomputable def kC : List Kd := .fn :: kL
structure Dt where
  vs : Array Value
  n : Nat
  i : Int
  us : Array Value
  m : Nat
  tk : Nat → Nat
  y : Value
  tv : Nat
  D : Nat → CD × Pos
  p : Pos
  toks : Nat
  gens : List GenState
/-- canonical: the comp's places, the law's, others -/
noncomputable def cA (j : Nat) : Addr := 4000 + j
noncomputable def cB (j : Nat) : Addr := 4100 + j
noncomputable def cO : Addr := 4200
noncomputable def ledT (P : Params) (tn : String) (A : Nat → Addr) (d : Dt) (nb : Bool) (rest : List (Addr × Obj)) : List (Addr × Obj) := cled P tn A d.vs d.n d.i d.us d.m nb d.tk d.y rest
noncomputable def cT (P : Params) (C : CX) (tn : String) (A : Nat → Addr) (env : Env) (ks : List Kd) (d : Dt) (nb : Bool) (rest : List (Addr × Obj)) : Conf := conf (cx (cloop C (A 0) (A 1) env) ks d.D) d.p (ledT P tn A d nb rest) d.toks d.gens
noncomputable def one (d : Dt) : Dt := { d with vs := #[.int 3 0], n := 0, i := 0 }
noncomputable def npr (A : Nat → Addr) (d : Dt) (v : Value) : Ob := .p (NextP (iterObj (.ref (A 3)) d.i) (lstObj d.vs d.n) (A 3) v)
noncomputable def ppr (d : Dt) : Ob := .p (PushP (lstObj d.us d.m))
noncomputable def Dt.push (d : Dt) (tk : Nat → Nat) (v o : Value) : Dt := { d with i := d.i + 1, us := d.us.push o, m := d.m + 1, tk := tk, y := v }
noncomputable def Dt.skip (d : Dt) (tk : Nat → Nat) (v : Value) : Dt := { d with i := d.i + 1, tk := tk, y := v }
/-- what a comp of the law leaves -/
noncomputable def CompEnds (w : World) (a b : Bool) (A : Nat → Addr) (tn : String) (vs : Array Value) (n : Nat) (rest : List (Addr × Obj)) (gens : List GenState) (I : Array Value → Prop) (s : Shared) (r : Result) (s' : Shared) : Prop :=
  r = .ok .next ∧ ∃ us o0 tk y, I us ∧ St (wS w a b) gens ((A 0, o0) :: (A 1, lstObj us us.size) :: (A 2, dcN w.params tn (decide (vs.size = 0)) tk y) :: (A 3, lstObj vs n) :: rest) s' ∧ Ch [A 0, A 1, A 2] s s'
/-- a comp, by its turns -/
theorem comp_turns {w : World} {a b : Bool} {C : CX} {A : Nat → Addr} {env : Env} {ks : List Kd} {D : Nat → CD × Pos} {vs : Array Value} {n : Nat} {rest : List (Addr × Obj)} {gens : List GenState} {tn : String} (P : Nat → Array Value → Prop) (h0 : P 0 #[])
    (turn : ∀ (i : Nat) (us : Array Value) (nb : Bool) (tk : Nat → Nat) (y : Value) (p : Pos) (s : Shared) (R : Result → Shared → Prop), i < vs.size → P i us → us.size ≤ i → St (wS w a b) gens (cled w.params tn A vs n i us us.size nb tk y rest) s →
      (∀ us' m' tk' y' p' s', St (wS w a b) gens (cled w.params tn A vs n (i + 1 : Nat) us' m' false tk' y' rest) s' → m' = us'.size → P (i + 1) us' → us'.size ≤ i + 1 → Ch ([A 0, A 1, A 2, A 3] ++ rest.map (·.1)) s s' → wpCode (MM (wS w a b)) (cx (cloop C (A 0) (A 1) env) ks D) R p' s') →
      wpCode (MM (wS w a b)) (cx (cloop C (A 0) (A 1) env) ks D) R p s)
    {tk : Nat → Nat} {y : Value} {p : Pos} {s : Shared} (S0 : St (wS w a b) gens (cled w.params tn A vs n 0 #[] 0 true tk y rest) s) :
    wpCode (MM (wS w a b)) (cx (cstart C (A 0) (A 1) env) ks D) (CompEnds w a b A tn vs n rest gens (P vs.size) s) p s := by
  refine wpCode_mono ?_ (comp_ok P h0 ?_ S0)
  · rintro r s' ⟨rfl, us, o0, tk, y, h1, _, h2, h3⟩
    exact ⟨rfl, us, o0, tk, y, h1, h2, h3⟩
  · intro i us nb tk y p s R hi hP hz S next
    refine turn i us nb tk y p s R hi hP hz S fun us' m' tk' y' p' s' S' hm hP' hz' C' => next us' m' tk' y' p' s' S' hm hP' hz' ?_
    refine C'.less (L1 := [A 0, A 1, A 2]) (Rd := (A 3, lstObj vs n) :: rest) (fun y hy => S.led y (by unfold cled; exact List.mem_cons_of_mem _ (List.mem_cons_of_mem _ (List.mem_cons_of_mem _ hy)))) (fun y hy => S'.led y (by unfold cled; exact List.mem_cons_of_mem _ (List.mem_cons_of_mem _ (List.mem_cons_of_mem _ hy)))) (fun q hq => ?_)
    simp only [List.cons_append, List.nil_append, List.mem_cons, List.map_cons] at hq ⊢
    rcases hq with h | h | h | h | h
    · exact .inl (.inl h)
    · exact .inl (.inr (.inl h))
    · exact .inl (.inr (.inr (.inl h)))
    · exact .inr (.inl h)
    · exact .inr (.inr h)
theorem nextP {A3 : Addr} {vs : Array Value} {n i : Nat} {v : Value} (h : vs[i]? = some v) : NextP (iterObj (.ref A3) (i : Nat)) (lstObj vs n) A3 v := ⟨vs, n, none, #[], rfl, rfl, by
  show vs[((i : Int)).toNat]? = some _
  rw [Int.toNat_natCast]; exact h⟩
theorem pushP {us : Array Value} (h : us.size ≤ 1000) : PushP (lstObj us us.size) := ⟨us, us.size, rfl, by rw [sizeLine_eq]; omega⟩
/-- draws, and their quotients by nine -/
noncomputable def Ca (q : Bool) : CX := match q with
  | false => cxOf (atE (S40 0) [])
  | true => cxOf (atE (S40 2) [1, 1])
noncomputable def va (q : Bool) (v : Int) : Int := match q with
  | false => v.fmod 81
  | true => v.fdiv 9
noncomputable def ea (q : Bool) (A B : Nat → Addr) : Env := cenv (Ca q) (fn B) (A 2) []
noncomputable def sa (w : World) (q : Bool) (x A B : Nat → Addr) (d : Dt) (nb : Bool) (v : Int) (ρ : Nat → Ep) : Out2 :=
  sim sp0 w x (fun _ => .int v d.tv) [] [] (cEp []) (cT w.params (Ca q) "x" cA (ea q cA cB) kC (one d) nb []) (cT w.params (Ca q) "x" A (ea q A B) kC d nb []) ρ
theorem facta (w : World) (a b q nb : Bool) (x A B : Nat → Addr) (d : Dt) (v : Int) (ρ : Nat → Ep) :
    proj [0, 1, 2, 3] (sa (wS w a b) q x A B d nb v ρ) = want (sa (wS w a b) q x A B d nb v ρ) [npr A d (.int v d.tv), ppr d]
      (ledT w.params "x" A (d.push (tks (sa (wS w a b) q x A B d nb v ρ) 2) (.int v d.tv) (.int (va q v) (d.toks + 2))) false []) d.gens
      (.pure (.again (cloop (Ca q) (A 0) (A 1) (ea q A B)))) (cx (cloop (Ca q) (A 0) (A 1) (ea q A B)) kC d.D) := by
  cases q <;> cases nb <;> cases a <;> kernel_rfl
theorem compa {w : World} {a b q : Bool} {A B : Nat → Addr} {D : Nat → CD × Pos} {vs : Array Value} {n : Nat} {gens : List GenState} {ns : List Int} (hv : IA vs ns) (hz : ns.length ≤ 900) {tk : Nat → Nat} {y : Value} {p : Pos} {s : Shared}
    (S0 : St (wS w a b) gens (cled w.params "x" A vs n 0 #[] 0 true tk y []) s) :
    wpCode (MM (wS w a b)) (cx (cstart (Ca q) (A 0) (A 1) (ea q A B)) kC D) (CompEnds w a b A "x" vs n [] gens (fun us => IA us (ns.map (va q))) s) p s := by
  refine wpCode_mono ?_ (comp_turns (fun i us => IA us ((ns.take i).map (va q))) IA.nil ?_ S0)
  · rintro r s' ⟨rfl, us, o0, tk, y, h1, h2⟩
    rw [hv.size, List.take_length] at h1
    exact ⟨rfl, us, o0, tk, y, h1, h2⟩
  · intro i us nb tk y p s R hi hP hz' S next
    rw [hv.size] at hi
    have e : ns[i]? = some ns[i] := List.getElem?_eq_getElem hi
    generalize ns[i] = v at e
    obtain ⟨tv, hx⟩ := hv.at e
    refine sim_go (led := ledT w.params "x" A ⟨vs, n, i, us, us.size, tk, y, tv, D, p, s.toks, gens⟩ nb []) sp0 (fun _ => .int v tv) [] [] (cEp []) _ [0, 1, 2, 3]
      (fun ρ => facta w a b q nb (xS s) A B ⟨vs, n, i, us, us.size, tk, y, tv, D, p, s.toks, gens⟩ v ρ) S.top S.led S.nd S.off S.gens (fun ρ => ⟨nextP hx, pushP (us := us) (by omega), trivial⟩) ?_
    intro ρ s' p' hI G
    refine goes_again rfl (next _ _ _ _ p' s' (G.st (by decide)) (Array.size_push _).symm ?_ (by show (us.push _).size ≤ i + 1; rw [Array.size_push]; omega) G.ch)
    rw [List.take_add_one, List.map_append, e]
    exact hP.push _ _
end Law
end Mine
end
noncomputable section
open PySem PySem.W PyProof.Rows
set_option maxRecDepth 100000
set_option maxHeartbeats 4000000
set_option linter.unusedVariables false
namespace Mine
namespace Law
theorem take_map {α β : Type} {l : List α} {i : Nat} {x : α} (h : l[i]? = some x) (f : α → β) : (l.take (i + 1)).map f = (l.take i).map f ++ [f x] := by
  rw [List.take_add_one, List.map_append, h]; rfl
theorem take_filter {α : Type} {l : List α} {i : Nat} {x : α} (h : l[i]? = some x) (f : α → Bool) : (l.take (i + 1)).filter f = (l.take i).filter f ++ (if f x then [x] else []) := by
  rw [List.take_add_one, List.filter_append, h]
  cases hx : f x <;> simp [hx]
noncomputable def CH : CX := cxOf (atE (S40 2) [])
noncomputable def eH (A B : Nat → Addr) : Env := cenv CH (fn B) (A 2) [(S "street", B 1)]
noncomputable def spH : Sp := ⟨⟨false, true⟩, ["len", "int.__mod__"], [], true, 0⟩
noncomputable def rH (B : Nat → Addr) (o : Addr) (ss : Array Value) (m : Nat) : List (Addr × Obj) := [(B 1, cellO (.ref o)), (o, lstObj ss m)]
noncomputable def sH (w : World) (x A B : Nat → Addr) (d : Dt) (nb : Bool) (o : Addr) (ss : Array Value) (m : Nat) (v h : Int) (ρ : Nat → Ep) : Out2 :=
  sim spH w x (fun _ => .int v d.tv) [XintS [5] 3, Xint 0] [XintS [5] h, Xint (v.fmod h)] (cEp []) (cT w.params CH "n" cA (eH cA cB) kC { d with vs := #[.int 3 0], n := 0, i := 0 } nb [(cB 1, cellO (.ref cO)), (cO, lstObj ss m)]) (cT w.params CH "n" A (eH A B) kC d nb (rH B o ss m)) ρ
theorem factH (w : World) (a b nb : Bool) (x A B : Nat → Addr) (d : Dt) (o : Addr) (ss : Array Value) (m : Nat) (v h : Int) (ρ : Nat → Ep) :
    proj [0, 1, 2, 3, 4, 5] (sH (wS w a b) x A B d nb o ss m v h ρ) = want (sH (wS w a b) x A B d nb o ss m v h ρ) ([npr A d (.int v d.tv)] ++ [.x ⟨biCode "len" [.ref o], none, none, none, .cp :: kC, [(o, lstObj ss m)], d.gens⟩, .x ⟨biCode "int.__mod__" [.int v d.tv, .int h (ρ 0).t], none, none, none, .cp :: kC, [], d.gens⟩] ++ [ppr d])
      (ledT w.params "n" A (d.push (tks (sH (wS w a b) x A B d nb o ss m v h ρ) 2) (.int v d.tv) (.int (v.fmod h) (ρ 1).t)) false (rH B o ss m)) d.gens
      (.pure (.again (cloop CH (A 0) (A 1) (eH A B)))) (cx (cloop CH (A 0) (A 1) (eH A B)) kC d.D) := by
  cases nb <;> cases a <;> kernel_rfl
noncomputable def CS : CX := cxOf (atE (S40 5) [1, 1, 1])
noncomputable def eS (A B : Nat → Addr) : Env := cenv CS (fn B) (A 2) [(S "street", B 1)]
noncomputable def spS : Sp := ⟨⟨false, true⟩, ["list.__getitem__"], [], true, 0⟩
noncomputable def rS (B : Nat → Addr) (o : Addr) (ss : Array Value) (m : Nat) : List (Addr × Obj) := [(B 1, cellO (.ref o)), (o, lstObj ss m)]
noncomputable def sS (w : World) (x A B : Nat → Addr) (d : Dt) (nb : Bool) (o : Addr) (ss : Array Value) (m : Nat) (v : Int) (z : PySem.Str) (tz : Nat) (ρ : Nat → Ep) : Out2 :=
  sim spS w x (fun _ => .int v d.tv) [Xval [5] (fun _ => .str z tz) (fun _ => True)] [Xval [5] (fun _ => .str z tz) (fun _ => True)] (cEp []) (cT w.params CS "home" cA (eS cA cB) kC { d with vs := #[.int 3 0], n := 0, i := 0 } nb [(cB 1, cellO (.ref cO)), (cO, lstObj ss m)]) (cT w.params CS "home" A (eS A B) kC d nb (rS B o ss m)) ρ
theorem factS (w : World) (a b nb : Bool) (x A B : Nat → Addr) (d : Dt) (o : Addr) (ss : Array Value) (m : Nat) (v : Int) (z : PySem.Str) (tz : Nat) (ρ : Nat → Ep) :
    proj [0, 1, 2, 3, 4, 5] (sS (wS w a b) x A B d nb o ss m v z tz ρ) = want (sS (wS w a b) x A B d nb o ss m v z tz ρ) ([npr A d (.int v d.tv)] ++ [.x ⟨biCode "list.__getitem__" [.ref o, .int v d.tv], none, none, none, .cp :: kC, [(o, lstObj ss m)], d.gens⟩] ++ [ppr d])
      (ledT w.params "home" A (d.push (tks (sS (wS w a b) x A B d nb o ss m v z tz ρ) 2) (.int v d.tv) (.str z tz)) false (rS B o ss m)) d.gens
      (.pure (.again (cloop CS (A 0) (A 1) (eS A B)))) (cx (cloop CS (A 0) (A 1) (eS A B)) kC d.D) := by
  cases nb <;> cases a <;> kernel_rfl
noncomputable def CR : CX := cxOf (atE (S40 5) [])
noncomputable def eR (A B : Nat → Addr) : Env := cenv CR (fn B) (A 2) [(S "read", B 3)]
noncomputable def spR : Sp := ⟨⟨false, true⟩, ["list.index"], [], true, 0⟩
noncomputable def rR (B : Nat → Addr) (o : Addr) (ss : Array Value) (m : Nat) : List (Addr × Obj) := [(B 3, cellO (.ref o)), (o, lstObj ss m)]
noncomputable def sR (w : World) (x A B : Nat → Addr) (d : Dt) (nb : Bool) (o : Addr) (ss : Array Value) (m : Nat) (z : PySem.Str) (k : Int) (ρ : Nat → Ep) : Out2 :=
  sim spR w x (fun _ => .str z d.tv) [XintS [5] k] [XintS [5] k] (cEp []) (cT w.params CR "name" cA (eR cA cB) kC { d with vs := #[.str z 0], n := 0, i := 0 } nb [(cB 3, cellO (.ref cO)), (cO, lstObj ss m)]) (cT w.params CR "name" A (eR A B) kC d nb (rR B o ss m)) ρ
theorem factR (w : World) (a b nb : Bool) (x A B : Nat → Addr) (d : Dt) (o : Addr) (ss : Array Value) (m : Nat) (z : PySem.Str) (k : Int) (ρ : Nat → Ep) :
    proj [0, 1, 2, 3, 4, 5] (sR (wS w a b) x A B d nb o ss m z k ρ) = want (sR (wS w a b) x A B d nb o ss m z k ρ) ([npr A d (.str z d.tv)] ++ [.x ⟨biCode "list.index" [.ref o, .str z d.tv], none, none, none, .cp :: kC, [(o, lstObj ss m)], d.gens⟩] ++ [ppr d])
      (ledT w.params "name" A (d.push (tks (sR (wS w a b) x A B d nb o ss m z k ρ) 2) (.str z d.tv) (.int k (ρ 0).t)) false (rR B o ss m)) d.gens
      (.pure (.again (cloop CR (A 0) (A 1) (eR A B)))) (cx (cloop CR (A 0) (A 1) (eR A B)) kC d.D) := by
  cases nb <;> cases a <;> kernel_rfl
noncomputable def Dt.step (d : Dt) (c : Bool) (tk : Nat → Nat) (v : Value) : Dt := match c with
  | true => d.push tk v v
  | false => d.skip tk v
noncomputable def ppc (d : Dt) (c : Bool) : List Ob := match c with
  | true => [ppr d]
  | false => []
noncomputable def CM : CX := cxOf (atE (S40 13) [])
noncomputable def eM (A B : Nat → Addr) : Env := cenv CM (fn B) (A 2) [(S "homes", B 2)]
noncomputable def spM : Sp := ⟨⟨false, true⟩, ["list.__contains__"], [], true, 0⟩
noncomputable def rM (B : Nat → Addr) (o : Addr) (ss : Array Value) (m : Nat) : List (Addr × Obj) := [(B 2, cellO (.ref o)), (o, lstObj ss m)]
noncomputable def sM (w : World) (x A B : Nat → Addr) (d : Dt) (nb : Bool) (o : Addr) (ss : Array Value) (m : Nat) (v : Int) (c : Bool) (ρ : Nat → Ep) : Out2 :=
  sim spM w x (fun _ => .int v d.tv) [XboolS [5] c] [XboolS [5] c] (cEp []) (cT w.params CM "h" cA (eM cA cB) kC (one d) nb [(cB 2, cellO (.ref cO)), (cO, lstObj ss m)]) (cT w.params CM "h" A (eM A B) kC d nb (rM B o ss m)) ρ
theorem factM (w : World) (a b nb : Bool) (x A B : Nat → Addr) (d : Dt) (o : Addr) (ss : Array Value) (m : Nat) (v : Int) (c : Bool) (ρ : Nat → Ep) :
    proj [0, 1, 2, 3, 4, 5] (sM (wS w a b) x A B d nb o ss m v c ρ) = want (sM (wS w a b) x A B d nb o ss m v c ρ) ([npr A d (.int v d.tv), .x ⟨biCode "list.__contains__" [.ref o, .int v d.tv], none, none, none, .cp :: kC, [(o, lstObj ss m)], d.gens⟩] ++ ppc d c)
      (ledT w.params "h" A (d.step c (tks (sM (wS w a b) x A B d nb o ss m v c ρ) 2) (.int v d.tv)) false (rM B o ss m)) d.gens
      (.pure (.again (cloop CM (A 0) (A 1) (eM A B)))) (cx (cloop CM (A 0) (A 1) (eM A B)) kC d.D) := by
  cases c <;> cases nb <;> cases a <;> kernel_rfl
noncomputable def CO : CX := cxOf (atE (S40 15) [0, 1])
noncomputable def eO (A B : Nat → Addr) : Env := cenv CO (fn B) (A 2) [(S "low", B 6), (S "high", B 7)]
noncomputable def spO : Sp := ⟨⟨true, true⟩, [], [], true, 0⟩
noncomputable def rO (B : Nat → Addr) (lo hi : Int) (tl th : Nat) : List (Addr × Obj) := [(B 6, cellO (.int lo tl)), (B 7, cellO (.int hi th))]
/-- below, above, neither -/
noncomputable def cO3 : Br → Bool
  | .e => false
  | _ => true
noncomputable def vO : Br → Int
  | .l => 0
  | .g => 9
  | .e => 3
noncomputable def sO (w : World) (x A B : Nat → Addr) (d : Dt) (nb : Bool) (lo hi : Int) (tl th : Nat) (v : Int) (g : Br) (ρ : Nat → Ep) : Out2 :=
  sim spO w x (fun _ => .int v d.tv) [] [] (cEp []) (cT w.params CO "h" cA (eO cA cB) kC { d with vs := #[.int (vO g) 0], n := 0, i := 0 } nb (rO cB 2 5 0 0)) (cT w.params CO "h" A (eO A B) kC d nb (rO B lo hi tl th)) ρ
noncomputable def prO (d : Dt) (lo hi v : Int) (g : Br) : List Ob := match g with
  | .l => [.p ((v < lo) = (true = true)), ppr d]
  | .g => [.p ((v < lo) = (false = true)), .p ((v > hi) = (true = true)), ppr d]
  | .e => [.p ((v < lo) = (false = true)), .p ((v > hi) = (false = true))]
theorem factO (w : World) (a b nb : Bool) (x A B : Nat → Addr) (d : Dt) (lo hi : Int) (tl th : Nat) (v : Int) (g : Br) (ρ : Nat → Ep) :
    proj [0, 1, 2, 3, 4, 5] (sO (wS w a b) x A B d nb lo hi tl th v g ρ) = want (sO (wS w a b) x A B d nb lo hi tl th v g ρ) (npr A d (.int v d.tv) :: prO d lo hi v g)
      (ledT w.params "h" A (d.step (cO3 g) (tks (sO (wS w a b) x A B d nb lo hi tl th v g ρ) 2) (.int v d.tv)) false (rO B lo hi tl th)) d.gens
      (.pure (.again (cloop CO (A 0) (A 1) (eO A B)))) (cx (cloop CO (A 0) (A 1) (eO A B)) kC d.D) := by
  cases g <;> cases nb <;> cases a <;> kernel_rfl
end Law
end Mine
end
noncomputable section
open PySem PySem.W PyProof.Rows
set_option maxRecDepth 100000
set_option maxHeartbeats 4000000
set_option linter.unusedVariables false
set_option linter.constructorNameAsVariable false
namespace Mine
namespace Law
open Split (slO)
noncomputable def pushIf (c : Bool) (us : Array Value) (x : Value) : Array Value := match c with
  | true => us.push x
  | false => us
theorem compH {w : World} {a b : Bool} {A B : Nat → Addr} {D : Nat → CD × Pos} {vs : Array Value} {n : Nat} {gens : List GenState} {o : Addr} {ss : Array Value} {m : Nat} {ns : List Int} (hv : IA vs ns) (hz : ns.length ≤ 900) (h0 : ss.size ≠ 0) (hs : ss.size ≤ 1000) {tk : Nat → Nat} {y : Value} {p : Pos} {s : Shared}
    (S0 : St (wS w a b) gens (cled w.params "n" A vs n 0 #[] 0 true tk y (rH B o ss m)) s) :
    wpCode (MM (wS w a b)) (cx (cstart CH (A 0) (A 1) (eH A B)) kC D) (CompEnds w a b A "n" vs n (rH B o ss m) gens (fun us => IA us (ns.map (·.fmod (ss.size : Int)))) s) p s := by
  refine wpCode_mono ?_ (comp_turns (fun i us => IA us ((ns.take i).map (·.fmod (ss.size : Int)))) IA.nil ?_ S0)
  · rintro r s' ⟨rfl, us, o0, tk, y, h1, h2⟩
    rw [hv.size, List.take_length] at h1
    exact ⟨rfl, us, o0, tk, y, h1, h2⟩
  · intro i us nb tk y p s R hi hP hz' S next
    rw [hv.size] at hi
    have e : ns[i]? = some ns[i] := List.getElem?_eq_getElem hi
    generalize ns[i] = v at e
    obtain ⟨tv, hx⟩ := hv.at e
    refine sim_go (led := ledT w.params "n" A ⟨vs, n, i, us, us.size, tk, y, tv, D, p, s.toks, gens⟩ nb (rH B o ss m)) spH (fun _ => .int v tv) _ [XintS [5] (ss.size : Int), Xint (v.fmod (ss.size : Int))] (cEp []) _ [0, 1, 2, 3, 4, 5]
      (fun ρ => factH w a b nb (xS s) A B ⟨vs, n, i, us, us.size, tk, y, tv, D, p, s.toks, gens⟩ o ss m v (ss.size : Int) ρ) S.top S.led S.nd S.off S.gens (fun ρ => ⟨nextP hx, len_req hs, fun _ => ⟨mod_req (by omega), fun _ => ⟨pushP (us := us) (by omega), trivial⟩⟩⟩) ?_
    intro ρ s' p' hI G
    refine goes_again rfl (next _ _ _ _ p' s' (G.st (by decide)) (Array.size_push _).symm ?_ (by show (us.push _).size ≤ i + 1; rw [Array.size_push]; omega) G.ch)
    rw [take_map e]
    exact hP.push _ _
theorem compS {w : World} {a b : Bool} {A B : Nat → Addr} {D : Nat → CD × Pos} {vs : Array Value} {n : Nat} {gens : List GenState} {o : Addr} {ss : Array Value} {m : Nat} {hs : List Nat} {sl : List PySem.Str} (hv : IA vs (nI hs)) (hz : hs.length ≤ 900) (hl : SA ss sl) (hs1 : ∀ h ∈ hs, h < sl.length) (hs2 : sl.length ≤ 900) {tk : Nat → Nat} {y : Value} {p : Pos} {s : Shared}
    (S0 : St (wS w a b) gens (cled w.params "home" A vs n 0 #[] 0 true tk y (rS B o ss m)) s) :
    wpCode (MM (wS w a b)) (cx (cstart CS (A 0) (A 1) (eS A B)) kC D) (CompEnds w a b A "home" vs n (rS B o ss m) gens (fun us => SA us (hs.map (fun h => sl.getD h default))) s) p s := by
  refine wpCode_mono ?_ (comp_turns (fun i us => SA us ((hs.take i).map (fun h => sl.getD h default))) SA.nil ?_ S0)
  · rintro r s' ⟨rfl, us, o0, tk, y, h1, h2⟩
    rw [hv.size, nI, List.length_map, List.take_length] at h1
    exact ⟨rfl, us, o0, tk, y, h1, h2⟩
  · intro i us nb tk y p s R hi hP hz' S next
    rw [hv.size, nI, List.length_map] at hi
    have e : hs[i]? = some hs[i] := List.getElem?_eq_getElem hi
    generalize hs[i] = v at e
    obtain ⟨tv, hx⟩ := hv.at (show (nI hs)[i]? = some (v : Int) by rw [nI, List.getElem?_map, e]; rfl)
    have hvl : v < sl.length := hs1 v (List.mem_of_getElem? e)
    obtain ⟨tz, hw⟩ := hl.get (i := v) (x := sl.getD v default) (by rw [List.getD_eq_getElem?_getD, List.getElem?_eq_getElem hvl]; rfl)
    refine sim_go (led := ledT w.params "home" A ⟨vs, n, i, us, us.size, tk, y, tv, D, p, s.toks, gens⟩ nb (rS B o ss m)) spS (fun _ => .int (v : Int) tv) _ [Xval [5] (fun _ => .str (sl.getD v default) tz) (fun _ => True)] (cEp []) _ [0, 1, 2, 3, 4, 5]
      (fun ρ => factS w a b nb (xS s) A B ⟨vs, n, i, us, us.size, tk, y, tv, D, p, s.toks, gens⟩ o ss m (v : Int) (sl.getD v default) tz ρ) S.top S.led S.nd S.off S.gens (fun ρ => ⟨nextP hx, item_req (by omega) (by omega) (by rw [Int.toNat_natCast]; exact hw), fun _ => ⟨pushP (us := us) (by omega), trivial⟩⟩) ?_
    intro ρ s' p' hI G
    refine goes_again rfl (next _ _ _ _ p' s' (G.st (by decide)) (Array.size_push _).symm ?_ (by show (us.push _).size ≤ i + 1; rw [Array.size_push]; omega) G.ch)
    rw [take_map e]
    exact hP.push _ _
theorem compR {w : World} {a b : Bool} {A B : Nat → Addr} {D : Nat → CD × Pos} {vs : Array Value} {n : Nat} {gens : List GenState} {o : Addr} {ss : Array Value} {m : Nat} {zs sl : List PySem.Str} {K : PySem.Str → Nat} (hv : SA vs zs) (hz : zs.length ≤ 900) (hl : SA ss sl) (hK : ∀ z ∈ zs, sl[K z]? = some z ∧ (∀ m, m < K z → sl[m]? ≠ some z) ∧ K z < 1000) {tk : Nat → Nat} {y : Value} {p : Pos} {s : Shared}
    (S0 : St (wS w a b) gens (cled w.params "name" A vs n 0 #[] 0 true tk y (rR B o ss m)) s) :
    wpCode (MM (wS w a b)) (cx (cstart CR (A 0) (A 1) (eR A B)) kC D) (CompEnds w a b A "name" vs n (rR B o ss m) gens (fun us => IA us (zs.map (fun z => (K z : Int)))) s) p s := by
  refine wpCode_mono ?_ (comp_turns (fun i us => IA us ((zs.take i).map (fun z => (K z : Int)))) IA.nil ?_ S0)
  · rintro r s' ⟨rfl, us, o0, tk, y, h1, h2⟩
    rw [hv.size, List.take_length] at h1
    exact ⟨rfl, us, o0, tk, y, h1, h2⟩
  · intro i us nb tk y p s R hi hP hz' S next
    rw [hv.size] at hi
    have e : zs[i]? = some zs[i] := List.getElem?_eq_getElem hi
    generalize zs[i] = v at e
    obtain ⟨tv, hx⟩ := hv.get e
    have hm : v ∈ zs := List.mem_of_getElem? e
    refine sim_go (led := ledT w.params "name" A ⟨vs, n, i, us, us.size, tk, y, tv, D, p, s.toks, gens⟩ nb (rR B o ss m)) spR (fun _ => .str v tv) _ [XintS [5] (K v : Int)] (cEp []) _ [0, 1, 2, 3, 4, 5]
      (fun ρ => factR w a b nb (xS s) A B ⟨vs, n, i, us, us.size, tk, y, tv, D, p, s.toks, gens⟩ o ss m v (K v : Int) ρ) S.top S.led S.nd S.off S.gens (fun ρ => ⟨nextP hx, index_req hl (hK v hm).1 (hK v hm).2.1 (hK v hm).2.2, fun _ => ⟨pushP (us := us) (by omega), trivial⟩⟩) ?_
    intro ρ s' p' hI G
    refine goes_again rfl (next _ _ _ _ p' s' (G.st (by decide)) (Array.size_push _).symm ?_ (by show (us.push _).size ≤ i + 1; rw [Array.size_push]; omega) G.ch)
    rw [take_map e]
    exact hP.push _ _
theorem compM {w : World} {a b : Bool} {A B : Nat → Addr} {D : Nat → CD × Pos} {vs : Array Value} {n : Nat} {gens : List GenState} {o : Addr} {ss : Array Value} {m : Nat} {ns hs : List Int} (hv : IA vs ns) (hz : ns.length ≤ 900) (hl : IA ss hs) {tk : Nat → Nat} {y : Value} {p : Pos} {s : Shared}
    (S0 : St (wS w a b) gens (cled w.params "h" A vs n 0 #[] 0 true tk y (rM B o ss m)) s) :
    wpCode (MM (wS w a b)) (cx (cstart CM (A 0) (A 1) (eM A B)) kC D) (CompEnds w a b A "h" vs n (rM B o ss m) gens (fun us => IA us (ns.filter (fun v => hs.contains v))) s) p s := by
  refine wpCode_mono ?_ (comp_turns (fun i us => IA us ((ns.take i).filter (fun v => hs.contains v))) IA.nil ?_ S0)
  · rintro r s' ⟨rfl, us, o0, tk, y, h1, h2⟩
    rw [hv.size, List.take_length] at h1
    exact ⟨rfl, us, o0, tk, y, h1, h2⟩
  · intro i us nb tk y p s R hi hP hz' S next
    rw [hv.size] at hi
    have e : ns[i]? = some ns[i] := List.getElem?_eq_getElem hi
    generalize ns[i] = v at e
    obtain ⟨tv, hx⟩ := hv.at e
    obtain ⟨c, hc⟩ : ∃ c, hs.contains v = c := ⟨_, rfl⟩
    have obs : ∀ ρ : Nat → Ep, AllObs (MM (wS w a b)) (topG (wS w a b)) [XboolS [5] c] ρ ([npr A ⟨vs, n, i, us, us.size, tk, y, tv, D, p, s.toks, gens⟩ (.int v tv), .x ⟨biCode "list.__contains__" [.ref o, .int v tv], none, none, none, .cp :: kC, [(o, lstObj ss m)], gens⟩] ++ ppc ⟨vs, n, i, us, us.size, tk, y, tv, D, p, s.toks, gens⟩ c) := by
      intro ρ
      cases c
      · exact ⟨nextP hx, hc ▸ inInts_req hl, fun _ => trivial⟩
      · exact ⟨nextP hx, hc ▸ inInts_req hl, fun _ => ⟨pushP (us := us) (by omega), trivial⟩⟩
    refine sim_go (led := ledT w.params "h" A ⟨vs, n, i, us, us.size, tk, y, tv, D, p, s.toks, gens⟩ nb (rM B o ss m)) spM (fun _ => .int v tv) _ [XboolS [5] c] (cEp []) _ [0, 1, 2, 3, 4, 5]
      (fun ρ => factM w a b nb (xS s) A B ⟨vs, n, i, us, us.size, tk, y, tv, D, p, s.toks, gens⟩ o ss m v c ρ) S.top S.led S.nd S.off S.gens (fun ρ => obs ρ) ?_
    intro ρ s' p' hI G
    have hP' : IA (pushIf c us (.int v tv)) ((ns.take (i + 1)).filter (fun v => hs.contains v)) := by
      rw [take_filter e, hc]
      cases c
      · show IA us _
        simpa using hP
      · exact hP.push _ _
    refine goes_again rfl ?_
    cases c
    · exact next us us.size _ _ p' s' (G.st (by decide)) rfl hP' (by omega) G.ch
    · exact next (us.push (.int v tv)) (us.size + 1) _ _ p' s' (G.st (by decide)) (Array.size_push _).symm hP' (by rw [Array.size_push]; omega) G.ch
theorem compO {w : World} {a b : Bool} {A B : Nat → Addr} {D : Nat → CD × Pos} {vs : Array Value} {n : Nat} {gens : List GenState} {lo hgh : Int} {tl th : Nat} {ns : List Int} (hv : IA vs ns) (hz : ns.length ≤ 900) {tk : Nat → Nat} {y : Value} {p : Pos} {s : Shared}
    (S0 : St (wS w a b) gens (cled w.params "h" A vs n 0 #[] 0 true tk y (rO B lo hgh tl th)) s) :
    wpCode (MM (wS w a b)) (cx (cstart CO (A 0) (A 1) (eO A B)) kC D) (CompEnds w a b A "h" vs n (rO B lo hgh tl th) gens (fun us => IA us (ns.filter (fun v => decide (v < lo) || decide (v > hgh)))) s) p s := by
  refine wpCode_mono ?_ (comp_turns (fun i us => IA us ((ns.take i).filter (fun v => decide (v < lo) || decide (v > hgh)))) IA.nil ?_ S0)
  · rintro r s' ⟨rfl, us, o0, tk, y, h1, h2⟩
    rw [hv.size, List.take_length] at h1
    exact ⟨rfl, us, o0, tk, y, h1, h2⟩
  · intro i us nb tk y p s R hi hP hz' S next
    rw [hv.size] at hi
    have e : ns[i]? = some ns[i] := List.getElem?_eq_getElem hi
    generalize ns[i] = v at e
    obtain ⟨tv, hx⟩ := hv.at e
    obtain ⟨g, hg1, hc⟩ : ∃ g : Br, (match g with | .l => v < lo | .g => ¬ v < lo ∧ v > hgh | .e => ¬ v < lo ∧ ¬ v > hgh) ∧ (decide (v < lo) || decide (v > hgh)) = cO3 g := by
      by_cases q1 : v < lo
      · exact ⟨.l, q1, by simp [q1, cO3]⟩
      · by_cases q2 : v > hgh
        · exact ⟨.g, ⟨q1, q2⟩, by simp [q2, cO3]⟩
        · exact ⟨.e, ⟨q1, q2⟩, by simp [q1, q2, cO3]⟩
    have obs : ∀ ρ : Nat → Ep, AllObs (MM (wS w a b)) (topG (wS w a b)) [] ρ (npr A ⟨vs, n, i, us, us.size, tk, y, tv, D, p, s.toks, gens⟩ (.int v tv) :: prO ⟨vs, n, i, us, us.size, tk, y, tv, D, p, s.toks, gens⟩ lo hgh v g) := by
      intro ρ
      cases g
      · exact ⟨nextP hx, Sld.notP hg1.1, Sld.isP hg1.2, pushP (us := us) (by omega), trivial⟩
      · exact ⟨nextP hx, Sld.isP hg1, pushP (us := us) (by omega), trivial⟩
      · exact ⟨nextP hx, Sld.notP hg1.1, Sld.notP hg1.2, trivial⟩
    refine sim_go (led := ledT w.params "h" A ⟨vs, n, i, us, us.size, tk, y, tv, D, p, s.toks, gens⟩ nb (rO B lo hgh tl th)) spO (fun _ => .int v tv) _ [] (cEp []) _ [0, 1, 2, 3, 4, 5]
      (fun ρ => factO w a b nb (xS s) A B ⟨vs, n, i, us, us.size, tk, y, tv, D, p, s.toks, gens⟩ lo hgh tl th v g ρ) S.top S.led S.nd S.off S.gens (fun ρ => obs ρ) ?_
    intro ρ s' p' hI G
    have hP' : IA (pushIf (cO3 g) us (.int v tv)) ((ns.take (i + 1)).filter (fun v => decide (v < lo) || decide (v > hgh))) := by
      rw [take_filter e, hc]
      cases g
      · exact hP.push _ _
      · exact hP.push _ _
      · rw [show (if cO3 .e = true then [v] else []) = ([] : List Int) from rfl, List.append_nil]
        exact hP
    refine goes_again rfl ?_
    cases g
    · exact next (us.push (.int v tv)) (us.size + 1) _ _ p' s' (G.st (by decide)) (Array.size_push _).symm hP' (by rw [Array.size_push]; omega) G.ch
    · exact next (us.push (.int v tv)) (us.size + 1) _ _ p' s' (G.st (by decide)) (Array.size_push _).symm hP' (by rw [Array.size_push]; omega) G.ch
    · exact next us us.size _ _ p' s' (G.st (by decide)) rfl hP' (by omega) G.ch
end Law
end Mine
end
noncomputable section
open PySem PySem.W PyProof.Rows
set_option maxRecDepth 100000
set_option maxHeartbeats 4000000
set_option linter.unusedVariables false
namespace Mine
namespace Law
open Split (slO Frs Xsplit)
open Join (Xjoin tab)
open Median (Xmed)
open Sld (Xsld)
/-- split by its contract, the caller's frame as it lies there -/
noncomputable def XsplitG (iF : Nat) (F : Addr) (I : Array Value → Prop) : Xs := ⟨[iF], fun ρ l => (.ok (.ret (.ref ρ.n)), [slO (getS l 0) ρ.o.slots], [(ρ.n, lstObj ρ.vs ρ.t)]), id, fun ρ => I ρ.vs, some (Frs [F])⟩
structure Pm where
  sl : Array Value → Prop
  dw : Array Value → Prop
  st : Array Value → Prop
  qt : Array Value → Prop
  ad : Array Value → Prop
  hm : Array Value → Prop
  rd : Array Value → Prop
  nm : Array Value → Prop
  sp : Array Value → Prop
  pl : Array Value → Prop
  hs : Array Value → Prop
  ub : Array Value → Prop
  rg : Array Value → Prop
  dl : Array Value → Prop
  ms : Array Value → Prop
  rg2 : Array Value → Prop
  y1 : PySem.Str
  y2 : PySem.Str
  H : Int
  lo : Int
  hi : Int
  m : List Int
  u : List Int
  nb : Bool
/-- the loops over the pairs of houses -/
noncomputable def Xfor2 (P : Params) : Xs := ⟨[34, 2, 33, 7, 4, 22, 6, 30], fun ρ l => (.ok .next, [ρ.o, Sld.frS P [("script", vAt (getS l 1) 0), ("draws", vAt (getS l 1) 1), ("one", vAt (getO ρ.os 0) 2), ("other", vAt (getO ρ.os 0) 3), ("due", vAt (getO ρ.os 0) 4)] ρ.tk 5 (getO ρ.os 0).slots], []), id, fun _ => True, none⟩
noncomputable def X1 (P : Params) (F : Addr) (q : Pm) : List Xs :=
  [Xlist [0, 10] q.sl, Xcomp P "x" q.nb [12, 13, 14, 11] q.dw, Xlist [13] q.st, Xcomp P "x" q.nb [17, 18, 19, 13] q.qt, Xlist [16, 18] q.ad, Xcomp P "n" false [21, 22, 23, 20, 3, 15] q.hm,
   Xjoin 1 15 q.y1, XsplitG 2 F q.rd, XboolS [24, 15] false, Xcomp P "home" false [25, 26, 27, 22, 3, 15] q.nm, Xjoin 1 26 q.y2, XsplitG 2 F q.sp, Xcomp P "name" false [29, 30, 31, 28, 5, 24] q.pl, XboolS [30, 22] false,
   XintS [15] q.H, Xrng 0 q.H, Xlist [32] q.hs]
end Law
end Mine
end
noncomputable section
open PySem PySem.W PyProof.Rows
set_option maxRecDepth 100000
set_option maxHeartbeats 4000000
set_option linter.unusedVariables false
namespace Mine
namespace Law
/-- who loses against none: the outer comp, the inner one -/
noncomputable def CU : CX := cxOf (atE (S40 11) [])
noncomputable def CI : CX := cxOf (atE (S40 11) [2, 0])
/-- the outer's: iterator, result, cell, houses, dict -/
noncomputable def eU (A B : Nat → Addr) : Env := cenv CU (fn B) (A 4) [(S "h", A 2), (S "places", B 4), (S "houses", B 5)]
/-- the inner's: iterator, result, dict, houses -/
noncomputable def eI (A G B : Nat → Addr) : Env := cenv CI (eU A B) (G 2) [(S "places", B 4), (S "h", A 2)]
noncomputable def kI : List Kd := .cp :: kC
noncomputable def cG (j : Nat) : Addr := 4300 + j
noncomputable def spI : Sp := ⟨⟨true, true⟩, [], [817], true, 0⟩
noncomputable def rI (A B : Nat → Addr) (hv : Int) (th : Nat) (pl : Addr) (ps : Array Value) (m : Nat) : List (Addr × Obj) := [(A 2, cellO (.int hv th)), (B 4, cellO (.ref pl)), (pl, lstObj ps m)]
noncomputable def tI : Bool → Int
  | true => -1
  | false => 1
noncomputable def sI (w : World) (x A G B : Nat → Addr) (d : Dt) (nb : Bool) (hv : Int) (th : Nat) (pl : Addr) (ps : Array Value) (m : Nat) (v t : Int) (c : Bool) (ρ : Nat → Ep) : Out2 :=
  sim spI w x (fun _ => .int v d.tv) [XintS [6] (tI c)] [XintS [6] t] (cEp []) (cT w.params CI "r" cG (eI cA cG cB) kI (one d) nb (rI cA cB hv th cO ps m)) (cT w.params CI "r" G (eI A G B) kI d nb (rI A B hv th pl ps m)) ρ
theorem factI (w : World) (a b nb : Bool) (x A G B : Nat → Addr) (d : Dt) (hv : Int) (th : Nat) (pl : Addr) (ps : Array Value) (m : Nat) (v t : Int) (c : Bool) (ρ : Nat → Ep) :
    proj [0, 1, 2, 3, 4, 5, 6] (sI (wS w a b) x A G B d nb hv th pl ps m v t c ρ) = want (sI (wS w a b) x A G B d nb hv th pl ps m v t c ρ)
      ([npr G d (.int v d.tv), .x ⟨callCode 817 [.int hv th, .int v d.tv, .ref pl], none, none, none, .cp :: kI, [(pl, lstObj ps m)], d.gens⟩, .p ((t < 0) = (c = true))] ++ ppc d c)
      (ledT w.params "r" G (d.step c (tks (sI (wS w a b) x A G B d nb hv th pl ps m v t c ρ) 2) (.int v d.tv)) false (rI A B hv th pl ps m)) d.gens
      (.pure (.again (cloop CI (G 0) (G 1) (eI A G B)))) (cx (cloop CI (G 0) (G 1) (eI A G B)) kI d.D) := by
  cases c <;> cases nb <;> cases a <;> kernel_rfl
theorem compI {w : World} {a b : Bool} {A G B : Nat → Addr} {D : Nat → CD × Pos} {vs : Array Value} {n : Nat} {gens : List GenState} {hv : Int} {th : Nat} {pl : Addr} {ps : Array Value} {m : Nat} {ns pls : List Int} (hvs : IA vs ns) (hz : ns.length ≤ 900) (hp : IA ps pls) (hpz : pls.length ≤ 900) {tk : Nat → Nat} {y : Value} {p : Pos} {s : Shared}
    (S0 : St (wS w a b) gens (cled w.params "r" G vs n 0 #[] 0 true tk y (rI A B hv th pl ps m)) s) :
    wpCode (MM (wS w a b)) (cx (cstart CI (G 0) (G 1) (eI A G B)) kI D) (CompEnds w a b G "r" vs n (rI A B hv th pl ps m) gens (fun us => IA us (ns.filter (fun r => decide (Vote.total hv r pls < 0)))) s) p s := by
  refine wpCode_mono ?_ (comp_turns (fun i us => IA us ((ns.take i).filter (fun r => decide (Vote.total hv r pls < 0)))) IA.nil ?_ S0)
  · rintro r s' ⟨rfl, us, o0, tk, y, h1, h2⟩
    rw [hvs.size, List.take_length] at h1
    exact ⟨rfl, us, o0, tk, y, h1, h2⟩
  · intro i us nb tk y p s R hi hP hz' S next
    rw [hvs.size] at hi
    have e : ns[i]? = some ns[i] := List.getElem?_eq_getElem hi
    generalize ns[i] = v at e
    obtain ⟨tv, hx⟩ := hvs.at e
    obtain ⟨c, hc⟩ : ∃ c, decide (Vote.total hv v pls < 0) = c := ⟨_, rfl⟩
    have hcP : (Vote.total hv v pls < 0) = (c = true) := by
      cases c
      · exact Sld.notP (of_decide_eq_false hc)
      · exact Sld.isP (of_decide_eq_true hc)
    refine sim_go (led := ledT w.params "r" G ⟨vs, n, i, us, us.size, tk, y, tv, D, p, s.toks, gens⟩ nb (rI A B hv th pl ps m)) spI (fun _ => .int v tv) _ [XintS [6] (Vote.total hv v pls)] (cEp []) _ [0, 1, 2, 3, 4, 5, 6]
      (fun ρ => factI w a b nb (xS s) A G B ⟨vs, n, i, us, us.size, tk, y, tv, D, p, s.toks, gens⟩ hv th pl ps m v (Vote.total hv v pls) c ρ) S.top S.led S.nd S.off S.gens (fun ρ => ⟨nextP hx, Vote.req (k := false) hp (by omega), fun _ => ⟨hcP, ?_⟩⟩) ?_
    · cases c
      · trivial
      · exact ⟨pushP (us := us) (by omega), trivial⟩
    intro ρ s' p' hI F
    have hP' : IA (pushIf c us (.int v tv)) ((ns.take (i + 1)).filter (fun r => decide (Vote.total hv r pls < 0))) := by
      rw [take_filter e, hc]
      cases c
      · rw [show (if false = true then [v] else []) = ([] : List Int) from rfl, List.append_nil]
        exact hP
      · exact hP.push _ _
    refine goes_again rfl ?_
    cases c
    · exact next us us.size _ _ p' s' (F.st (by decide)) rfl hP' (by omega) F.ch
    · exact next (us.push (.int v tv)) (us.size + 1) _ _ p' s' (F.st (by decide)) (Array.size_push _).symm hP' (by rw [Array.size_push]; omega) F.ch
end Law
end Mine
end
noncomputable section
open PySem PySem.W PyProof.Rows
set_option maxRecDepth 100000
set_option maxHeartbeats 8000000
set_option linter.unusedVariables false
namespace Mine
/-- a comp's ledger, its name bound in an object of any kind -/
noncomputable def cledG (ob : Bool → Value → Obj) (A : Nat → Addr) (vs : Array Value) (n : Nat) (i : Int) (us : Array Value) (m : Nat) (nb : Bool) (y : Value) (rest : List (Addr × Obj)) : List (Addr × Obj) :=
  (A 0, iterObj (.ref (A 3)) i) :: (A 1, lstObj us m) :: (A 2, ob nb y) :: (A 3, lstObj vs n) :: rest
theorem comp_okG {w : World} {a b : Bool} {c : CX} {A : Nat → Addr} {env : Env} {ks : List Kd} {D : Nat → CD × Pos} {vs : Array Value} {n : Nat} {rest : List (Addr × Obj)} {gens : List GenState} (ob : Bool → Value → Obj) (P : Nat → Array Value → Prop) (h0 : P 0 #[])
    (turn : ∀ (i : Nat) (us : Array Value) (nb : Bool) (y : Value) (p : Pos) (s : Shared) (R : Result → Shared → Prop), i < vs.size → P i us → us.size ≤ i → St (wS w a b) gens (cledG ob A vs n i us us.size nb y rest) s →
      (∀ us' m' y' p' s', St (wS w a b) gens (cledG ob A vs n (i + 1 : Nat) us' m' false y' rest) s' → m' = us'.size → P (i + 1) us' → us'.size ≤ i + 1 → Ch [A 0, A 1, A 2] s s' → wpCode (MM (wS w a b)) (cx (cloop c (A 0) (A 1) env) ks D) R p' s') →
      wpCode (MM (wS w a b)) (cx (cloop c (A 0) (A 1) env) ks D) R p s)
    {y : Value} {p : Pos} {s : Shared} (S0 : St (wS w a b) gens (cledG ob A vs n 0 #[] 0 true y rest) s) :
    wpCode (MM (wS w a b)) (cx (cstart c (A 0) (A 1) env) ks D) (fun r s' => r = .ok .next ∧ ∃ us o0 y, P vs.size us ∧ us.size ≤ vs.size ∧ St (wS w a b) gens ((A 0, o0) :: (A 1, lstObj us us.size) :: (A 2, ob (decide (vs.size = 0)) y) :: (A 3, lstObj vs n) :: rest) s' ∧ Ch [A 0, A 1, A 2] s s') p s := by
  refine sim_go (led := [(A 0, iterObj (.ref (A 3)) 0)]) sp0 (fun _ => .none) [] [] (cEp []) _ [0] (fun ρ => comp_start w a b (xS s) c (A 0) (A 1) env ks D p (.ref (A 3)) 0 s.toks gens ρ) S0.top (fun y hy => S0.led y (by simp at hy; subst hy; exact List.mem_cons_self)) (by simp) (fun y hy => S0.off y (by simp at hy; subst hy; exact List.mem_cons_self)) S0.gens (fun ρ => trivial) ?_
  intro ρ s1 p1 _ F1
  refine goes_again rfl ?_
  have keepR : ∀ (Rd : List (Addr × Obj)), Led s Rd → (∀ y ∈ Rd, y.1 ≠ A 0) → Led s1 Rd := fun Rd h1 h2 => h1.ch F1.ch (fun y hy q => by simp at q; exact h2 y hy q)
  have nd := S0.nd
  have nd0 : ∀ y' ∈ (A 1, lstObj #[] (#[] : Array Value).size) :: (A 2, ob true y) :: (A 3, lstObj vs n) :: rest, y'.1 ≠ A 0 := by
    intro y' hy q
    rw [cledG, List.map_cons, List.nodup_cons] at nd
    exact nd.1 (by show A 0 ∈ _; rw [← q]; exact List.mem_map_of_mem (f := (·.1)) hy)
  have S1 : St (wS w a b) gens (cledG ob A vs n 0 #[] 0 true y rest) s1 := by
    refine ⟨F1.top, fun z hz => ?_, nd, S0.off, F1.gens⟩
    rcases List.mem_cons.mp hz with rfl | hz
    · exact F1.led _ (by simp)
    · exact keepR _ (fun z hz => S0.led z (List.mem_cons_of_mem _ hz)) nd0 z hz
  refine loop_ind (Γ := cx (cloop c (A 0) (A 1) env) ks D) vs.size (fun i s' => ∃ us nb y, nb = decide (i = 0) ∧ P i us ∧ us.size ≤ i ∧ St (wS w a b) gens (cledG ob A vs n (i : Nat) us us.size nb y rest) s' ∧ Ch [A 0, A 1, A 2] s s') ?_ ?_ _ s1 ⟨#[], true, y, rfl, h0, by simp, S1, F1.ch.mono (fun b hb => by simp at hb; subst hb; simp)⟩
  · rintro i hi p s2 ⟨us, nb, y, hnb, hP, hz, S2, C2⟩ next
    refine turn i us nb y p s2 _ hi hP hz S2 fun us' m' y' p' s' S' hm hP' hz' C' => next p' s' ⟨us', false, y', by simp, hP', hz', hm ▸ S', C2.trans C' fun b hb => .inl hb⟩
  · rintro p s2 ⟨us, nb, y, hnb, hP, hz, S2, C2⟩
    have nd2 : A 0 ≠ A 1 ∧ A 0 ≠ A 3 ∧ A 1 ≠ A 3 ∧ (∀ z ∈ rest, z.1 ≠ A 0 ∧ z.1 ≠ A 3) ∧ A 0 ≠ A 2 ∧ A 2 ≠ A 3 := by
      have h := S2.nd
      simp only [cledG, List.map_cons, List.nodup_cons, List.mem_cons, not_or] at h
      obtain ⟨⟨h1, h2, h3, h4⟩, ⟨h5, h6, h7⟩, ⟨h8, h9⟩, h10, h11⟩ := h
      exact ⟨h1, h3, h6, fun z hz => ⟨fun q => h4 (by rw [← q]; exact List.mem_map_of_mem (f := (·.1)) hz), fun q => h10 (by rw [← q]; exact List.mem_map_of_mem (f := (·.1)) hz)⟩, h2, h8⟩
    obtain ⟨n1, n2, n3, n4, n5, n6⟩ := nd2
    refine sim_go (led := [(A 0, iterObj (.ref (A 3)) (vs.size : Nat)), (A 3, lstObj vs n)]) sp0 (fun _ => .none) [] [] (cEp []) _ [0, 1] (fun ρ => comp_end w a b (xS s2) c (A 0) (A 1) (A 3) env ks D p vs n (vs.size : Nat) s2.toks gens ρ) S2.top (fun z hz => S2.led z (by simp at hz; rcases hz with rfl | rfl <;> simp [cledG])) (by simp [n2]) (fun z hz => S2.off z (by simp at hz; rcases hz with rfl | rfl <;> simp [cledG])) S2.gens (fun ρ => ⟨⟨vs, n, none, #[], rfl, rfl, by show vs[((vs.size : Nat) : Int).toNat]? = none; simp⟩, trivial⟩) ?_
    intro ρ s3 p3 _ F3
    have L3 : Led s3 ((A 0, iterObj .none (vs.size : Nat)) :: (A 1, lstObj us us.size) :: (A 2, ob nb y) :: (A 3, lstObj vs n) :: rest) := by
      intro z hz
      simp only [List.mem_cons] at hz
      rcases hz with rfl | rfl | rfl | rfl | h
      · exact F3.led _ (by simp)
      · exact F3.ch.keep _ _ (S2.led _ (by simp [cledG])) (by simp [Ne.symm n1, n3])
      · exact F3.ch.keep _ _ (S2.led _ (by simp [cledG])) (by simp [Ne.symm n5, n6])
      · exact F3.led _ (by simp)
      · exact F3.ch.keep _ _ (S2.led _ (by simp [cledG, h])) (by simp [n4 z h])
    rw [← hnb]
    refine goes_done ⟨rfl, us, _, _, hP, hz, ⟨F3.top, L3, S2.nd, fun z hz => ?_, F3.gens⟩, ?_⟩
    · have := S2.off
      simp only [Off, cledG, List.mem_cons] at this hz ⊢
      rcases hz with rfl | h | h | h | h
      · exact this (A 0, iterObj (.ref (A 3)) (vs.size : Nat)) (by simp)
      all_goals exact this z (by simp [h])
    · refine C2.trans (F3.ch.less (L1 := [A 0]) (Rd := [(A 3, lstObj vs n)]) (fun z hz => S2.led z (by simp at hz; subst hz; simp [cledG])) (fun z hz => F3.led z (by simp at hz; subst hz; simp)) (by simp)) (fun b hb => .inl (by simp at hb; subst hb; simp))
/-- a cell: empty, or with its value -/
noncomputable def celN (nb : Bool) (y : Value) : Obj := match nb with
  | true => ⟨.type "cell", none, .cell none, #[]⟩
  | false => cellO y
namespace Law
noncomputable def dc0 : Obj := ⟨.type "dict", none, .dict #[] 0, #[]⟩
noncomputable def rU (A B : Nat → Addr) (pl : Addr) (ps : Array Value) (m : Nat) : List (Addr × Obj) := [(A 4, dc0), (B 4, cellO (.ref pl)), (B 5, cellO (.ref (A 3))), (pl, lstObj ps m)]
noncomputable def ledU (A B : Nat → Addr) (d : Dt) (nb : Bool) (pl : Addr) (ps : Array Value) (m : Nat) : List (Addr × Obj) := cledG celN A d.vs d.n d.i d.us d.m nb d.y (rU A B pl ps m)
noncomputable def cU (A B : Nat → Addr) (d : Dt) (nb : Bool) (pl : Addr) (ps : Array Value) (m : Nat) : Conf := conf (cx (cloop CU (A 0) (A 1) (eU A B)) kC d.D) d.p (ledU A B d nb pl ps m) d.toks d.gens
noncomputable def spU : Sp := ⟨⟨false, true⟩, ["list.__eq__"], [], true, 0⟩
noncomputable def xU (P : Params) (nb2 : Bool) (I : Array Value → Prop) (c : Bool) : List Xs := [Xcomp P "r" nb2 [8, 9, 10, 3, 2, 5, 7] I, XboolS [9, 11] c]
noncomputable def GU (x : Nat → Addr) (A : Nat → Addr) : Nat → Addr := adr [x 0, x 1, x 2, A 3]
noncomputable def sU (w : World) (x A B : Nat → Addr) (d : Dt) (nb nb2 : Bool) (pl : Addr) (ps : Array Value) (m : Nat) (v : Int) (I : Array Value → Prop) (c : Bool) (ρ : Nat → Ep) : Out2 :=
  sim spU w x (fun _ => .int v d.tv) (xU w.params nb2 I c) (xU w.params nb2 I c) (cEp []) (cU cA cB (one d) nb cO ps m) (cU A B d nb pl ps m) ρ
theorem factU (w : World) (a b nb nb2 : Bool) (x A B : Nat → Addr) (d : Dt) (pl : Addr) (ps : Array Value) (m : Nat) (v : Int) (I : Array Value → Prop) (c : Bool) (ρ : Nat → Ep) :
    proj [0, 1, 2, 3, 4, 5, 6, 7] (sU (wS w a b) x A B d nb nb2 pl ps m v I c ρ) = want (sU (wS w a b) x A B d nb nb2 pl ps m v I c ρ)
      ([npr A d (.int v d.tv), .x ⟨cstart CI (x 0) (x 1) (eI A (GU x A) B), none, none, none, kI, cled w.params "r" (GU x A) d.vs d.n 0 #[] 0 true (fun _ => 0) .none (rI A B v d.tv pl ps m), d.gens⟩,
        .x ⟨biCode "list.__eq__" [.ref (x 1), .ref ((ρ 0).x 0)], none, none, none, kI, [(x 1, lstObj (ρ 0).vs (ρ 0).vs.size), ((ρ 0).x 0, lstObj #[] 0)], d.gens⟩] ++ ppc d c)
      (ledU A B (d.step c (fun _ => 0) (.int v d.tv)) false pl ps m) d.gens
      (.pure (.again (cloop CU (A 0) (A 1) (eU A B)))) (cx (cloop CU (A 0) (A 1) (eU A B)) kC d.D) := by
  cases c <;> cases nb <;> cases nb2 <;> cases a <;> kernel_rfl
end Law
end Mine
end
noncomputable section
open PySem PySem.W PyProof.Rows
set_option maxRecDepth 100000
set_option maxHeartbeats 4000000
set_option linter.unusedVariables false
namespace Mine
namespace Law
/-- he loses against none -/
noncomputable def top1 (ns pls : List Int) (h : Int) : Bool := decide ((ns.filter (fun r => decide (Vote.total h r pls < 0))).length = 0)
noncomputable def Ilost (ns pls : List Int) (v : Int) (us : Array Value) : Prop := IA us (ns.filter (fun r => decide (Vote.total v r pls < 0)))
theorem compU {w : World} {a b : Bool} {A B : Nat → Addr} {D : Nat → CD × Pos} {vs : Array Value} {n : Nat} {gens : List GenState} {pl : Addr} {ps : Array Value} {m : Nat} {ns pls : List Int} (hvs : IA vs ns) (hz : ns.length ≤ 900) (hp : IA ps pls) (hpz : pls.length ≤ 900) {y : Value} {p : Pos} {s : Shared}
    (S0 : St (wS w a b) gens (cledG celN A vs n 0 #[] 0 true y (rU A B pl ps m)) s) :
    wpCode (MM (wS w a b)) (cx (cstart CU (A 0) (A 1) (eU A B)) kC D) (fun r s' => r = .ok .next ∧ ∃ us o0 y, IA us (ns.filter (top1 ns pls)) ∧
      St (wS w a b) gens ((A 0, o0) :: (A 1, lstObj us us.size) :: (A 2, celN (decide (vs.size = 0)) y) :: (A 3, lstObj vs n) :: rU A B pl ps m) s' ∧ Ch [A 0, A 1, A 2] s s') p s := by
  refine wpCode_mono ?_ (comp_okG celN (fun i us => IA us ((ns.take i).filter (top1 ns pls))) IA.nil ?_ S0)
  · rintro r s' ⟨rfl, us, o0, y, h1, _, h2⟩
    rw [hvs.size, List.take_length] at h1
    exact ⟨rfl, us, o0, y, h1, h2⟩
  · intro i us nb y p s R hi hP hz' S next
    rw [hvs.size] at hi
    have e : ns[i]? = some ns[i] := List.getElem?_eq_getElem hi
    generalize ns[i] = v at e
    obtain ⟨tv, hx⟩ := hvs.at e
    obtain ⟨c, hc⟩ : ∃ c, top1 ns pls v = c := ⟨_, rfl⟩
    refine sim_go (led := ledU A B ⟨vs, n, i, us, us.size, fun _ => 0, y, tv, D, p, s.toks, gens⟩ nb pl ps m) spU (fun _ => .int v tv) _ (xU w.params (decide (vs.size = 0)) (Ilost ns pls v) c) (cEp []) _ [0, 1, 2, 3, 4, 5, 6, 7]
      (fun ρ => factU w a b nb (decide (vs.size = 0)) (xS s) A B ⟨vs, n, i, us, us.size, fun _ => 0, y, tv, D, p, s.toks, gens⟩ pl ps m v (Ilost ns pls v) c ρ) S.top S.led S.nd S.off S.gens (fun ρ => ⟨nextP hx, ?_, fun hI => ⟨?_, fun _ => ?_⟩⟩) ?_
    · refine req_of rfl fun D p s2 T hL ho nd hg => ?_
      refine wpCode_mono ?_ (compI (A := A) (G := GU (xS s) A) (B := B) (D := D) hvs hz hp hpz ⟨T, hL, nd (by show [8, 9, 10, 3, 2, 5, 7].Nodup; decide), ho, hg⟩)
      rintro r s' ⟨rfl, us, o0, tk, y, h1, h2, h3⟩
      exact XPost.comp (A := GU (xS s) A) rfl rfl h1 h2 h3
    · refine eqNil_req ?_
      have hI : IA (ρ 0).vs (ns.filter (fun r => decide (Vote.total v r pls < 0))) := hI
      rw [hI.size]
      exact hc
    · cases c
      · trivial
      · exact ⟨pushP (us := us) (by omega), trivial⟩
    intro ρ s' p' hI F
    have hP' : IA (pushIf c us (.int v tv)) ((ns.take (i + 1)).filter (top1 ns pls)) := by
      rw [take_filter e, hc]
      cases c
      · rw [show (if false = true then [v] else []) = ([] : List Int) from rfl, List.append_nil]
        exact hP
      · exact hP.push _ _
    have hch : Ch [A 0, A 1, A 2] s s' := by
      refine F.ch.less (L1 := [A 0, A 1, A 2]) (Rd := (A 3, lstObj vs n) :: rU A B pl ps m) (fun y hy => S.led y (by unfold cledG; exact List.mem_cons_of_mem _ (List.mem_cons_of_mem _ (List.mem_cons_of_mem _ hy)))) (fun y hy => F.led y (by cases c <;> exact List.mem_cons_of_mem _ (List.mem_cons_of_mem _ (List.mem_cons_of_mem _ hy)))) (fun q hq => ?_)
      have hq : q ∈ A 0 :: A 1 :: A 2 :: ((A 3, lstObj vs n) :: rU A B pl ps m).map (·.1) := hq
      simp only [List.mem_cons] at hq
      rcases hq with h | h | h | h
      · exact .inl (by simp [h])
      · exact .inl (by simp [h])
      · exact .inl (by simp [h])
      · exact .inr h
    refine goes_again rfl ?_
    cases c
    · exact next us us.size _ p' s' (F.st (by decide)) rfl hP' (by omega) hch
    · exact next (us.push (.int v tv)) (us.size + 1) _ p' s' (F.st (by decide)) (Array.size_push _).symm hP' (by rw [Array.size_push]; omega) hch
end Law
end Mine
end
noncomputable section
open PySem PySem.W PyProof.Rows
set_option maxRecDepth 100000
set_option maxHeartbeats 4000000
set_option linter.unusedVariables false
namespace Mine
namespace Law
open Sld (frS notP isP)
noncomputable def sIn : Stmt := nthS (stB (S40 8)) 0
noncomputable def kIn : List Kd := .fr :: kC
/-- iterator, list, homes, places, script, draws -/
structure Df where
  os : Array Value
  no : Nat
  i : Int
  hs : Array Value
  nh : Nat
  ps : Array Value
  np : Nat
  o1 : Int
  t1 : Nat
  tv : Nat
  tk : Nat → Nat
  ov : Value
  dv : Value
  sl : Array (Option Value)
  D : Nat → CD × Pos
  p : Pos
  toks : Nat
  gens : List GenState
noncomputable def fr2 (P : Params) (A : Nat → Addr) (nb : Bool) (d : Df) : Obj := match nb with
  | true => frS P [("script", .ref (A 4)), ("draws", .ref (A 5)), ("one", .int d.o1 d.t1)] d.tk 3 d.sl
  | false => frS P [("script", .ref (A 4)), ("draws", .ref (A 5)), ("one", .int d.o1 d.t1), ("other", d.ov), ("due", d.dv)] d.tk 5 d.sl
noncomputable def restJ (A B : Nat → Addr) (d : Df) : List (Addr × Obj) := [(B 2, cellO (.ref (A 2))), (A 2, lstObj d.hs d.nh), (B 4, cellO (.ref (A 3))), (A 3, lstObj d.ps d.np)]
noncomputable def ledJ (P : Params) (A B : Nat → Addr) (nb : Bool) (d : Df) : List (Addr × Obj) := (A 0, iterObj (.ref (A 1)) d.i) :: (B 0, fr2 P A nb d) :: (A 1, lstObj d.os d.no) :: restJ A B d
noncomputable def lpJ (A B : Nat → Addr) : Code := floop sIn (A 0) (fn B)
noncomputable def cJ (P : Params) (A B : Nat → Addr) (nb : Bool) (d : Df) : Conf := conf (cx (lpJ A B) kIn d.D) d.p (ledJ P A B nb d) d.toks d.gens
noncomputable def spJ : Sp := ⟨⟨true, true⟩, [], [822, 817], true, 0⟩
noncomputable def xJ (due t1 t2 : Int) : List Xs := [XintS [4] due, XintS [6] t1, XintS [6] t2]
noncomputable def sJ (w : World) (x A B : Nat → Addr) (nb : Bool) (d : Df) (v due t1 t2 : Int) (ρ : Nat → Ep) : Out2 :=
  sim spJ w x (fun _ => .int v d.tv) (xJ 1 1 (-1)) (xJ due t1 t2) (cEp []) (cJ w.params cA cB nb { d with os := #[.int 3 0], no := 0, i := 0 }) (cJ w.params A B nb d) ρ
noncomputable def prJ (A : Nat → Addr) (d : Df) (v due t1 t2 : Int) : List Ob :=
  [.p (NextP (iterObj (.ref (A 1)) d.i) (lstObj d.os d.no) (A 1) (.int v d.tv)), .x ⟨callCode 822 [.int d.o1 d.t1, .int v d.tv, .ref (A 2)], none, none, none, .fr :: kIn, [(A 2, lstObj d.hs d.nh)], d.gens⟩,
   .x ⟨callCode 817 [.int d.o1 d.t1, .int v d.tv, .ref (A 3)], none, none, none, .fr :: kIn, [(A 3, lstObj d.ps d.np)], d.gens⟩, .p ((t1 ≠ due) = (false = true)),
   .x ⟨callCode 817 [.int v d.tv, .int d.o1 d.t1, .ref (A 3)], none, none, none, .fr :: kIn, [(A 3, lstObj d.ps d.np)], d.gens⟩, .p ((t2 ≠ -due) = (false = true))]
theorem factJ (w : World) (a b nb : Bool) (x A B : Nat → Addr) (d : Df) (v due t1 t2 : Int) (ρ : Nat → Ep) :
    proj [0, 1, 2, 3, 4, 5, 6] (sJ (wS w a b) x A B nb d v due t1 t2 ρ) = want (sJ (wS w a b) x A B nb d v due t1 t2 ρ) (prJ A d v due t1 t2)
      (ledJ w.params A B false { d with i := d.i + 1, ov := .int v d.tv, dv := .int due (ρ 0).t, tk := tks (sJ (wS w a b) x A B nb d v due t1 t2 ρ) 1 }) d.gens
      (.pure (.again (lpJ A B))) (cx (lpJ A B) kIn d.D) := by
  cases nb <;> cases a <;> kernel_rfl
noncomputable def sJE (w : World) (x A B : Nat → Addr) (d : Df) (ρ : Nat → Ep) : Out2 :=
  sim spJ w x (fun _ => .none) [] [] (cEp []) (cJ w.params cA cB false { d with os := #[], no := 0, i := 0 }) (cJ w.params A B false d) ρ
theorem factJE (w : World) (a b : Bool) (x A B : Nat → Addr) (d : Df) (ρ : Nat → Ep) :
    proj [0, 1, 2, 3, 4, 5, 6] (sJE (wS w a b) x A B d ρ) = want (sJE (wS w a b) x A B d ρ) [.p (EndP (iterObj (.ref (A 1)) d.i) (lstObj d.os d.no) (A 1))]
      ((A 0, iterObj .none d.i) :: (B 0, fr2 w.params A false d) :: (A 1, lstObj d.os d.no) :: restJ A B d) d.gens
      (.pure (.done .next)) (cx (.block [] (fn B)) kIn d.D) := by
  cases a <;> kernel_rfl
/-- the outer loop: iterator, houses, homes, places, script, draws -/
noncomputable def fr3 (P : Params) (A : Nat → Addr) (nb : Bool) (d : Df) (o : Value) : Obj := match nb with
  | true => frS P [("script", .ref (A 4)), ("draws", .ref (A 5))] d.tk 2 d.sl
  | false => frS P [("script", .ref (A 4)), ("draws", .ref (A 5)), ("one", o), ("other", d.ov), ("due", d.dv)] d.tk 5 d.sl
noncomputable def ledK (P : Params) (A B : Nat → Addr) (nb : Bool) (d : Df) (o : Value) : List (Addr × Obj) := (A 0, iterObj (.ref (A 1)) d.i) :: (B 0, fr3 P A nb d o) :: (A 1, lstObj d.os d.no) :: (B 5, cellO (.ref (A 1))) :: restJ A B d
noncomputable def lpK (A B : Nat → Addr) : Code := floop (S40 8) (A 0) (fn B)
noncomputable def cK (P : Params) (A B : Nat → Addr) (nb : Bool) (d : Df) (o : Value) : Conf := conf (cx (lpK A B) kC d.D) d.p (ledK P A B nb d o) d.toks d.gens
noncomputable def spK : Sp := ⟨⟨false, true⟩, ["list.__getitem__"], [], true, 0⟩
noncomputable def frX (P : Params) (A : Nat → Addr) (o : Obj) (tk : Nat → Nat) : Obj := frS P [("script", .ref (A 4)), ("draws", .ref (A 5)), ("one", vAt o 2), ("other", vAt o 3), ("due", vAt o 4)] tk 5 o.slots
noncomputable def Xin (P : Params) (A : Nat → Addr) : Xs := ⟨[10, 1, 9, 4, 5, 6, 7], fun ρ _ => (.ok .next, [ρ.o, frX P A (getO ρ.os 0) ρ.tk], []), id, fun _ => True, none⟩
noncomputable def xK (P : Params) (A : Nat → Addr) (I : Array Value → Prop) : List Xs := [Xlist [2, 8] I, Xin P A]
noncomputable def sK (w : World) (x A B : Nat → Addr) (nb : Bool) (d : Df) (o : Value) (v : Int) (I : Array Value → Prop) (ρ : Nat → Ep) : Out2 :=
  sim spK w x (fun _ => .int v d.tv) (xK w.params cA I) (xK w.params A I) cEn (cK w.params cA cB nb { d with os := #[.int 3 0], no := 0, i := 0 } o) (cK w.params A B nb d o) ρ
noncomputable def AK (A : Nat → Addr) (z : Ep) : Nat → Addr := adr [z.x 0, z.n, A 2, A 3, A 4, A 5]
noncomputable def prK (u : Out2) (P : Params) (A B : Nat → Addr) (x : Nat → Addr) (nb : Bool) (d : Df) (v : Int) (ρ : Nat → Ep) : List Ob :=
  [.p (NextP (iterObj (.ref (A 1)) d.i) (lstObj d.os d.no) (A 1) (.int v d.tv)),
   .x ⟨biCode "list.__getitem__" [.ref (A 1), .ref (x 0)], none, none, none, .fr :: kC, [(A 1, lstObj d.os d.no), (x 0, slcO (.int (v + 1) (vwT u)) .none)], d.gens⟩,
   .x ⟨lpJ (AK A (ρ 0)) B, none, none, none, kIn, ledJ P (AK A (ρ 0)) B nb { d with os := (ρ 0).vs, no := (ρ 0).t, i := 0, o1 := v, t1 := d.tv, tk := vwD u 1 1 }, d.gens⟩]
where vwT (u : Out2) : Nat := match viewAt u 0 with
  | some v => match gL v.sel 1 with
    | some (_, ⟨_, _, .fields xs, _⟩) => match xs.toList[0]? with
      | some v => tokV v
      | none => 0
    | _ => 0
  | none => 0
theorem factK (w : World) (a b nb : Bool) (x A B : Nat → Addr) (d : Df) (o : Value) (v : Int) (I : Array Value → Prop) (ρ : Nat → Ep) :
    proj [0, 1, 2, 3, 4, 5, 6, 7] (sK (wS w a b) x A B nb d o v I ρ) = want (sK (wS w a b) x A B nb d o v I ρ) (prK (sK (wS w a b) x A B nb d o v I ρ) w.params A B x nb d v ρ)
      ((A 0, iterObj (.ref (A 1)) (d.i + 1)) :: (B 0, frX w.params A (getO (ρ 1).os 0) (ρ 1).tk) :: (A 1, lstObj d.os d.no) :: (B 5, cellO (.ref (A 1))) :: restJ A B d) d.gens
      (.pure (.again (lpK A B))) (cx (lpK A B) kC d.D) := by
  cases nb <;> cases a <;> kernel_rfl
noncomputable def sKE (w : World) (x A B : Nat → Addr) (d : Df) (o : Value) (ρ : Nat → Ep) : Out2 :=
  sim spK w x (fun _ => .none) [] [] (cEp []) (cK w.params cA cB false { d with os := #[], no := 0, i := 0 } o) (cK w.params A B false d o) ρ
theorem factKE (w : World) (a b : Bool) (x A B : Nat → Addr) (d : Df) (o : Value) (ρ : Nat → Ep) :
    proj [0, 1, 2, 3, 4, 5, 6, 7] (sKE (wS w a b) x A B d o ρ) = want (sKE (wS w a b) x A B d o ρ) [.p (EndP (iterObj (.ref (A 1)) d.i) (lstObj d.os d.no) (A 1))]
      ((A 0, iterObj .none d.i) :: (B 0, fr3 w.params A false d o) :: (A 1, lstObj d.os d.no) :: (B 5, cellO (.ref (A 1))) :: restJ A B d) d.gens
      (.pure (.done .next)) (cx (.block [] (fn B)) kC d.D) := by
  cases a <;> kernel_rfl
end Law
end Mine
end
noncomputable section
open PySem PySem.W PyProof.Rows
set_option maxRecDepth 100000
set_option maxHeartbeats 4000000
set_option linter.unusedVariables false
namespace Mine
theorem sg_lt {one other v : Int} (h : one < other) : sg (absI (other - v)) (absI (one - v)) = (if 2 * v < one + other then 1 else 0) - (if 2 * v > one + other then 1 else 0) := by
  unfold sg absI
  split <;> split <;> split <;> (repeat' split) <;> omega
theorem sg_gt {one other v : Int} (h : one < other) : sg (absI (one - v)) (absI (other - v)) = (if 2 * v > one + other then 1 else 0) - (if 2 * v < one + other then 1 else 0) := by
  unfold sg absI
  split <;> split <;> split <;> (repeat' split) <;> omega
theorem net_nil (one other : Int) : Mine.Below.net one other [] = 0 := rfl
theorem net_cons (one other v : Int) (ns : List Int) : Mine.Below.net one other (v :: ns) = ((if 2 * v < one + other then 1 else 0) - (if 2 * v > one + other then 1 else 0)) + Mine.Below.net one other ns := by
  unfold Mine.Below.net
  simp only [List.map_cons, List.filter_cons]
  have t1 : Mine.Below.tb false (one + other) (2 * v) = decide (2 * v < one + other) := rfl
  have t2 : Mine.Below.tb true (one + other) (2 * v) = decide (2 * v > one + other) := rfl
  rw [t1, t2]
  by_cases h1 : 2 * v < one + other
  · have h2 : ¬ 2 * v > one + other := by omega
    simp [h1, h2]
    omega
  · by_cases h2 : 2 * v > one + other
    · simp [h1, h2]
      omega
    · simp [h1, h2]
theorem total_lt {one other : Int} (h : one < other) (ns : List Int) : Vote.total one other ns = Mine.Below.net one other ns := by
  induction ns with
  | nil => rfl
  | cons v ns ih =>
    rw [net_cons, ← ih]
    unfold Vote.total
    rw [List.map_cons, List.sum_cons, sg_lt h]
theorem total_gt {one other : Int} (h : one < other) (ns : List Int) : Vote.total other one ns = -Mine.Below.net one other ns := by
  induction ns with
  | nil => rfl
  | cons v ns ih =>
    rw [net_cons]
    have : Vote.total other one (v :: ns) = sg (absI (one - v)) (absI (other - v)) + Vote.total other one ns := by
      unfold Vote.total
      rw [List.map_cons, List.sum_cons]
    rw [this, ih, sg_gt h]
    omega
namespace Law
open Sld (frS notP isP)
theorem endP {A3 : Addr} {vs : Array Value} {n i : Nat} (h : i = vs.size) : EndP (iterObj (.ref A3) (i : Nat)) (lstObj vs n) A3 := ⟨vs, n, none, #[], rfl, rfl, by
  show vs[((i : Int)).toNat]? = none
  rw [Int.toNat_natCast, h]; simp⟩
end Law
theorem St.cg {w : World} {g g' : List GenState} {l : List (Addr × Obj)} {s : Shared} (S : St w g l s) (h : g = g') : St w g' l s := h ▸ S
namespace Law
open Sld (frS notP isP)
theorem loopJ {w : World} {a b nb : Bool} {A B : Nat → Addr} {D : Nat → CD × Pos} {d : Df} {ms ns : List Int} {p : Pos} {s : Shared} (hv : IA d.os ms) (hz : ms.length ≤ 900) (hlt : ∀ m ∈ ms, d.o1 < m) (hne : nb = true → ms ≠ []) (hh : IA d.hs ns) (hp : IA d.ps ns) (hn : ns.length ≤ 900) (hi : d.i = 0)
    (S0 : St (wS w a b) d.gens (ledJ w.params A B nb d) s) :
    wpCode (MM (wS w a b)) (cx (lpJ A B) kIn D) (fun r s' => r = .ok .next ∧ ∃ d' o0, St (wS w a b) d.gens ((A 0, o0) :: (B 0, fr2 w.params A false d') :: (A 1, lstObj d.os d.no) :: restJ A B d) s' ∧ Ch [A 0, B 0] s s') p s := by
  have keep : ∀ {s1 s2 : Shared} {x0 x1 y0 y1 : Obj} {L : List Addr}, St (wS w a b) d.gens ((A 0, x0) :: (B 0, x1) :: (A 1, lstObj d.os d.no) :: restJ A B d) s1 → St (wS w a b) d.gens ((A 0, y0) :: (B 0, y1) :: (A 1, lstObj d.os d.no) :: restJ A B d) s2 →
      L = ((A 0, x0) :: (B 0, x1) :: (A 1, lstObj d.os d.no) :: restJ A B d).map (·.1) → Ch L s1 s2 → Ch [A 0, B 0] s1 s2 := by
    intro s1 s2 x0 x1 y0 y1 L S1 S2 e C
    subst e
    refine C.less (L1 := [A 0, B 0]) (Rd := (A 1, lstObj d.os d.no) :: restJ A B d) (fun y hy => S1.led y (List.mem_cons_of_mem _ (List.mem_cons_of_mem _ hy))) (fun y hy => S2.led y (List.mem_cons_of_mem _ (List.mem_cons_of_mem _ hy))) (fun q hq => ?_)
    have hq : q ∈ A 0 :: B 0 :: ((A 1, lstObj d.os d.no) :: restJ A B d).map (·.1) := hq
    rw [List.mem_cons, List.mem_cons] at hq
    rcases hq with h | h | h
    · exact .inl (by simp [h])
    · exact .inl (by simp [h])
    · exact .inr h
  have lead : ∀ (nb : Bool) (d1 : Df), d1.os = d.os → d1.no = d.no → d1.hs = d.hs → d1.nh = d.nh → d1.ps = d.ps → d1.np = d.np → ledJ w.params A B nb d1 = (A 0, iterObj (.ref (A 1)) d1.i) :: (B 0, fr2 w.params A nb d1) :: (A 1, lstObj d.os d.no) :: restJ A B d := by
    intro nb d1 h1 h2 h3 h4 h5 h6
    unfold ledJ restJ
    rw [h1, h2, h3, h4, h5, h6]
  refine loop_ind (Γ := cx (lpJ A B) kIn D) ms.length (fun (i : Nat) (s' : Shared) => ∃ (nb1 : Bool) (d1 : Df), (nb1 = true → i = 0 ∧ nb = true) ∧ d1.os = d.os ∧ d1.no = d.no ∧ d1.hs = d.hs ∧ d1.nh = d.nh ∧ d1.ps = d.ps ∧ d1.np = d.np ∧ d1.o1 = d.o1 ∧ d1.gens = d.gens ∧ d1.i = (i : Nat) ∧ St (wS w a b) d.gens (ledJ w.params A B nb1 d1) s' ∧ Ch [A 0, B 0] s s') ?_ ?_ p s
    ⟨nb, d, fun q => ⟨rfl, q⟩, rfl, rfl, rfl, rfl, rfl, rfl, rfl, rfl, by rw [hi]; rfl, S0, Ch.refl _ _⟩
  · rintro i hlt' p s1 ⟨nb1, d1, q0, q1, q2, q3, q4, q5, q6, q7, q8, q9, S1, C1⟩ next
    have e : ms[i]? = some ms[i] := List.getElem?_eq_getElem hlt'
    generalize ms[i] = v at e
    obtain ⟨tv, hx⟩ := hv.at e
    have hv1 : d1.o1 < v := by rw [q7]; exact hlt v (List.mem_of_getElem? e)
    let d2 : Df := { d1 with tv := tv, D := D, p := p, toks := s1.toks }
    have e2 : ledJ w.params A B nb1 d2 = ledJ w.params A B nb1 d1 := by cases nb1 <;> rfl
    have F0 := fun ρ => factJ w a b nb1 (xS s1) A B d2 v (Mine.Below.net d1.o1 v ns) (Vote.total d1.o1 v ns) (Vote.total v d1.o1 ns) ρ
    unfold sJ cJ at F0
    refine sim_go (led := ledJ w.params A B nb1 d2) spJ (fun _ => .int v tv) _ (xJ (Mine.Below.net d1.o1 v ns) (Vote.total d1.o1 v ns) (Vote.total v d1.o1 ns)) (cEp []) _ [0, 1, 2, 3, 4, 5, 6] F0 S1.top (e2 ▸ S1.led) (e2 ▸ S1.nd) (e2 ▸ S1.off) (by rw [S1.gens, ← q8]) (fun ρ => ⟨?_, Mine.Below.req (by show IA d1.hs ns; rw [q3]; exact hh) (by omega), fun _ => ⟨Vote.req (k := true) (by show IA d1.ps ns; rw [q5]; exact hp) (by omega), fun _ => ⟨notP (by rw [total_lt hv1]; simp), Vote.req (k := true) (by show IA d1.ps ns; rw [q5]; exact hp) (by omega), fun _ => ⟨notP (by rw [total_gt hv1]; simp), trivial⟩⟩⟩⟩) ?_
    · have := nextP (A3 := A 1) (n := d.no) hx
      show NextP (iterObj (.ref (A 1)) d1.i) (lstObj d1.os d1.no) (A 1) (.int v tv)
      rw [q9, q1, q2]
      exact this
    · intro ρ s2 p2 hI G
      have S2 := G.st (by decide)
      have C2 := G.ch
      clear G F0
      generalize tks _ 1 = tk1 at S2
      have g2 : d2.gens = d.gens := q8
      have S2 := S2.cg g2
      refine goes_again rfl (next p2 s2 ⟨false, { d2 with i := d2.i + 1, ov := .int v d2.tv, dv := .int (Mine.Below.net d1.o1 v ns) (ρ 0).t, tk := tk1 }, fun q => (nomatch q), q1, q2, q3, q4, q5, q6, q7, q8, by show d1.i + 1 = _; rw [q9]; rfl, S2, C1.trans ?_ fun q hq => .inl hq⟩)
      rw [lead false { d2 with i := d2.i + 1, ov := .int v d2.tv, dv := .int (Mine.Below.net d1.o1 v ns) (ρ 0).t, tk := tk1 } q1 q2 q3 q4 q5 q6] at S2
      have e3 := lead nb1 d1 q1 q2 q3 q4 q5 q6
      exact keep (e3 ▸ S1) S2 (by rw [e2, e3]) C2
  · rintro p s1 ⟨nb1, d1, q0, q1, q2, q3, q4, q5, q6, q7, q8, q9, S1, C1⟩
    have hnb : nb1 = false := by
      cases nb1
      · rfl
      · obtain ⟨h1, h2⟩ := q0 rfl
        exact absurd (List.length_eq_zero_iff.mp h1) (hne h2)
    subst hnb
    let d2 : Df := { d1 with D := D, p := p, toks := s1.toks }
    have F0 := fun ρ => factJE w a b (xS s1) A B d2 ρ
    unfold sJE cJ at F0
    refine sim_go (led := ledJ w.params A B false d2) spJ (fun _ => .none) _ [] (cEp []) _ [0, 1, 2, 3, 4, 5, 6] F0 S1.top S1.led S1.nd S1.off (by rw [S1.gens, ← q8]) (fun ρ => ⟨?_, trivial⟩) ?_
    · have := endP (A3 := A 1) (n := d.no) (show ms.length = d.os.size by rw [hv.size])
      show EndP (iterObj (.ref (A 1)) d1.i) (lstObj d1.os d1.no) (A 1)
      rw [q9, q1, q2]
      exact this
    · intro ρ s2 p2 hI G
      have S2 := G.st (by decide)
      have C2 := G.ch
      clear G F0
      have g2 : d2.gens = d.gens := q8
      have e4 : (A 1, lstObj d2.os d2.no) :: restJ A B d2 = (A 1, lstObj d.os d.no) :: restJ A B d := by
        have h1 : d2.os = d.os := q1
        have h2 : d2.no = d.no := q2
        have h3 : d2.hs = d.hs := q3
        have h4 : d2.nh = d.nh := q4
        have h5 : d2.ps = d.ps := q5
        have h6 : d2.np = d.np := q6
        unfold restJ
        rw [h1, h2, h3, h4, h5, h6]
      have S2 := S2.cg g2
      rw [e4] at S2
      have e3 := lead false d1 q1 q2 q3 q4 q5 q6
      exact goes_done ⟨rfl, d2, _, S2, C1.trans (keep (e3 ▸ S1) S2 (by rw [← e3]; rfl) C2) fun q hq => .inl hq⟩
end Law
end Mine
end
noncomputable section
open PySem PySem.W PyProof.Rows
set_option maxRecDepth 100000
set_option maxHeartbeats 4000000
set_option linter.unusedVariables false
namespace Mine
namespace Law
open Sld (frS notP isP)
noncomputable def sli (os : Array Value) (v : Int) (us : Array Value) : Prop := us = slicePick os (some (v + 1)) none none
theorem in_req {w : World} {a b nb : Bool} {A B : Nat → Addr} {A0 : Nat → Addr} {d : Df} {ms ns : List Int} {gens : List GenState} (hA4 : A 4 = A0 4) (hA5 : A 5 = A0 5) (hv : IA d.os ms) (hz : ms.length ≤ 900) (hlt : ∀ m ∈ ms, d.o1 < m) (hne : nb = true → ms ≠ []) (hh : IA d.hs ns) (hp : IA d.ps ns) (hn : ns.length ≤ 900) (hi : d.i = 0) (hg0 : d.gens = gens) :
    ReqOk (MM (wS w a b)) (topG (wS w a b)) (Xin w.params A0) ⟨lpJ A B, none, none, none, kIn, ledJ w.params A B nb d, gens⟩ := by
  refine req_of rfl fun D p s T hL ho nd hg => ?_
  subst hg0
  refine wpCode_mono ?_ (loopJ (D := D) hv hz hlt hne hh hp hn hi ⟨T, hL, nd (by show [10, 1, 9, 4, 5, 6, 7].Nodup; decide), ho, hg⟩)
  rintro r s' ⟨rfl, d', o0, S1, C1⟩
  refine ⟨⟨xS s', s'.toks, 0, 0, .none, #[], o0, [fr2 w.params A false d'], d'.tk⟩, rfl, rfl, trivial, rfl, ⟨S1.led _ List.mem_cons_self, ?_, trivial⟩, fun y hy => (nomatch hy), List.nodup_nil, fun y hy => (nomatch hy), C1, S1.gens⟩
  have := S1.led (B 0, fr2 w.params A false d') (by simp)
  show s'.heap.get? (B 0) = some (frX w.params A0 (fr2 w.params A false d') d'.tk)
  have e : frX w.params A0 (fr2 w.params A false d') d'.tk = fr2 w.params A false d' := by
    unfold frX fr2
    rw [hA4, hA5]
    rfl
  rw [e]
  exact this
theorem loopK {w : World} {a b : Bool} {A B : Nat → Addr} {D : Nat → CD × Pos} {d : Df} {o : Value} {hl ns : List Int} {p : Pos} {s : Shared} (hv : IA d.os hl) (hz : hl.length ≤ 900) (hl1 : ∀ i : Nat, i < hl.length → hl[i]? = some (i : Int)) (h2 : 2 ≤ hl.length) (hh : IA d.hs ns) (hp : IA d.ps ns) (hn : ns.length ≤ 900) (hi : d.i = 0)
    (S0 : St (wS w a b) d.gens (ledK w.params A B true d o) s) :
    wpCode (MM (wS w a b)) (cx (lpK A B) kC D) (fun r s' => r = .ok .next ∧ ∃ d' o0 o', St (wS w a b) d.gens ((A 0, o0) :: (B 0, fr3 w.params A false d' o') :: (A 1, lstObj d.os d.no) :: (B 5, cellO (.ref (A 1))) :: restJ A B d) s' ∧ Ch [A 0, B 0] s s') p s := by
  have keep : ∀ {s1 s2 : Shared} {x0 x1 y0 y1 : Obj} {L : List Addr}, St (wS w a b) d.gens ((A 0, x0) :: (B 0, x1) :: (A 1, lstObj d.os d.no) :: (B 5, cellO (.ref (A 1))) :: restJ A B d) s1 → St (wS w a b) d.gens ((A 0, y0) :: (B 0, y1) :: (A 1, lstObj d.os d.no) :: (B 5, cellO (.ref (A 1))) :: restJ A B d) s2 →
      L = ((A 0, x0) :: (B 0, x1) :: (A 1, lstObj d.os d.no) :: (B 5, cellO (.ref (A 1))) :: restJ A B d).map (·.1) → Ch L s1 s2 → Ch [A 0, B 0] s1 s2 := by
    intro s1 s2 x0 x1 y0 y1 L S1 S2 e C
    subst e
    refine C.less (L1 := [A 0, B 0]) (Rd := (A 1, lstObj d.os d.no) :: (B 5, cellO (.ref (A 1))) :: restJ A B d) (fun y hy => S1.led y (List.mem_cons_of_mem _ (List.mem_cons_of_mem _ hy))) (fun y hy => S2.led y (List.mem_cons_of_mem _ (List.mem_cons_of_mem _ hy))) (fun q hq => ?_)
    have hq : q ∈ A 0 :: B 0 :: ((A 1, lstObj d.os d.no) :: (B 5, cellO (.ref (A 1))) :: restJ A B d).map (·.1) := hq
    rw [List.mem_cons, List.mem_cons] at hq
    rcases hq with h | h | h
    · exact .inl (by simp [h])
    · exact .inl (by simp [h])
    · exact .inr h
  have lead : ∀ (nb : Bool) (d1 : Df) (o : Value), d1.os = d.os → d1.no = d.no → d1.hs = d.hs → d1.nh = d.nh → d1.ps = d.ps → d1.np = d.np → ledK w.params A B nb d1 o = (A 0, iterObj (.ref (A 1)) d1.i) :: (B 0, fr3 w.params A nb d1 o) :: (A 1, lstObj d.os d.no) :: (B 5, cellO (.ref (A 1))) :: restJ A B d := by
    intro nb d1 o h1 h2 h3 h4 h5 h6
    unfold ledK restJ
    rw [h1, h2, h3, h4, h5, h6]
  refine loop_ind (Γ := cx (lpK A B) kC D) hl.length (fun (i : Nat) (s' : Shared) => ∃ (nb1 : Bool) (d1 : Df) (o1 : Value), (nb1 = true → i = 0) ∧ d1.os = d.os ∧ d1.no = d.no ∧ d1.hs = d.hs ∧ d1.nh = d.nh ∧ d1.ps = d.ps ∧ d1.np = d.np ∧ d1.gens = d.gens ∧ d1.i = (i : Nat) ∧ St (wS w a b) d.gens (ledK w.params A B nb1 d1 o1) s' ∧ Ch [A 0, B 0] s s') ?_ ?_ p s
    ⟨true, d, o, fun _ => rfl, rfl, rfl, rfl, rfl, rfl, rfl, rfl, by rw [hi]; rfl, S0, Ch.refl _ _⟩
  · rintro i hlt' p s1 ⟨nb1, d1, o1, q0, q1, q2, q3, q4, q5, q6, q8, q9, S1, C1⟩ next
    have e := hl1 i hlt'
    obtain ⟨tv, hx⟩ := hv.at e
    let d2 : Df := { d1 with tv := tv, D := D, p := p, toks := s1.toks }
    have e2 : ledK w.params A B nb1 d2 o1 = ledK w.params A B nb1 d1 o1 := by cases nb1 <;> rfl
    have F0 := fun ρ => factK w a b nb1 (xS s1) A B d2 o1 (i : Int) (sli d.os (i : Int)) ρ
    unfold sK cK at F0
    refine sim_go (led := ledK w.params A B nb1 d2 o1) spK (fun _ => .int (i : Int) tv) _ (xK w.params A (sli d.os (i : Int))) cEn _ [0, 1, 2, 3, 4, 5, 6, 7] F0 S1.top (e2 ▸ S1.led) (e2 ▸ S1.nd) (e2 ▸ S1.off) (by rw [S1.gens, ← q8]) (fun ρ => ⟨?_, ?_, fun hI => ⟨?_, fun _ => trivial⟩⟩) ?_
    · have := nextP (A3 := A 1) (n := d.no) hx
      show NextP (iterObj (.ref (A 1)) d1.i) (lstObj d1.os d1.no) (A 1) (.int (i : Int) tv)
      rw [q9, q1, q2]
      exact this
    · have h1 : d2.os = d.os := q1
      rw [h1]
      exact slice_req (.int _ _) .none (by rw [hv.size]; omega)
    · have hI : (ρ 0).vs = slicePick d.os (some ((i : Int) + 1)) none none := hI
      refine in_req (ms := hl.drop (i + 1)) (ns := ns) rfl rfl ?_ ?_ ?_ ?_ ?_ ?_ hn rfl rfl
      · show IA (ρ 0).vs _
        rw [hI]
        exact hv.from rfl (by omega)
      · rw [List.length_drop]; omega
      · intro m hm
        show (i : Int) < m
        obtain ⟨k, hk⟩ := List.getElem?_of_mem hm
        rw [List.getElem?_drop] at hk
        have hk2 : i + 1 + k < hl.length := by
          rcases Nat.lt_or_ge (i + 1 + k) hl.length with z | z
          · exact z
          · rw [List.getElem?_eq_none z] at hk; cases hk
        rw [hl1 _ hk2] at hk
        have := Option.some.inj hk
        omega
      · intro q z
        have h0 := q0 q
        have := congrArg List.length z
        rw [List.length_drop, List.length_nil] at this
        omega
      · show IA d1.hs ns
        rw [q3]; exact hh
      · show IA d1.ps ns
        rw [q5]; exact hp
    · intro ρ s2 p2 hI G
      have S2 := G.st (by decide)
      have C2 := G.ch
      clear G F0
      have g2 : d2.gens = d.gens := q8
      have S2 := S2.cg g2
      let d3 : Df := { d2 with i := d2.i + 1, ov := vAt (getO (ρ 1).os 0) 3, dv := vAt (getO (ρ 1).os 0) 4, tk := (ρ 1).tk, sl := (getO (ρ 1).os 0).slots }
      have S3 : St (wS w a b) d.gens (ledK w.params A B false d3 (vAt (getO (ρ 1).os 0) 2)) s2 := S2
      refine goes_again rfl (next p2 s2 ⟨false, d3, _, fun q => (nomatch q), q1, q2, q3, q4, q5, q6, q8, by show d1.i + 1 = _; rw [q9]; rfl, S3, C1.trans ?_ fun q hq => .inl hq⟩)
      rw [lead false d3 _ q1 q2 q3 q4 q5 q6] at S3
      have e3 := lead nb1 d1 o1 q1 q2 q3 q4 q5 q6
      exact keep (e3 ▸ S1) S3 (by rw [e2, e3]) C2
  · rintro p s1 ⟨nb1, d1, o1, q0, q1, q2, q3, q4, q5, q6, q8, q9, S1, C1⟩
    have hnb : nb1 = false := by
      cases nb1
      · rfl
      · have := q0 rfl
        omega
    subst hnb
    let d2 : Df := { d1 with D := D, p := p, toks := s1.toks }
    have F0 := fun ρ => factKE w a b (xS s1) A B d2 o1 ρ
    unfold sKE cK at F0
    refine sim_go (led := ledK w.params A B false d2 o1) spK (fun _ => .none) _ [] (cEp []) _ [0, 1, 2, 3, 4, 5, 6, 7] F0 S1.top S1.led S1.nd S1.off (by rw [S1.gens, ← q8]) (fun ρ => ⟨?_, trivial⟩) ?_
    · have := endP (A3 := A 1) (n := d.no) (show hl.length = d.os.size by rw [hv.size])
      show EndP (iterObj (.ref (A 1)) d1.i) (lstObj d1.os d1.no) (A 1)
      rw [q9, q1, q2]
      exact this
    · intro ρ s2 p2 hI G
      have S2 := G.st (by decide)
      have C2 := G.ch
      clear G F0
      have g2 : d2.gens = d.gens := q8
      have e4 : (A 1, lstObj d2.os d2.no) :: (B 5, cellO (.ref (A 1))) :: restJ A B d2 = (A 1, lstObj d.os d.no) :: (B 5, cellO (.ref (A 1))) :: restJ A B d := by
        have h1 : d2.os = d.os := q1
        have h2 : d2.no = d.no := q2
        have h3 : d2.hs = d.hs := q3
        have h4 : d2.nh = d.nh := q4
        have h5 : d2.ps = d.ps := q5
        have h6 : d2.np = d.np := q6
        unfold restJ
        rw [h1, h2, h3, h4, h5, h6]
      have S2 := S2.cg g2
      rw [e4] at S2
      have e3 := lead false d1 o1 q1 q2 q3 q4 q5 q6
      exact goes_done ⟨rfl, d2, _, o1, S2, C1.trans (keep (e3 ▸ S1) S2 (by rw [← e3]; rfl) C2) fun q hq => .inl hq⟩
/-- the loops by their contract -/
theorem for_req {w : World} {a b : Bool} {A B : Nat → Addr} {d : Df} {o : Value} {hl ns : List Int} {gens : List GenState} (hv : IA d.os hl) (hz : hl.length ≤ 900) (hl1 : ∀ i : Nat, i < hl.length → hl[i]? = some (i : Int)) (h2 : 2 ≤ hl.length) (hh : IA d.hs ns) (hp : IA d.ps ns) (hn : ns.length ≤ 900) (hi : d.i = 0) (hg0 : d.gens = gens) :
    ReqOk (MM (wS w a b)) (topG (wS w a b)) (Xfor2 w.params) ⟨lpK A B, none, none, none, kC, ledK w.params A B true d o, gens⟩ := by
  refine req_of rfl fun D p s T hL ho nd hg => ?_
  subst hg0
  refine wpCode_mono ?_ (loopK (D := D) hv hz hl1 h2 hh hp hn hi ⟨T, hL, nd (by show [34, 2, 33, 7, 4, 22, 6, 30].Nodup; decide), ho, hg⟩)
  rintro r s' ⟨rfl, d', o0, o', S1, C1⟩
  refine ⟨⟨xS s', s'.toks, 0, 0, .none, #[], o0, [fr3 w.params A false d' o'], d'.tk⟩, rfl, rfl, trivial, rfl, ⟨S1.led _ List.mem_cons_self, ?_, trivial⟩, fun y hy => (nomatch hy), List.nodup_nil, fun y hy => (nomatch hy), C1, S1.gens⟩
  exact S1.led (B 0, fr3 w.params A false d' o') (by simp)
end Law
end Mine
end
noncomputable section
open PySem PySem.W PyProof.Rows
set_option maxRecDepth 100000
set_option maxHeartbeats 4000000
set_option linter.unusedVariables false
namespace Mine
namespace Law
open Split (slO Frs Xsplit)
open Join (Xjoin tab)
open Sld (Xsld)
/-- the comp whose name lies in a cell -/
noncomputable def XcompC (sel : List Nat) (I : Array Value → Prop) : Xs := ⟨sel, fun ρ l => (.ok .next, [ρ.o, lstObj ρ.vs ρ.vs.size, celN false ρ.v], []), id, fun ρ => I ρ.vs, none⟩
noncomputable def XA (P : Params) (F : Addr) (q : Pm) : List Xs :=
  X1 P F q ++ [Xfor2 P, XintS [30] q.lo, XintS [30] q.hi, XcompC [35, 36, 38, 33, 37, 6, 7, 30] q.ub, Xrng q.lo (q.hi + 1), Xlist [39] q.rg, XboolS [36, 40] false,
    Xcomp P "h" false [41, 42, 43, 33, 4, 22] q.dl, Xsld [2, 42, 36] F q.m q.u, Xcomp P "h" false [50, 51, 52, 42, 8, 9] q.ms, XboolS [45, 51] true, Xrng (q.lo + 1) q.hi, Xlist [53] q.rg2, XboolS [46, 54] true]
/-- the token of a listed record's field, as a call that was not run saw it -/
noncomputable def vwF (o : Out2) (j i k : Nat) : Nat := match viewAt o j with
  | some v => match gL v.sel i with
    | some (_, ⟨_, _, .fields xs, _⟩) => match xs.toList[k]? with
      | some v => tokV v
      | none => 0
    | _ => 0
  | none => 0
noncomputable def g2 : List GenState := [.finished, .finished]
noncomputable def li (r : Ep) : Obj := lstObj r.vs r.vs.size
noncomputable def lt' (r : Ep) : Obj := lstObj r.vs r.t
noncomputable def at3 (r : Ep) (i : Nat) (e : Addr) : Nat → Addr := adr [r.x i, r.x (i + 1), r.x (i + 2), e]
noncomputable def A1 (ρ : Nat → Ep) : Nat → Addr := at3 (ρ 0) 0 (ρ 0).n
noncomputable def A3 (ρ : Nat → Ep) : Nat → Addr := at3 (ρ 2) 1 ((ρ 0).x 1)
noncomputable def A5 (ρ : Nat → Ep) : Nat → Addr := at3 (ρ 4) 0 (ρ 4).n
noncomputable def A9 (ρ : Nat → Ep) : Nat → Addr := at3 (ρ 8) 0 ((ρ 4).x 1)
noncomputable def A12 (ρ : Nat → Ep) : Nat → Addr := at3 (ρ 11) 0 (ρ 11).n
noncomputable def A17 (l : Addr) (ρ : Nat → Ep) : Nat → Addr := adr [(ρ 16).x 0, (ρ 16).n, (ρ 4).x 1, (ρ 11).x 1, l, (ρ 0).x 1]
noncomputable def AU (ρ : Nat → Ep) : Nat → Addr := adr [(ρ 19).x 0, (ρ 19).x 1, (ρ 19).x 3, (ρ 16).n, (ρ 19).x 2]
noncomputable def A24 (ρ : Nat → Ep) : Nat → Addr := at3 (ρ 23) 0 (ρ 16).n
noncomputable def A26 (ρ : Nat → Ep) : Nat → Addr := at3 (ρ 25) 3 ((ρ 23).x 1)
noncomputable def frA (P : Params) (l : Addr) (ρ : Nat → Ep) (tk : Nat → Nat) (sl : Array (Option Value)) : Obj := Sld.frS P [("script", .ref l), ("draws", .ref ((ρ 0).x 1))] tk 2 sl
noncomputable def frB (P : Params) (l : Addr) (ρ : Nat → Ep) (tk : Nat → Nat) : Obj := Sld.frS P [("script", .ref l), ("draws", .ref ((ρ 0).x 1)), ("one", vAt (getO (ρ 17).os 0) 2), ("other", vAt (getO (ρ 17).os 0) 3), ("due", vAt (getO (ρ 17).os 0) 4), ("unbeaten", .ref ((ρ 19).x 1)), ("dwelt", .ref ((ρ 23).x 1))] tk 7 (getO (ρ 17).os 0).slots
noncomputable def dK (d : Dl) (ρ : Nat → Ep) (tk : Nat → Nat) : Df := ⟨(ρ 16).vs, (ρ 16).t, 0, (ρ 5).vs, (ρ 5).vs.size, (ρ 12).vs, (ρ 12).vs.size, 0, 0, 0, tk, .none, .none, (ρ 11).o.slots, d.D, d.p, d.toks, g2⟩
noncomputable def vw (code : Code) (sel : List (Addr × Obj)) (g : List GenState) : Ob := .x ⟨code, none, none, none, kC, sel, g⟩
noncomputable def c0 (P : Params) (tn : String) (A : Nat → Addr) (vs : Array Value) (n : Nat) (rest : List (Addr × Obj)) : List (Addr × Obj) := cled P tn A vs n 0 #[] 0 true (fun _ => 0) .none rest
noncomputable def tyc (n : String) (args : List Value) : Code := .call (.type n) ⟨args, []⟩
noncomputable def prA1 (o : Out2) (P : Params) (x : Nat → Addr) (l c : Addr) (d : Dl) (q : Pm) (ρ : Nat → Ep) : List Ob :=
  [vw (biCode "list.__getitem__" [.ref l, .ref (x 8)]) [(l, lstObj d.vs d.n), (x 8, slcO .none (.int 8 (vwF o 0 1 1)))] [],
   vw (cstart (Ca false) ((ρ 0).x 0) ((ρ 0).x 1) (ea false (A1 ρ) x)) (c0 P "x" (A1 ρ) (ρ 0).vs (ρ 0).t []) [],
   vw (callCode 812 [.ref ((ρ 0).x 1)]) [((ρ 0).x 1, li (ρ 1))] [],
   vw (cstart (Ca true) ((ρ 2).x 1) ((ρ 2).x 2) (ea true (A3 ρ) x)) (c0 P "x" (A3 ρ) (ρ 1).vs (ρ 1).vs.size []) [],
   vw (biCode "list.__add__" [.ref ((ρ 2).x 0), .ref ((ρ 2).x 2)]) [((ρ 2).x 0, lstObj #[.int 0 (vwS o 4 0 0), .int 2 (vwS o 4 0 1)] 0), ((ρ 2).x 2, li (ρ 3))] [],
   vw (cstart CH ((ρ 4).x 0) ((ρ 4).x 1) (eH (A5 ρ) x)) (c0 P "n" (A5 ρ) (ρ 4).vs (ρ 4).t (rH x (ρ 2).n (ρ 2).vs (ρ 2).t)) [],
   vw (callCode 778 [.ref (ρ 2).n]) [(773, tab true c), ((ρ 2).n, lt' (ρ 2))] [],
   .p (Frs [x 0] [fn x]),
   vw (callCode 771 [.str q.y1 (ρ 6).t]) [(x 0, frA P l ρ (vwD o 7 0) #[])] [.finished],
   vw (biCode "list.__ne__" [.ref (ρ 7).n, .ref (ρ 2).n]) [((ρ 7).n, lt' (ρ 7)), ((ρ 2).n, lt' (ρ 2))] [.finished],
   vw (cstart CS ((ρ 8).x 0) ((ρ 8).x 1) (eS (A9 ρ) x)) (c0 P "home" (A9 ρ) (ρ 5).vs (ρ 5).vs.size (rS x (ρ 2).n (ρ 2).vs (ρ 2).t)) [.finished],
   vw (callCode 778 [.ref ((ρ 8).x 1)]) [(773, tab false (ρ 6).n), ((ρ 8).x 1, li (ρ 9))] [.finished],
   .p (Frs [x 0] [fn x]),
   vw (callCode 771 [.str q.y2 (ρ 10).t]) [(x 0, frA P l ρ (vwD o 11 0) (ρ 7).o.slots)] g2,
   vw (cstart CR ((ρ 11).x 0) ((ρ 11).x 1) (eR (A12 ρ) x)) (c0 P "name" (A12 ρ) (ρ 11).vs (ρ 11).t (rR x (ρ 7).n (ρ 7).vs (ρ 7).t)) g2,
   vw (biCode "list.__ne__" [.ref ((ρ 11).x 1), .ref ((ρ 4).x 1)]) [((ρ 11).x 1, li (ρ 12)), ((ρ 4).x 1, li (ρ 5))] g2]
noncomputable def prA2 (o : Out2) (P : Params) (x : Nat → Addr) (l : Addr) (d : Dl) (q : Pm) (ρ : Nat → Ep) : List Ob :=
  [vw (biCode "len" [.ref (ρ 2).n]) [((ρ 2).n, lt' (ρ 2))] g2,
   vw (tyc "range" [.int q.H (ρ 14).t]) [] g2,
   vw (tyc "list" [.ref (ρ 15).n]) [((ρ 15).n, rngO 0 q.H ((ρ 15).tk 0) ((ρ 15).tk 1) ((ρ 15).tk 2))] g2,
   vw (lpK (A17 l ρ) x) (ledK P (A17 l ρ) x true (dK d ρ (vwD o 17 1)) .none) g2,
   vw (callCode 64 [.ref ((ρ 11).x 1)]) [((ρ 11).x 1, li (ρ 12))] g2,
   vw (callCode 71 [.ref ((ρ 11).x 1)]) [((ρ 11).x 1, li (ρ 12))] g2,
   vw (cstart CU ((ρ 19).x 0) ((ρ 19).x 1) (eU (AU ρ) x)) (cledG celN (AU ρ) (ρ 16).vs (ρ 16).t 0 #[] 0 true .none (rU (AU ρ) x ((ρ 11).x 1) (ρ 12).vs (ρ 12).vs.size)) g2,
   vw (tyc "range" [.int q.lo (ρ 18).t, .int (q.hi + 1) (argTk o 21 1)]) [] g2,
   vw (tyc "list" [.ref (ρ 21).n]) [((ρ 21).n, rngO q.lo (q.hi + 1) ((ρ 21).tk 0) ((ρ 21).tk 1) ((ρ 21).tk 2))] g2,
   vw (biCode "list.__ne__" [.ref ((ρ 19).x 1), .ref (ρ 22).n]) [((ρ 19).x 1, li (ρ 20)), ((ρ 22).n, lt' (ρ 22))] g2,
   vw (cstart CM ((ρ 23).x 0) ((ρ 23).x 1) (eM (A24 ρ) x)) (c0 P "h" (A24 ρ) (ρ 16).vs (ρ 16).t (rM x ((ρ 4).x 1) (ρ 5).vs (ρ 5).vs.size)) g2,
   .p (Frs [x 0] [fn x]),
   vw (callCode 793 [.ref ((ρ 23).x 1), .ref ((ρ 19).x 1)]) [(x 0, frB P l ρ (vwD o 25 0)), ((ρ 23).x 1, li (ρ 24)), ((ρ 19).x 1, li (ρ 20))] g2,
   vw (cstart CO ((ρ 25).x 3) ((ρ 25).x 4) (eO (A26 ρ) x)) (c0 P "h" (A26 ρ) (ρ 24).vs (ρ 24).vs.size (rO x q.lo q.hi (ρ 18).t (ρ 19).t)) g2,
   vw (biCode "list.__eq__" [.ref ((ρ 25).tk 0), .ref ((ρ 25).x 4)]) [((ρ 25).tk 0, lt' (ρ 25)), ((ρ 25).x 4, li (ρ 26))] g2,
   vw (tyc "range" [.int (q.lo + 1) (argTk o 28 0), .int q.hi (ρ 19).t]) [] g2,
   vw (tyc "list" [.ref (ρ 28).n]) [((ρ 28).n, rngO (q.lo + 1) q.hi ((ρ 28).tk 0) ((ρ 28).tk 1) ((ρ 28).tk 2))] g2,
   vw (biCode "list.__eq__" [.ref ((ρ 25).tk 1), .ref (ρ 29).n]) [((ρ 25).tk 1, lstObj (itemsO (ρ 25).o) (cntO (ρ 25).o)), ((ρ 29).n, lt' (ρ 29))] g2]
noncomputable def sA (w : World) (x : Nat → Addr) (l c : Addr) (d : Dl) (q : Pm) (ρ : Nat → Ep) : Out2 :=
  sim spL w x (fun _ => .none) (XA w.params 5000 q) (XA w.params (x 0) q) cEl (cL 4000 0 d) (cL l c d) ρ
end Law
end Mine
end
noncomputable section
open PySem PySem.W PyProof.Rows
set_option maxRecDepth 100000
set_option maxHeartbeats 4000000
set_option linter.unusedVariables false
namespace Mine
namespace Law
noncomputable def FactA (w : World) (P : Params) (x : Nat → Addr) (l c : Addr) (d : Dl) (q : Pm) (ρ : Nat → Ep) : Prop :=
  proj [1, 0] (sA w x l c d q ρ) = want (sA w x l c d q ρ) (prA1 (sA w x l c d q ρ) P x l c d q ρ ++ prA2 (sA w x l c d q ρ) P x l d q ρ)
    [(773, Join.tab false (ρ 10).n), (l, lstObj d.vs d.n)] g2 (.pure (.done (.ret (.bool true)))) (cx (.func (fBody [40]) (fn x)) kL d.D)
theorem factA (w : World) (a b : Bool) (x : Nat → Addr) (l c : Addr) (d : Dl) (q : Pm) (ρ : Nat → Ep) : FactA (wS w a b) w.params x l c d q ρ := by
  unfold FactA
  obtain ⟨_, _, _, _, _, _, _, _, _, _, _, _, _, _, _, _, _, _, _, _, _, _, _, nb⟩ := q
  cases nb <;> cases a <;> kernel_rfl
end Law
end Mine
end
noncomputable section
open PySem PySem.W PyProof.Rows
set_option maxRecDepth 100000
set_option maxHeartbeats 4000000
set_option linter.unusedVariables false
namespace Mine
theorem cnt_disj (ns : List Int) (p q : Int → Bool) (h : ∀ v, ¬ (p v = true ∧ q v = true)) : ns.countP p + ns.countP q ≤ ns.length := by
  induction ns with
  | nil => simp
  | cons v ns ih =>
    rw [List.countP_cons, List.countP_cons, List.length_cons]
    have := h v
    by_cases h1 : p v = true
    · by_cases h2 : q v = true
      · exact absurd ⟨h1, h2⟩ this
      · simp [h1, h2]; omega
    · by_cases h2 : q v = true
      · simp [h1, h2]; omega
      · simp [h1, h2]; omega
theorem cnt_le (ns : List Int) (p q : Int → Bool) (h : ∀ v, p v = true → q v = true) : ns.countP p ≤ ns.countP q := List.countP_mono_left fun v _ hv => h v hv
theorem mid_uniq {ns : List Int} {k : Nat} {x y : Int} (hk : k < ns.length) (hx : Mid ns k x) (hy : Mid ns k y) : x = y := by
  have key : ∀ {x y : Int}, Mid ns k x → Mid ns k y → ¬ x < y := by
    intro x y hx hy hlt
    have := cnt_disj ns (fun v => decide (v ≤ x)) (fun v => decide (y ≤ v)) (fun v => by simp; omega)
    have h1 := hx.2.1
    have h2 := hy.2.2
    unfold cle at h1
    unfold cge at h2
    omega
  have h1 := key hx hy
  have h2 := key hy hx
  omega
theorem mid_ex (ns : List Int) {k : Nat} (hk : k < ns.length) : ∃ x, Mid ns k x := by
  have hp := List.mergeSort_perm ns (fun a b => decide (a ≤ b))
  have hs := List.pairwise_mergeSort (le := fun a b : Int => decide (a ≤ b)) (fun a b c h1 h2 => by simp at *; omega) (fun a b => by simp; omega) ns
  have hs' : (ns.mergeSort (fun a b => decide (a ≤ b))).Pairwise (· ≤ ·) := hs.imp (by intro a b h; simpa using h)
  have hl : k < (ns.mergeSort (fun a b => decide (a ≤ b))).length := by rw [hp.length_eq]; exact hk
  exact ⟨_, mid_of hp hs' (List.getElem?_eq_getElem hl)⟩
theorem net_cnt (one other : Int) (ns : List Int) : Mine.Below.net one other ns = (ns.countP (fun v => decide (2 * v < one + other)) : Int) - (ns.countP (fun v => decide (2 * v > one + other)) : Int) := by
  induction ns with
  | nil => rfl
  | cons v ns ih =>
    rw [net_cons, ih, List.countP_cons, List.countP_cons]
    by_cases h1 : 2 * v < one + other
    · have h2 : ¬ 2 * v > one + other := by omega
      simp [h1, h2]; omega
    · by_cases h2 : 2 * v > one + other
      · simp [h1, h2]; omega
      · simp [h1, h2]
theorem total_self (h : Int) (ns : List Int) : Vote.total h h ns = 0 := by
  induction ns with
  | nil => rfl
  | cons v ns ih =>
    have : Vote.total h h (v :: ns) = sg (absI (h - v)) (absI (h - v)) + Vote.total h h ns := by
      unfold Vote.total
      rw [List.map_cons, List.sum_cons]
    rw [this, ih]
    unfold sg
    simp
theorem mem_upto {a b x : Int} : x ∈ upto a b ↔ a ≤ x ∧ x < b := by
  unfold upto
  simp only [List.mem_map, List.mem_range]
  constructor
  · rintro ⟨k, h1, rfl⟩; omega
  · intro h
    exact ⟨(x - a).toNat, by omega, by omega⟩
theorem upto_split {a b c : Int} (h1 : a ≤ b) (h2 : b ≤ c) : upto a c = upto a b ++ upto b c := by
  unfold upto
  have e : (c - a).toNat = (b - a).toNat + (c - b).toNat := by omega
  rw [e, List.range_add, List.map_append, List.map_map]
  congr 1
  refine List.map_congr_left fun k _ => ?_
  show a + (((b - a).toNat + k : Nat) : Int) = b + (k : Int)
  omega
theorem upto_nil {a b : Int} (h : b ≤ a) : upto a b = [] := by
  unfold upto
  have : (b - a).toNat = 0 := by omega
  rw [this]; rfl
theorem upto_one (a : Int) : upto a (a + 1) = [a] := by
  unfold upto
  have : (a + 1 - a).toNat = 1 := by omega
  rw [this]
  simp
theorem upto_cons {a b : Int} (h : a < b) : upto a b = a :: upto (a + 1) b := by
  rw [upto_split (b := a + 1) (by omega) (by omega), upto_one]; rfl
theorem upto_len (a b : Int) : (upto a b).length = (b - a).toNat := by unfold upto; simp
theorem upto_at {H i : Nat} (h : i < (upto 0 (H : Int)).length) : (upto 0 (H : Int))[i]? = some (i : Int) := by
  rw [upto_len] at h
  unfold upto
  rw [List.getElem?_map, List.getElem?_range (by omega)]
  simp
theorem upto_lt (a b : Int) : (upto a b).Pairwise (· < ·) := by
  unfold upto
  rw [List.pairwise_map]
  exact (List.pairwise_lt_range).imp (by intro x y h; omega)
theorem filter_none {l : List Int} {p : Int → Bool} (h : ∀ x ∈ l, p x = false) : l.filter p = [] := by
  rw [List.filter_eq_nil_iff]
  intro x hx
  rw [h x hx]; exact Bool.false_ne_true
theorem filter_all {l : List Int} {p : Int → Bool} (h : ∀ x ∈ l, p x = true) : l.filter p = l := List.filter_eq_self.mpr h
section
variable {ns : List Int} {H : Nat} {lo hi : Int} (hne : ns ≠ []) (hr : ∀ v ∈ ns, 0 ≤ v ∧ v < (H : Int)) (hlo : Mid ns ((ns.length - 1) / 2) lo) (hhi : Mid ns (ns.length / 2) hi)
include hne hlo hhi in
theorem lo_le_hi : lo ≤ hi := by
  have hm : 0 < ns.length := List.length_pos_iff.mpr hne
  rcases Int.lt_or_le hi lo with h | h
  · exfalso
    have := cnt_disj ns (fun v => decide (v ≤ hi)) (fun v => decide (lo ≤ v)) (fun v => by simp; omega)
    have h1 := hhi.2.1
    have h2 := hlo.2.2
    unfold cle at h1
    unfold cge at h2
    omega
  · exact h
include hne hlo hhi in
theorem none_between {v : Int} (hv : v ∈ ns) : ¬ (lo < v ∧ v < hi) := by
  rintro ⟨h1, h2⟩
  have hm : 0 < ns.length := List.length_pos_iff.mpr hne
  have g1 := hlo.2.1
  have g2 := hhi.2.2
  unfold cle at g1
  unfold cge at g2
  have k1 := cnt_disj ns (fun u => decide (u ≤ lo) || decide (u = v)) (fun u => decide (hi ≤ u)) (fun u => by simp; omega)
  have k2 : ns.countP (fun u => decide (u ≤ lo)) + ns.countP (fun u => decide (u = v)) ≤ ns.countP (fun u => decide (u ≤ lo) || decide (u = v)) := by
    clear k1 g1 g2 hm hv hlo hhi hne
    induction ns with
    | nil => simp
    | cons u ns ih =>
      rw [List.countP_cons, List.countP_cons, List.countP_cons]
      by_cases q1 : u ≤ lo
      · have q2 : ¬ u = v := by omega
        simp [q1, q2]; omega
      · by_cases q2 : u = v
        · have q3 : ¬ v ≤ lo := by omega
          simp [q2, q3]; omega
        · simp [q1, q2]; omega
  have k3 : 0 < ns.countP (fun u => decide (u = v)) := List.countP_pos_iff.mpr ⟨v, hv, by simp⟩
  omega
include hne hr hlo hhi in
theorem top1_iff {h : Int} (h0 : 0 ≤ h) (hH : h < (H : Int)) : Law.top1 (upto 0 (H : Int)) ns h = (decide (lo ≤ h) && decide (h ≤ hi)) := by
  have hm : 0 < ns.length := List.length_pos_iff.mpr hne
  have hle := lo_le_hi hne hlo hhi
  have l1 := hlo.2.1
  have l2 := hlo.2.2
  have u1 := hhi.2.1
  have u2 := hhi.2.2
  have lr := hr lo hlo.1
  have ur := hr hi hhi.1
  unfold cle at l1 u1
  unfold cge at l2 u2
  have toIff : Law.top1 (upto 0 (H : Int)) ns h = true ↔ ∀ r, 0 ≤ r → r < (H : Int) → 0 ≤ Vote.total h r ns := by
    unfold Law.top1
    rw [decide_eq_true_iff, List.length_eq_zero_iff, List.filter_eq_nil_iff]
    constructor
    · intro q r r0 r1
      have := q r (mem_upto.mpr ⟨r0, r1⟩)
      simp at this
      exact this
    · intro q r hr
      have hr := mem_upto.mp hr
      have := q r hr.1 hr.2
      simp
      exact this
  rw [Bool.eq_iff_iff, toIff]
  simp only [Bool.and_eq_true, decide_eq_true_eq]
  constructor
  · intro q
    refine ⟨?_, ?_⟩
    · rcases Int.lt_or_le h lo with g | g
      · exfalso
        have t := q (h + 1) (by omega) (by omega)
        rw [total_lt (by omega), net_cnt] at t
        have k1 := cnt_disj ns (fun v => decide (2 * v < h + (h + 1))) (fun v => decide (2 * v > h + (h + 1))) (fun v => by simp; omega)
        have k2 := cnt_le ns (fun v => decide (lo ≤ v)) (fun v => decide (2 * v > h + (h + 1))) (fun v => by simp; omega)
        omega
      · exact g
    · rcases Int.lt_or_le hi h with g | g
      · exfalso
        have t := q (h - 1) (by omega) (by omega)
        rw [total_gt (by omega), net_cnt] at t
        have k1 := cnt_disj ns (fun v => decide (2 * v < h - 1 + h)) (fun v => decide (2 * v > h - 1 + h)) (fun v => by simp; omega)
        have k2 := cnt_le ns (fun v => decide (v ≤ hi)) (fun v => decide (2 * v < h - 1 + h)) (fun v => by simp; omega)
        omega
      · exact g
  · rintro ⟨g1, g2⟩ r r0 r1
    rcases Int.lt_trichotomy h r with g | g | g
    · rw [total_lt g, net_cnt]
      have k1 := cnt_disj ns (fun v => decide (2 * v < h + r)) (fun v => decide (2 * v > h + r)) (fun v => by simp; omega)
      have k2 := cnt_le ns (fun v => decide (v ≤ lo)) (fun v => decide (2 * v < h + r)) (fun v => by simp; omega)
      omega
    · rw [g, total_self]; exact Int.le_refl _
    · rw [total_gt g, net_cnt]
      have k1 := cnt_disj ns (fun v => decide (2 * v < r + h)) (fun v => decide (2 * v > r + h)) (fun v => by simp; omega)
      have k2 := cnt_le ns (fun v => decide (hi ≤ v)) (fun v => decide (2 * v > r + h)) (fun v => by simp; omega)
      omega
include hne hr hlo hhi in
theorem unbeaten_is : (upto 0 (H : Int)).filter (Law.top1 (upto 0 (H : Int)) ns) = upto lo (hi + 1) := by
  have hle := lo_le_hi hne hlo hhi
  have lr := hr lo hlo.1
  have ur := hr hi hhi.1
  have e : (upto 0 (H : Int)).filter (Law.top1 (upto 0 (H : Int)) ns) = (upto 0 (H : Int)).filter (fun h => decide (lo ≤ h) && decide (h ≤ hi)) :=
    List.filter_congr fun h hh => by
      have := mem_upto.mp hh
      exact top1_iff hne hr hlo hhi this.1 this.2
  rw [e, upto_split (b := lo) (by omega) (by omega), upto_split (a := lo) (b := hi + 1) (by omega) (by omega), List.filter_append, List.filter_append]
  rw [filter_none (l := upto 0 lo) (fun x hx => by have := mem_upto.mp hx; simp; omega), filter_all (l := upto lo (hi + 1)) (fun x hx => by have := mem_upto.mp hx; simp; omega), filter_none (l := upto (hi + 1) (H : Int)) (fun x hx => by have := mem_upto.mp hx; simp; omega)]
  simp
end
end Mine
end
noncomputable section
open PySem PySem.W PyProof.Rows
set_option maxRecDepth 100000
set_option maxHeartbeats 4000000
set_option linter.unusedVariables false
namespace Mine
theorem dif_pre {lo : Int} {X A' m u : List Int} (hX : ∃ t, X = lo :: t) (h : Dif X (lo :: A') m u) : ∀ D1 : List Int, (∀ x ∈ D1, x < lo) → D1.Pairwise (· < ·) → Dif (D1 ++ X) (lo :: A') (D1 ++ m) u
  | [], _, _ => h
  | [e], h1, _ => by
    obtain ⟨t, rfl⟩ := hX
    have := h1 e (by simp)
    exact .lt this (by omega) h
  | e :: e' :: D1, h1, h2 => by
    rw [List.pairwise_cons] at h2
    have g := h2.1 e' (by simp)
    exact .lt (h1 e (by simp)) (by omega) (dif_pre hX h (e' :: D1) (fun x hx => h1 x (List.mem_cons_of_mem _ hx)) h2.2)
theorem dif_mid {hi : Int} {D3 : List Int} (h3 : ∀ x ∈ D3, hi < x) : ∀ M : List Int, (∀ x ∈ M, x < hi) → M.Pairwise (· < ·) → Dif (hi :: D3) (M ++ [hi]) D3 M
  | [], _, _ => .fin fun e' he => by
    cases D3 with
    | nil => simp at he
    | cons x D3 =>
      simp at he
      subst he
      have := h3 x (by simp)
      omega
  | [a], h1, _ => by
    have := h1 a (by simp)
    exact .gt (by omega) (by omega) (dif_mid h3 [] (fun x hx => nomatch hx) .nil)
  | a :: a' :: M, h1, h2 => by
    rw [List.pairwise_cons] at h2
    have g := h2.1 a' (by simp)
    have := h1 a (by simp)
    exact .gt (by omega) (by omega) (dif_mid h3 (a' :: M) (fun x hx => h1 x (List.mem_cons_of_mem _ hx)) h2.2)
theorem dif_law {ns : List Int} {H : Nat} {lo hi : Int} (hne : ns ≠ []) (hr : ∀ v ∈ ns, 0 ≤ v ∧ v < (H : Int)) (hlo : Mid ns ((ns.length - 1) / 2) lo) (hhi : Mid ns (ns.length / 2) hi) :
    Dif ((upto 0 (H : Int)).filter (fun v => ns.contains v)) (upto lo (hi + 1)) (((upto 0 (H : Int)).filter (fun v => ns.contains v)).filter (fun v => decide (v < lo) || decide (v > hi))) (upto (lo + 1) hi) := by
  have hle := lo_le_hi hne hlo hhi
  have lr := hr lo hlo.1
  have ur := hr hi hhi.1
  have cl : ns.contains lo = true := by simpa using hlo.1
  have ch : ns.contains hi = true := by simpa using hhi.1
  have mid : ∀ x, lo < x → x < hi → ns.contains x = false := by
    intro x h1 h2
    by_cases q : ns.contains x = true
    · exact absurd ⟨h1, h2⟩ (none_between hne hlo hhi (by simpa using q))
    · simpa using q
  have eD : (upto 0 (H : Int)).filter (fun v => ns.contains v) = (upto 0 lo).filter (fun v => ns.contains v) ++ ((upto lo (hi + 1)).filter (fun v => ns.contains v) ++ (upto (hi + 1) (H : Int)).filter (fun v => ns.contains v)) := by
    rw [upto_split (b := lo) (by omega) (by omega), upto_split (a := lo) (b := hi + 1) (by omega) (by omega), List.filter_append, List.filter_append]
  have a1 : ∀ x ∈ (upto 0 lo).filter (fun v => ns.contains v), x < lo := fun x hx => (mem_upto.mp (List.mem_filter.mp hx).1).2
  have a3 : ∀ x ∈ (upto (hi + 1) (H : Int)).filter (fun v => ns.contains v), hi < x := fun x hx => by have := (mem_upto.mp (List.mem_filter.mp hx).1).1; omega
  have p1 : ((upto 0 lo).filter (fun v => ns.contains v)).Pairwise (· < ·) := (upto_lt 0 lo).filter _
  generalize hD1 : (upto 0 lo).filter (fun v => ns.contains v) = D1 at *
  generalize hD3 : (upto (hi + 1) (H : Int)).filter (fun v => ns.contains v) = D3 at *
  have f1 : D1.filter (fun v => decide (v < lo) || decide (v > hi)) = D1 := filter_all fun x hx => by have := a1 x hx; simp; omega
  have f3 : D3.filter (fun v => decide (v < lo) || decide (v > hi)) = D3 := filter_all fun x hx => by have := a3 x hx; simp; omega
  have f2 : ((upto lo (hi + 1)).filter (fun v => ns.contains v)).filter (fun v => decide (v < lo) || decide (v > hi)) = [] := filter_none fun x hx => by
    have := mem_upto.mp (List.mem_filter.mp hx).1
    simp; omega
  rw [eD, List.filter_append, List.filter_append, f1, f2, f3, List.nil_append]
  rcases Int.lt_or_eq_of_le hle with g | g
  · have e2 : (upto lo (hi + 1)).filter (fun v => ns.contains v) = [lo, hi] := by
      rw [upto_cons (by omega), upto_split (a := lo + 1) (b := hi) (by omega) (by omega), upto_one, List.filter_cons, cl, List.filter_append, filter_none (l := upto (lo + 1) hi) (fun x hx => by have := mem_upto.mp hx; exact mid x (by omega) (by omega))]
      simp only [if_true, List.nil_append, List.filter_cons, ch, List.filter_nil]
    rw [e2, upto_cons (a := lo) (b := hi + 1) (by omega)]
    refine dif_pre (X := [lo, hi] ++ D3) ⟨[hi] ++ D3, rfl⟩ ?_ D1 a1 p1
    have e3 : upto (lo + 1) (hi + 1) = upto (lo + 1) hi ++ [hi] := by rw [upto_split (b := hi) (by omega) (by omega), upto_one]
    have d2 := dif_mid a3 (upto (lo + 1) hi) (fun x hx => (mem_upto.mp hx).2) (upto_lt _ _)
    rw [← e3] at d2
    obtain ⟨a', t, e4, e5⟩ : ∃ a' t, upto (lo + 1) (hi + 1) = a' :: t ∧ a' = lo + 1 := ⟨lo + 1, _, upto_cons (by omega), rfl⟩
    rw [e4] at d2 ⊢
    exact .eq (by omega) (by omega) d2
  · subst g
    have e2 : (upto lo (lo + 1)).filter (fun v => ns.contains v) = [lo] := by
      rw [upto_one, List.filter_cons, cl]
      simp
    rw [e2, upto_one, upto_nil (a := lo + 1) (b := lo) (by omega)]
    refine dif_pre (X := [lo] ++ D3) ⟨D3, rfl⟩ ?_ D1 a1 p1
    exact .fin fun e' he => by
      cases D3 with
      | nil => simp at he
      | cons x D3 =>
        simp at he
        subst he
        have := a3 x (by simp)
        omega
end Mine
end
noncomputable section
open PySem PySem.W PyProof.Rows
set_option maxRecDepth 100000
set_option maxHeartbeats 4000000
set_option linter.unusedVariables false
namespace Mine
theorem dstep_len (js : List Nat) (k : Nat) : js.length ≤ (dstep js k).length := by unfold dstep; split <;> simp
theorem fold_len : ∀ (ks js : List Nat), js.length ≤ (ks.foldl dstep js).length
  | [], js => Nat.le_refl _
  | k :: ks, js => Nat.le_trans (dstep_len js k) (fold_len ks (dstep js k))
theorem dstep_nd {js : List Nat} (h : js.Nodup) (k : Nat) : (dstep js k).Nodup := by
  unfold dstep
  split
  · exact h
  · rename_i q
    refine List.nodup_append.mpr ⟨h, by simp, fun a ha b hb => ?_⟩
    have : b = k := by simpa using hb
    rintro rfl
    subst this
    exact q (by simpa using ha)
theorem ded_nd (ks : List Nat) : (ded ks).Nodup := by
  have key : ∀ (ks js : List Nat), js.Nodup → (ks.foldl dstep js).Nodup := by
    intro ks
    induction ks with
    | nil => intro js h; exact h
    | cons k ks ih => intro js h; exact ih _ (dstep_nd h k)
  exact key ks [] List.nodup_nil
theorem word_inj {j k : Nat} (hj : j < 9) (hk : k < 9) (h : word j = word k) : j = k := by
  have := word_beq j hj k hk
  rw [h] at this
  simp at this
  exact this
namespace Law
/-- the script's numbers -/
noncomputable def dws (ns : List Int) : List Int := (ns.take 8).map (·.fmod 81)
noncomputable def Js (ns : List Int) : List Nat := ded (Street.nums (dws ns))
noncomputable def adds (ns : List Int) : List Int := [0, 2] ++ (dws ns).map (·.fdiv 9)
noncomputable def homes (ns : List Int) : List Int := (adds ns).map (·.fmod ((Js ns).length : Int))
noncomputable def hsN (ns : List Int) : List Nat := (homes ns).map Int.toNat
noncomputable def J2 (ns : List Int) : List Nat := (hsN ns).map (fun h => (Js ns).getD h 0)
theorem dws_len (ns : List Int) : (dws ns).length ≤ 8 := by unfold dws; simp; omega
theorem js_lt (ns : List Int) : ∀ j ∈ Js ns, j < 9 := fun j h => Street.nums_lt _ j (ded_sub j h)
theorem js_len (ns : List Int) : 3 ≤ (Js ns).length ∧ (Js ns).length ≤ 11 := by
  refine ⟨?_, ?_⟩
  · unfold Js ded Street.nums
    rw [List.foldl_append]
    exact Nat.le_trans (show 3 ≤ (List.foldl dstep [] [1, 0, 3]).length by decide) (fold_len _ _)
  · have h1 := ded_len (Street.nums (dws ns))
    have h2 := dws_len ns
    unfold Street.nums at h1
    simp at h1
    unfold Js
    exact Nat.le_trans h1 (by omega)
theorem homes_len (ns : List Int) : 2 ≤ (homes ns).length ∧ (homes ns).length ≤ 10 := by
  have h2 := dws_len ns
  unfold homes adds
  simp
  omega
theorem homes_in (ns : List Int) : ∀ v ∈ homes ns, 0 ≤ v ∧ v < ((Js ns).length : Int) := by
  intro v hv
  have h3 := (js_len ns).1
  unfold homes at hv
  obtain ⟨x, _, rfl⟩ := List.mem_map.mp hv
  exact ⟨Int.fmod_nonneg_of_pos x (by omega), Int.fmod_lt_of_pos x (by omega)⟩
theorem homes_nat (ns : List Int) : nI (hsN ns) = homes ns := by
  unfold nI hsN
  rw [List.map_map]
  have : ∀ v ∈ homes ns, (Int.ofNat ∘ Int.toNat) v = v := fun v hv => by
    have := homes_in ns v hv
    show ((v.toNat : Nat) : Int) = v
    omega
  rw [List.map_congr_left this]
  simp
theorem hsN_lt (ns : List Int) : ∀ h ∈ hsN ns, h < (Js ns).length := by
  intro h hh
  unfold hsN at hh
  obtain ⟨v, hv, rfl⟩ := List.mem_map.mp hh
  have := homes_in ns v hv
  omega
theorem hsN_len (ns : List Int) : (hsN ns).length = (homes ns).length := by unfold hsN; simp
theorem getD_lt {l : List Nat} {h : Nat} (hl : h < l.length) : l[h]? = some (l.getD h 0) := by
  rw [List.getD_eq_getElem?_getD, List.getElem?_eq_getElem hl]; rfl
theorem j2_lt (ns : List Int) : ∀ j ∈ J2 ns, j < 9 := by
  intro j hj
  unfold J2 at hj
  obtain ⟨h, hh, rfl⟩ := List.mem_map.mp hj
  exact js_lt ns _ (List.mem_of_getElem? (getD_lt (hsN_lt ns h hh)))
theorem j2_len (ns : List Int) : (J2 ns).length = (homes ns).length := by unfold J2; rw [List.length_map, hsN_len]
theorem names_eq (ns : List Int) : (hsN ns).map (fun h => ((Js ns).map word).getD h default) = (J2 ns).map word := by
  unfold J2
  rw [List.map_map]
  refine List.map_congr_left fun h hh => ?_
  have hl := hsN_lt ns h hh
  show ((Js ns).map word).getD h default = word ((Js ns).getD h 0)
  rw [List.getD_eq_getElem?_getD, List.getElem?_map, getD_lt hl]
  rfl
theorem at_uniq {js : List Nat} (h9 : ∀ j ∈ js, j < 9) (hn : js.Nodup) {k k' : Nat} {z : PySem.Str} (h1 : (js.map word)[k]? = some z) (h2 : (js.map word)[k']? = some z) : k = k' := by
  rw [List.getElem?_map, Option.map_eq_some_iff] at h1 h2
  obtain ⟨j, g1, g2⟩ := h1
  obtain ⟨j', g3, g4⟩ := h2
  have := word_inj (h9 j (List.mem_of_getElem? g1)) (h9 j' (List.mem_of_getElem? g3)) (g2.trans g4.symm)
  subst this
  exact nd_inj hn g1 g3
open Classical in
/-- where a name stands -/
noncomputable def Kf (js : List Nat) (z : PySem.Str) : Nat := if h : ∃ k, (js.map word)[k]? = some z then h.choose else 0
theorem kf_at {js : List Nat} (h9 : ∀ j ∈ js, j < 9) (hn : js.Nodup) {k : Nat} {z : PySem.Str} (h : (js.map word)[k]? = some z) : Kf js z = k := by
  have hex : ∃ k, (js.map word)[k]? = some z := ⟨k, h⟩
  unfold Kf
  rw [dif_pos hex]
  exact at_uniq h9 hn hex.choose_spec h
theorem name_at (ns : List Int) {h : Nat} (hh : h ∈ hsN ns) : ((Js ns).map word)[h]? = some (word ((Js ns).getD h 0)) := by
  rw [List.getElem?_map, getD_lt (hsN_lt ns h hh)]; rfl
theorem kf_ok (ns : List Int) : ∀ z ∈ (J2 ns).map word, ((Js ns).map word)[Kf (Js ns) z]? = some z ∧ (∀ m, m < Kf (Js ns) z → ((Js ns).map word)[m]? ≠ some z) ∧ Kf (Js ns) z < 1000 := by
  intro z hz
  obtain ⟨j, hj, rfl⟩ := List.mem_map.mp hz
  unfold J2 at hj
  obtain ⟨h, hh, rfl⟩ := List.mem_map.mp hj
  have e := name_at ns hh
  rw [kf_at (js_lt ns) (ded_nd _) e]
  have hl := hsN_lt ns h hh
  have := (js_len ns).2
  refine ⟨e, fun m hm q => ?_, by omega⟩
  have := at_uniq (js_lt ns) (ded_nd _) q e
  omega
theorem places_eq (ns : List Int) : ((J2 ns).map word).map (fun z => (Kf (Js ns) z : Int)) = homes ns := by
  rw [← homes_nat]
  unfold J2 nI
  rw [List.map_map, List.map_map]
  refine List.map_congr_left fun h hh => ?_
  show ((Kf (Js ns) (word ((Js ns).getD h 0)) : Nat) : Int) = Int.ofNat h
  rw [kf_at (js_lt ns) (ded_nd _) (name_at ns hh)]
  rfl
theorem line_len : ∀ js : List Nat, (Join.line js).length ≤ 13 * js.length
  | [] => by
    have e : Join.line [] = ⟨#[]⟩ := by
      unfold Join.line Txt.join
      rw [StrLaws.glued_eq_join]
      rfl
    rw [e]; exact Nat.zero_le _
  | [j] => by
    have e : Join.line [j] = qword j := by
      unfold Join.line Txt.join
      rw [StrLaws.glued_eq_join]
      rfl
    rw [e]
    have := qword_len j
    simp; omega
  | j :: k :: js => by
    have e : Join.line (j :: k :: js) = qword j ++ S " " ++ Join.line (k :: js) := by
      unfold Join.line Txt.join
      rw [StrLaws.glued_eq_join, StrLaws.glued_eq_join]
      rfl
    have ih := line_len (k :: js)
    have hq := qword_len j
    have eb : (S " ").length = 1 := by decide +kernel
    have l1 := Split.len_list (qword j ++ S " " ++ Join.line (k :: js))
    rw [Split.app_list, Split.app_list, List.length_append, List.length_append, Split.len_list, Split.len_list, Split.len_list, eb] at l1
    rw [e, ← l1]
    simp only [List.length_cons] at ih ⊢
    omega
end Law
end Mine
end
noncomputable section
open PySem PySem.W PyProof.Rows
set_option maxRecDepth 100000
set_option maxHeartbeats 4000000
set_option linter.unusedVariables false
namespace Mine
namespace Law
open Split (slO Frs Xsplit)
open Join (Xjoin tab)
open Sld (Xsld)
theorem creq {w : World} {a b : Bool} {C : CX} {A : Nat → Addr} {tn : String} {vs : Array Value} {n : Nat} {rest : List (Addr × Obj)} {gens : List GenState} {env : Env} {nb : Bool} {sel : List Nat} {I : Array Value → Prop} (hnb : decide (vs.size = 0) = nb) (hs : sel.Nodup)
    (h : ∀ (D : Nat → CD × Pos) (p : Pos) (s : Shared), St (wS w a b) gens (c0 w.params tn A vs n rest) s → wpCode (MM (wS w a b)) (cx (cstart C (A 0) (A 1) env) kC D) (CompEnds w a b A tn vs n rest gens I s) p s) :
    ReqOk (MM (wS w a b)) (topG (wS w a b)) (Xcomp w.params tn nb sel I) ⟨cstart C (A 0) (A 1) env, none, none, none, kC, c0 w.params tn A vs n rest, gens⟩ := by
  subst hnb
  refine req_of rfl fun D p s T hL ho nd hg => ?_
  refine wpCode_mono ?_ (h D p s ⟨T, hL, nd hs, ho, hg⟩)
  rintro r s' ⟨rfl, us, o0, tk, y, h1, h2, h3⟩
  exact XPost.comp (A := A) rfl rfl h1 h2 h3
theorem split_reqG {w : World} {a b : Bool} {iF : Nat} {F : Addr} {o2 : Obj} {I : Array Value → Prop} {code : Code} {ks : List Kd} {gens : List GenState} (h : ReqOk (MM (wS w a b)) (topG (wS w a b)) (Xsplit iF F o2 I) ⟨code, none, none, none, ks, [(F, o2)], gens⟩) :
    ReqOk (MM (wS w a b)) (topG (wS w a b)) (XsplitG iF F I) ⟨code, none, none, none, ks, [(F, o2)], gens⟩ := by
  intro Γ p s hΓ T hL ho nd hg
  refine wpCode_mono ?_ (h Γ p s hΓ T hL ho nd hg)
  rintro r s' ⟨ρ, h1, h2, h3, h4, h5, h6, h7, h8, h9, h10⟩
  exact ⟨ρ, h1, h2, h3, h4, h5, h6, h7, h8, h9, h10⟩
theorem med_int {w : World} {i : Nat} {I : Int → Prop} {v : View} {x : Int} (h : ReqOk (MM w) (topG w) (Median.Xmed i I) v) (hI : ∀ y, I y → y = x) : ReqOk (MM w) (topG w) (XintS [i] x) v := by
  intro Γ p s hΓ T hL ho nd hg
  refine wpCode_mono ?_ (h Γ p s hΓ T hL ho nd hg)
  rintro r s' ⟨ρ, h1, h2, h3, h4, h5, h6, h7, h8, h9, h10⟩
  have e := hI _ h3
  refine ⟨ρ, h1, h2, trivial, ?_, h5, h6, h7, h8, h9, h10⟩
  rw [h4]
  show Except.ok (Flow.ret (.int (iv ρ.v) ρ.t)) = Except.ok (Flow.ret (.int x ρ.t))
  rw [e]
theorem ureq {w : World} {a b : Bool} {A B : Nat → Addr} {vs : Array Value} {n : Nat} {gens : List GenState} {pl : Addr} {ps : Array Value} {m : Nat} {ns pls : List Int} {sel : List Nat} (hs : sel.Nodup) (hne : vs.size ≠ 0) (hvs : IA vs ns) (hz : ns.length ≤ 900) (hp : IA ps pls) (hpz : pls.length ≤ 900) {I : Array Value → Prop} (hI : ∀ us, IA us (ns.filter (top1 ns pls)) → I us) :
    ReqOk (MM (wS w a b)) (topG (wS w a b)) (XcompC sel I) ⟨cstart CU (A 0) (A 1) (eU A B), none, none, none, kC, cledG celN A vs n 0 #[] 0 true .none (rU A B pl ps m), gens⟩ := by
  refine req_of rfl fun D p s T hL ho nd hg => ?_
  refine wpCode_mono ?_ (compU (D := D) hvs hz hp hpz ⟨T, hL, nd hs, ho, hg⟩)
  rintro r s' ⟨rfl, us, o0, y, h1, h2, h3⟩
  rw [decide_eq_false hne] at h2
  refine ⟨⟨xS s', s'.toks, 0, 0, y, us, o0, [], fun _ => 0⟩, rfl, rfl, hI us h1, rfl, ⟨h2.led (A 0, o0) (by simp), h2.led (A 1, lstObj us us.size) (by simp), h2.led (A 2, celN false y) (by simp), by trivial⟩, fun y hy => (nomatch hy), List.nodup_nil, fun y hy => (nomatch hy), h3, h2.gens⟩
theorem IA.take8 {vs : Array Value} {ns : List Int} (h : IA vs ns) : IA (slicePick vs none (some 8) none) (ns.take 8) := by
  have q := slice_ints_uptoW (vs := vs.toList) h (y := 8) (by omega)
  have e : vs.toList.toArray = vs := by simp
  rw [e] at q
  exact q
theorem nz {vs : Array Value} {l : List Int} (h : IA vs l) (hl : 0 < l.length) : decide (vs.size = 0) = false := by rw [h.size]; exact decide_eq_false (by omega)
theorem nzS {vs : Array Value} {l : List PySem.Str} (h : SA vs l) (hl : 0 < l.length) : decide (vs.size = 0) = false := by rw [h.size]; exact decide_eq_false (by omega)
end Law
end Mine
end
noncomputable section
open PySem PySem.W PyProof.Rows
set_option maxRecDepth 100000
set_option maxHeartbeats 4000000
set_option linter.unusedVariables false
namespace Mine
namespace Law
open Split (slO Frs Xsplit)
open Join (Xjoin tab)
open Sld (Xsld)
noncomputable def Hs (ns : List Int) : Nat := (Js ns).length
noncomputable def houses (ns : List Int) : List Int := upto 0 (Hs ns : Int)
noncomputable def dwl (ns : List Int) : List Int := (houses ns).filter (fun v => (homes ns).contains v)
noncomputable def qm (ns : List Int) (lo hi : Int) : Pm where
  sl := fun us => IA us (ns.take 8)
  dw := fun us => IA us (dws ns)
  st := fun us => SA us ((Js ns).map word)
  qt := fun us => IA us ((dws ns).map (va true))
  ad := fun us => IA us (adds ns)
  hm := fun us => IA us (homes ns)
  rd := fun us => SA us ((Js ns).map word)
  nm := fun us => SA us ((J2 ns).map word)
  sp := fun us => SA us ((J2 ns).map word)
  pl := fun us => IA us (homes ns)
  hs := fun us => IA us (houses ns)
  ub := fun us => IA us (upto lo (hi + 1))
  rg := fun us => IA us (upto lo (hi + 1))
  dl := fun us => IA us (dwl ns)
  ms := fun us => IA us ((dwl ns).filter (fun v => decide (v < lo) || decide (v > hi)))
  rg2 := fun us => IA us (upto (lo + 1) hi)
  y1 := Join.line (Js ns)
  y2 := Join.line (J2 ns)
  H := (Hs ns : Int)
  lo := lo
  hi := hi
  m := (dwl ns).filter (fun v => decide (v < lo) || decide (v > hi))
  u := upto (lo + 1) hi
  nb := decide ((ns.take 8).length = 0)
theorem obs {w : World} {a b : Bool} {x : Nat → Addr} {l c : Addr} {d : Dl} {ns : List Int} {lo hi : Int} (o : Out2) (hv : IA d.vs ns) (hlo : Mid (homes ns) (((homes ns).length - 1) / 2) lo) (hhi : Mid (homes ns) ((homes ns).length / 2) hi) (ρ : Nat → Ep) :
    AllObs (MM (wS w a b)) (topG (wS w a b)) (XA w.params (x 0) (qm ns lo hi)) ρ (prA1 o w.params x l c d (qm ns lo hi) ρ ++ prA2 o w.params x l d (qm ns lo hi) ρ) := by
  have jl := js_len ns
  have hl := homes_len ns
  have hin := homes_in ns
  have dl := dws_len ns
  have hne : homes ns ≠ [] := fun q => by rw [q] at hl; simp at hl
  have lr := hin lo hlo.1
  have ur := hin hi hhi.1
  have hle := lo_le_hi hne hlo hhi
  have jn9 := js_lt ns
  have houl : (houses ns).length = (Js ns).length := by unfold houses Hs; rw [upto_len]; omega
  have dwlen : (dwl ns).length ≤ 11 := Nat.le_trans (List.length_filter_le _ _) (by rw [houl]; omega)
  have hFrs : Frs [x 0] [fn x] := ⟨rfl, fun en hen => by
    have : en = fn x := by simpa using hen
    subst this
    exact (by decide +kernel : (fScope [40]).kind ≠ .module)⟩
  have notf : ∀ (es : List (String × Value)) (tk : Nat → Nat) (n : Nat) (sl : Array (Option Value)), ∀ vs, (Sld.frS w.params es tk n sl).data ≠ .fields vs := fun es tk n sl vs q => by cases q
  refine ⟨Xlist_mono (slice_reqS .none (.int _ _) ?_) fun us e => ?_, fun h0 => ?_⟩
  · rw [(IA.take8 hv).size]; simp; omega
  · subst e; exact IA.take8 hv
  have h0 : IA (ρ 0).vs (ns.take 8) := h0
  refine ⟨creq (A := A1 ρ) (by rw [h0.size]; rfl) (by decide) fun D p s S => compa (q := false) h0 (by simp; omega) S, fun h1 => ?_⟩
  have h1 : IA (ρ 1).vs (dws ns) := h1
  have h1z := h1.size
  refine ⟨Street.req h1 (by omega), fun h2 => ?_⟩
  have h2 : SA (ρ 2).vs ((Js ns).map word) := h2
  have h2z : (ρ 2).vs.size = (Js ns).length := by rw [h2.size, List.length_map]
  refine ⟨creq (A := A3 ρ) (by rw [h1z]; unfold dws; rw [List.length_map]; rfl) (by decide) fun D p s S => compa (q := true) h1 (by omega) S, fun h3 => ?_⟩
  have h3 : IA (ρ 3).vs ((dws ns).map (va true)) := h3
  have h3z : (ρ 3).vs.size = (dws ns).length := by rw [h3.size, List.length_map]
  refine ⟨Xlist_mono (addl_req (by rw [h3z]; show 2 + _ ≤ _; omega)) fun us e => ?_, fun h4 => ?_⟩
  · subst e
    exact IA.append (ns := [0, 2]) (.cons 0 _ (.cons 2 _ .nil)) h3
  have h4 : IA (ρ 4).vs (adds ns) := h4
  have al : (adds ns).length ≤ 10 := by unfold adds; simp; omega
  refine ⟨creq (A := A5 ρ) (nz h4 (by unfold adds; simp)) (by decide) fun D p s S => ?_, fun h5 => ?_⟩
  · have := compH (B := x) (D := D) (p := p) h4 (by omega) (by rw [h2z]; omega) (by rw [h2z]; omega) S
    rw [h2z] at this
    exact this
  have h5 : IA (ρ 5).vs (homes ns) := h5
  have h5z := h5.size
  refine ⟨Join.req (f := true) h2 jn9 (by omega) (by decide), fun _ => ⟨hFrs, split_reqG (Split.req jn9 (by omega) (fun q => by rw [q] at jl; simp at jl) (Nat.le_trans (line_len _) (by omega)) (notf _ _ _ _)), fun h7 => ?_⟩⟩
  have h7 : SA (ρ 7).vs ((Js ns).map word) := h7
  refine ⟨neS_req h7 h2, fun _ => ?_⟩
  refine ⟨creq (A := A9 ρ) (nz h5 (by omega)) (by decide) fun D p s S => ?_, fun h9 => ?_⟩
  · have := compS (B := x) (D := D) (p := p) (hs := hsN ns) (sl := (Js ns).map word) (by rw [homes_nat]; exact h5) (by rw [hsN_len]; omega) h2 (fun h hh => by rw [List.length_map]; exact hsN_lt ns h hh) (by rw [List.length_map]; omega) S
    rw [names_eq] at this
    exact this
  have h9 : SA (ρ 9).vs ((J2 ns).map word) := h9
  have j2l := j2_len ns
  refine ⟨Join.req (f := false) h9 (j2_lt ns) (by omega) (by decide), fun _ => ⟨hFrs, split_reqG (Split.req (j2_lt ns) (by omega) (fun q => by rw [q] at j2l; simp at j2l; omega) (Nat.le_trans (line_len _) (by omega)) (notf _ _ _ _)), fun h11 => ?_⟩⟩
  have h11 : SA (ρ 11).vs ((J2 ns).map word) := h11
  refine ⟨creq (A := A12 ρ) (nzS h11 (by rw [List.length_map]; omega)) (by decide) fun D p s S => ?_, fun h12 => ?_⟩
  · have := compR (B := x) (D := D) (p := p) (K := Kf (Js ns)) h11 (by rw [List.length_map]; omega) h7 (kf_ok ns) S
    rw [places_eq] at this
    exact this
  have h12 : IA (ρ 12).vs (homes ns) := h12
  have h12z := h12.size
  refine ⟨neI_req h12 h5, fun _ => ?_⟩
  refine ⟨by rw [show (qm ns lo hi).H = ((ρ 2).vs.size : Int) by rw [h2z]; rfl]; exact len_req (by rw [h2z]; omega), fun _ => ?_⟩
  refine ⟨rng1_req, fun _ => ?_⟩
  refine ⟨listRng_req (by omega) (by omega) (by show -1000 < ((Js ns).length : Int); omega) (by show ((Js ns).length : Int) < 1000; omega), fun h16 => ?_⟩
  have h16 : IA (ρ 16).vs (houses ns) := h16
  refine ⟨for_req (A := A17 l ρ) (hl := houses ns) (ns := homes ns) h16 (by rw [houl]; omega) (fun i hi => upto_at hi) (by rw [houl]; omega) h5 h12 (by omega) rfl rfl, fun _ => ?_⟩
  refine ⟨med_int (Median.req (h := false) h12 (by omega) hne) (fun y hy => mid_uniq (by show ((homes ns).length - 1) / 2 < _; omega) hy hlo), fun _ => ?_⟩
  refine ⟨med_int (Median.req (h := true) h12 (by omega) hne) (fun y hy => mid_uniq (by show (homes ns).length / 2 < _; omega) hy hhi), fun _ => ?_⟩
  refine ⟨ureq (A := AU ρ) (by decide) (by rw [h16.size, houl]; omega) h16 (by rw [houl]; omega) h12 (by omega) (fun us h => ?_), fun h20 => ?_⟩
  · have := unbeaten_is (H := Hs ns) hne hin hlo hhi
    unfold houses at h
    rw [this] at h
    exact h
  have h20 : IA (ρ 20).vs (upto lo (hi + 1)) := h20
  have ulen : (upto lo (hi + 1)).length ≤ 12 := by rw [upto_len]; omega
  refine ⟨rng2_req, fun _ => ?_⟩
  refine ⟨listRng_req (by omega) (by omega) (by omega) (by omega), fun h22 => ?_⟩
  have h22 : IA (ρ 22).vs (upto lo (hi + 1)) := h22
  refine ⟨neI_req h20 h22, fun _ => ?_⟩
  refine ⟨creq (A := A24 ρ) (nz h16 (by rw [houl]; omega)) (by decide) fun D p s S => compM (B := x) h16 (by rw [houl]; omega) h5 S, fun h24 => ?_⟩
  have h24 : IA (ρ 24).vs (dwl ns) := h24
  refine ⟨hFrs, Sld.req (by decide) (Nat.le_trans dwlen (by omega)) (by omega) (dif_law (H := Hs ns) hne hin hlo hhi) h24 h20 (notf _ _ _ _), fun h25 => ?_⟩
  have h25 : IA (ρ 25).vs ((dwl ns).filter (fun v => decide (v < lo) || decide (v > hi))) ∧ IA (itemsO (ρ 25).o) (upto (lo + 1) hi) := h25
  refine ⟨creq (A := A26 ρ) (nz h24 ?_) (by decide) fun D p s S => compO (B := x) h24 (by omega) S, fun h26 => ?_⟩
  · refine List.length_pos_iff.mpr fun q => ?_
    have : lo ∈ dwl ns := List.mem_filter.mpr ⟨mem_upto.mpr ⟨lr.1, lr.2⟩, by simpa using hlo.1⟩
    rw [q] at this
    cases this
  have h26 : IA (ρ 26).vs ((dwl ns).filter (fun v => decide (v < lo) || decide (v > hi))) := h26
  refine ⟨eqI_req h25.1 h26, fun _ => ?_⟩
  refine ⟨rng2_req, fun _ => ?_⟩
  refine ⟨listRng_req (by omega) (by omega) (by omega) (by omega), fun h29 => ?_⟩
  exact ⟨eqI_req h25.2 h29, fun _ => trivial⟩
theorem law_goes {w : World} {a b : Bool} {s : Shared} {l : Addr} {vs : Array Value} {n : Nat} {ns : List Int} {D : Nat → CD × Pos} {p : Pos} (T : TopIn (wS w a b) s) (ht : s.heap.get? 773 = some (tab true 0)) (hls : s.heap.get? l = some (lstObj vs n)) (hv : IA vs ns) (hlow : 828 ≤ l) (hg : s.gens = #[]) :
    wpCode (MM (wS w a b)) (cx (callCode 827 [.ref l]) kL D) (LawEnds s) p s := by
  have hl := homes_len ns
  obtain ⟨lo, hlo⟩ := mid_ex (homes ns) (k := ((homes ns).length - 1) / 2) (by omega)
  obtain ⟨hi, hhi⟩ := mid_ex (homes ns) (k := (homes ns).length / 2) (by omega)
  let d : Dl := ⟨vs, n, D, p, s.toks⟩
  have F0 := fun ρ => factA w a b (xS s) l 0 d (qm ns lo hi) ρ
  unfold FactA sA cL at F0
  have hl7 : l ≠ 773 := fun q => by subst q; exact absurd hlow (by decide)
  refine sim_go (led := [(l, lstObj vs n), (773, tab true 0)]) spL (fun _ => .none) _ (XA w.params (xS s 0) (qm ns lo hi)) cEl _ [1, 0] F0 T ?_ (by simp [hl7]) ?_ hg (fun ρ => obs _ hv hlo hhi ρ) ?_
  · intro y hy
    simp at hy
    rcases hy with rfl | rfl
    · exact hls
    · exact ht
  · intro y hy
    simp at hy
    rcases hy with rfl | rfl
    · exact off_low (.inl hlow)
    · exact off_low (.inr rfl)
  · intro ρ s' p' hI G
    have C : Ch [773] s s' := by
      refine G.ch.less (L1 := [773]) (Rd := [(l, lstObj vs n)]) (fun y hy => by simp at hy; subst hy; exact hls) (fun y hy => by simp at hy; subst hy; exact G.led (l, lstObj vs n) (by simp [d])) (fun q hq => ?_)
      simp at hq ⊢
      rcases hq with h | h
      · exact .inr h
      · exact .inl h
    refine goes_done ⟨rfl, fun b' o hb hn => C.keep b' o hb (by simpa using hn), ⟨_, G.led (773, tab false (ρ 10).n) List.mem_cons_self⟩, C.os, ?_⟩
    rw [G.gens]
    intro y hy
    have : y = .finished := by
      have : y ∈ g2 := by simpa using hy
      simpa [g2] using this
    rw [this]; rfl
end Law
end Mine
end
noncomputable section
open PySem PySem.W PyProof.Rows
set_option maxRecDepth 100000
set_option maxHeartbeats 4000000
set_option linter.unusedVariables false
namespace Mine
theorem main : MainGoal := by
  intro w s a vs ns A p
  have key : ∀ a0 b0 : Bool, wS w a0 b0 = w → wpCode (MM w) (Γ₀.enter (.call (.ref 827) ⟨[.ref a], []⟩) none p) (LawEnds s) p s := by
    intro a0 b0 e
    have T : TopIn (wS w a0 b0) s := by rw [e]; exact A.top
    have h := Law.law_goes (w := w) (a := a0) (b := b0) (l := a) (vs := vs.toArray) (n := 0) (ns := ns) (D := fun _ => (⟨.Constant .none 0 default, [], default, default, 0, .none, .none, [], [], default, {}⟩, p)) (p := p) T A.tab A.lst (by unfold IA; simpa using A.areInts) A.low A.gens
    rw [e] at h
    exact h
  exact key _ _ (wS_self w)
theorem holds : PySem.Challenge.rw_oc0289_01.Holds := holds_of main
end Mine
end
theorem PySem.Challenge.cw_oc0289_01_holds : PySem.Challenge.rw_oc0289_01.Holds := by
  exact Mine.holds
