import PyProof.Rows.All
import Wide.All
import OpenK.AllK
import Wide.FinOn
import PySem.Challenge.RW_wk0025_01
set_option Elab.async false
set_option linter.unusedVariables false
set_option linter.unusedSimpArgs false

section
open PySem PySem.W PyProof.Rows PySem.Calls PySem.SeqAt
set_option maxRecDepth 100000
namespace Mine
open Builtin Builtin.Re
noncomputable def fnAt (i : Nat) : Stmt := PySem.Challenge.pw_wk0025_01.main.body.getD i (.Pass default)
noncomputable def bodyOf (i : Nat) : List Stmt := match fnAt i with
  | .FunctionDef _ _ b _ _ _ _ _ _ _ => b
  | _ => []
noncomputable def scopeOf (i : Nat) : Scope := match fnAt i with
  | .FunctionDef _ _ _ _ _ _ sc _ _ _ => sc
  | _ => default
noncomputable def paramsOf (i : Nat) : Arguments := match fnAt i with
  | .FunctionDef _ a _ _ _ _ _ _ _ _ => a
  | _ => default


noncomputable def fcode : Array Nat := #[14, 4, 0, 8, 4294967295, 24, 5, 0, 4294967295, 2, 1, 16, 70, 16, 76, 16, 65, 16, 71, 16, 83, 16, 32, 16, 40, 17, 0, 24, 6, 0, 4294967295, 20, 41, 1, 17, 1, 16, 41, 1]

noncomputable def dcode : Array Nat := #[14, 4, 0, 1, 1, 6, 1, 16, 46, 1]

noncomputable def ecode : Array Nat := #[14, 9, 4, 1, 2, 16, 10, 16, 13, 0, 7, 7, 16, 13, 16, 10, 15, 18, 5, 16, 10, 15, 13, 11, 16, 13, 5, 5, 0, 16, 10, 1, 15, 2, 0, 1]
noncomputable def kept0 : Sre.Kept := { lastmark := -1, lastindex := -1 }

noncomputable def isNone : Value → Bool
  | .none => true
  | _ => false
noncomputable def fnLook (K : Frag) (f : Addr) : Option (FuncBody × Scope × Arguments) := match K.lookup f with
  | some ⟨_, _, .func fd, _⟩ => if codeIn K fd.code fd.qualname && fd.closure.isEmpty && fd.globals == mainGlobals && fd.builtins == builtinsNs && isNone fd.defaults && isNone fd.kwdefaults then some (fd.body, fd.scope, fd.params) else none
  | _ => none

/-- a pattern, looked up -/
noncomputable def patLook (K : Frag) (P : Addr) : Option (Nat × Nat × Value × List Nat) := match K.lookup P with
  | some ⟨.type "re.Pattern", none, .fields fs, _⟩ => (match fs.getD 5 .none with
    | .ref C => (match K.lookup C with
      | some ⟨.type "tuple", _, .seq its _, _⟩ => some (reRawNat (fs.getD 6 .none), reRawNat (fs.getD 2 .none), fs.getD 3 .none, (its.toList.map reRawOf).map (·.toNat))
      | _ => none)
    | _ => none)
  | _ => none

/-- a dict of the text's, looked up -/
noncomputable def dictLook (K : Frag) (a : Addr) : Option (List DictEntry × Nat) := match K.lookup a with
  | some ⟨.type "dict", none, .dict es n, sl⟩ => if sl.isEmpty then some (es.toList, n) else none
  | _ => none
noncomputable def keyOf (e : DictEntry) : Option (PySem.Str × Int) := match e.key with
  | .str x _ => some (x, e.hash)
  | _ => none
noncomputable def keysA (K : Frag) (a : Addr) : Option (List (Option (PySem.Str × Int))) := (dictLook K a).map fun x => x.1.map keyOf
noncomputable def keysOf (P : Params) (l : List PySem.Str) : List (Option (PySem.Str × Int)) := l.map fun x => some (x, PyData.keyHash P x)

noncomputable def bookLook (K : Frag) : Bool := match K.lookup cStatics with
  | some ⟨_, _, .dict es _, _⟩ => (es.toList.all fun e => (keyOf e).isSome) && (nsFind es sharingNotToldKey).isNone
  | _ => false

noncomputable def fnList : List (PySem.Str × Addr × Nat) :=
  [("Int2AP", 43, 3), ("ParseFlags", 50, 4), ("and_", 57, 6), ("lshift", 64, 7), ("contains", 71, 8), ("indexOf", 78, 9), ("ior", 85, 10), ("_quote_periods", 102, 15), ("_fix_eols", 109, 16),
   ("ISTERMINAL", 119, 69), ("ISNONTERMINAL", 126, 70), ("ISEOF", 133, 71), ("_law_drawn", 140, 73), ("_law_heard", 145, 74), ("_law_pile", 152, 75), ("_law_empty", 159, 76), ("_law_put", 164, 77),
   ("_law_left", 169, 78), ("_law_behind", 176, 79), ("_law_led", 181, 80), ("_law_spots", 188, 81), ("law", 193, 82)]

noncomputable def bareList : List PySem.Str := ["enumerate", "range", "zip", "tuple", "int", "len", "abs", "divmod"]

noncomputable def intNames : List (PySem.Str × Value) := [("NT_OFFSET", .int 256 571), ("ENDMARKER", .int 0 473), ("CRLF", .str ⟨#[13, 10]⟩ 455), ("Flags", .ref 36), ("_twin_re_1", .ref 90), ("_twin_re_2", .ref 95), ("EXACT_TOKEN_TYPES", .ref 110)]
noncomputable def opList : List (PySem.Str × Value) := [(".", .int 23 507), ("|", .int 18 497), ("*", .int 16 493), ("<", .int 20 501), (">", .int 21 503)]

/-! ## A head of its own: what is looked at behind the top -/
noncomputable abbrev lp : Program := PySem.Challenge.pw_wk0025_01
/-- what is read: the objects of some places -/
noncomputable def kAt (h : Heap) : List Addr → Frag
  | [] => []
  | a :: r => match h.get? a with
    | some o => (a, o) :: kAt h r
    | none => kAt h r
noncomputable def lAs : List Addr := [2, 3, 33, 35, 36, 42, 43, 49, 50, 56, 57, 63, 64, 70, 71, 77, 78, 84, 85, 89, 90, 94, 95, 101, 102, 108, 109, 110, 118, 119, 125, 126, 132, 133, 139, 140, 144, 145, 151, 152, 158, 159, 163, 164, 168, 169, 175, 176, 180, 181, 187, 188, 192, 193]
/-- the names of the table's keys, as the text writes them -/
noncomputable def strOf : Expr → Option PySem.Str
  | .Constant (.str x) _ _ => some x
  | _ => none
noncomputable def dictKeys : Stmt → List PySem.Str
  | .Assign _ (.Dict ks _ _) _ => ks.filterMap fun k => k.bind strOf
  | _ => []
noncomputable def opNames : List PySem.Str := lp.main.body.flatMap dictKeys
noncomputable abbrev LYt : Type := List (Option (Option Value) × Option (FuncBody × Scope × Arguments)) × List (Option (Option Value)) × List (Option (Option Value)) × List (Option (Nat × Nat × Value × List Nat)) × Option (List (Option (PySem.Str × Int))) × Option (List (Option (PySem.Str × Int))) × Option (Option Value) × List (Option (Option Value)) × Bool
noncomputable def lYK (K : Frag) (n : Nat) : LYt :=
  (fnList.map fun q => (nsIn K mainGlobals q.1, fnLook K q.2.1), bareList.map fun x => nsIn K mainGlobals x, intNames.map fun q => nsIn K mainGlobals q.1, [patLook K 36, patLook K 90, patLook K 95], keysA K 33, keysA K 110, nsIn K 33 "flags", opList.map fun q => nsIn K 110 q.1,
    bookLook K && Nat.ble 772 n)
noncomputable def lYf (s : Shared) : LYt := lYK (kAt s.heap lAs) s.toks
noncomputable def lYa (w : World) : LYt :=
  (fnList.map fun q => (some (some (.ref q.2.1)), some (.stmts (bodyOf q.2.2), scopeOf q.2.2, paramsOf q.2.2)), bareList.map fun _ => some none, intNames.map fun q => some (some q.2),
    [some (1, 1, .ref 33, fcode.toList), some (1, 0, .none, dcode.toList), some (0, 0, .none, ecode.toList)], some (keysOf w.params ["flags"]), some (keysOf w.params opNames), some (some (.int 1 328)), opList.map fun q => some (some q.2), true)
/-- the view: the law alone -/
noncomputable def lq : Program := view lp [82]
noncomputable def lloose : List PySem.Str := (lp.main.scope.names.map (·.1)).filter fun x => !(x == "law")
noncomputable def lXt (s : Shared) : Bool := recOk [] s
end Mine
end

section
open PySem PySem.W PyProof.Rows PySem.Calls PySem.SeqAt
set_option maxRecDepth 100000
namespace Mine

/-! ## Four states of the top, written out (printed by wip/states.lean) -/
noncomputable def nE (P : Params) (x : PySem.Str) (t : Tok) (v : Value) : DictEntry := ⟨PyData.keyHash P x, .str x t, v⟩
noncomputable def oba0 (P : Params) : Obj := ⟨(.type "dict"), none, (.dict #[nE P "__name__" 1 (.str "builtins" 160), nE P "__doc__" 2 (.builtin "builtins.__doc__:str#opaque"), nE P "__package__" 3 (.builtin "builtins.__package__:str#opaque"), nE P "__loader__" 4 (.builtin "builtins.__loader__:shared#opaque"), nE P "__spec__" 5 (.builtin "builtins.__spec__#opaque"), nE P "__build_class__" 6 (.builtin "__build_class__"), nE P "__import__" 7 (.builtin "__import__"), nE P "abs" 8 (.builtin "abs"), nE P "all" 9 (.builtin "all"), nE P "any" 10 (.builtin "any"), nE P "ascii" 11 (.builtin "ascii"), nE P "bin" 12 (.builtin "bin"), nE P "breakpoint" 13 (.builtin "breakpoint"), nE P "callable" 14 (.builtin "callable"), nE P "chr" 15 (.builtin "chr"), nE P "compile" 16 (.builtin "compile"), nE P "delattr" 17 (.builtin "delattr"), nE P "dir" 18 (.builtin "dir"), nE P "divmod" 19 (.builtin "divmod"), nE P "eval" 20 (.builtin "eval"), nE P "exec" 21 (.builtin "exec"), nE P "format" 22 (.builtin "format"), nE P "getattr" 23 (.builtin "getattr"), nE P "globals" 24 (.builtin "globals"), nE P "hasattr" 25 (.builtin "hasattr"), nE P "hash" 26 (.builtin "hash"), nE P "hex" 27 (.builtin "hex"), nE P "id" 28 (.builtin "id"), nE P "input" 29 (.builtin "input"), nE P "isinstance" 30 (.builtin "isinstance"), nE P "issubclass" 31 (.builtin "issubclass"), nE P "iter" 32 (.builtin "iter"), nE P "aiter" 33 (.builtin "aiter"), nE P "len" 34 (.builtin "len"), nE P "locals" 35 (.builtin "locals"), nE P "max" 36 (.builtin "max"), nE P "min" 37 (.builtin "min"), nE P "next" 38 (.builtin "next"), nE P "anext" 39 (.builtin "anext"), nE P "oct" 40 (.builtin "oct"), nE P "ord" 41 (.builtin "ord"), nE P "pow" 42 (.builtin "pow"), nE P "print" 43 (.builtin "print"), nE P "repr" 44 (.builtin "repr"), nE P "round" 45 (.builtin "round"), nE P "setattr" 46 (.builtin "setattr"), nE P "sorted" 47 (.builtin "sorted"), nE P "sum" 48 (.builtin "sum"), nE P "vars" 49 (.builtin "vars"), nE P "None" 50 .none, nE P "Ellipsis" 51 .ellipsis, nE P "NotImplemented" 52 .notImplemented, nE P "False" 53 (.bool false), nE P "True" 54 (.bool true), nE P "bool" 55 (.type "bool"), nE P "memoryview" 56 (.type "memoryview"), nE P "bytearray" 57 (.type "bytearray"), nE P "bytes" 58 (.type "bytes"), nE P "classmethod" 59 (.type "classmethod"), nE P "complex" 60 (.type "complex"), nE P "dict" 61 (.type "dict"), nE P "enumerate" 62 (.type "enumerate"), nE P "filter" 63 (.type "filter"), nE P "float" 64 (.type "float"), nE P "frozenset" 65 (.type "frozenset"), nE P "property" 66 (.type "property"), nE P "int" 67 (.type "int"), nE P "list" 68 (.type "list"), nE P "map" 69 (.type "map"), nE P "object" 70 (.type "object"), nE P "range" 71 (.type "range"), nE P "reversed" 72 (.type "reversed"), nE P "set" 73 (.type "set"), nE P "slice" 74 (.type "slice"), nE P "staticmethod" 75 (.type "staticmethod"), nE P "str" 76 (.type "str"), nE P "super" 77 (.type "super"), nE P "tuple" 78 (.type "tuple"), nE P "type" 79 (.type "type"), nE P "zip" 80 (.type "zip"), nE P "__debug__" 81 (.bool true), nE P "BaseException" 82 (.type "BaseException"), nE P "BaseExceptionGroup" 83 (.type "BaseExceptionGroup"), nE P "Exception" 84 (.type "Exception"), nE P "GeneratorExit" 85 (.type "GeneratorExit"), nE P "KeyboardInterrupt" 86 (.type "KeyboardInterrupt"), nE P "SystemExit" 87 (.type "SystemExit"), nE P "ArithmeticError" 88 (.type "ArithmeticError"), nE P "AssertionError" 89 (.type "AssertionError"), nE P "AttributeError" 90 (.type "AttributeError"), nE P "BufferError" 91 (.type "BufferError"), nE P "EOFError" 92 (.type "EOFError"), nE P "ImportError" 93 (.type "ImportError"), nE P "LookupError" 94 (.type "LookupError"), nE P "MemoryError" 95 (.type "MemoryError"), nE P "NameError" 96 (.type "NameError"), nE P "OSError" 97 (.type "OSError"), nE P "ReferenceError" 98 (.type "ReferenceError"), nE P "RuntimeError" 99 (.type "RuntimeError"), nE P "StopAsyncIteration" 100 (.type "StopAsyncIteration"), nE P "StopIteration" 101 (.type "StopIteration"), nE P "SyntaxError" 102 (.type "SyntaxError"), nE P "SystemError" 103 (.type "SystemError"), nE P "TypeError" 104 (.type "TypeError"), nE P "ValueError" 105 (.type "ValueError"), nE P "Warning" 106 (.type "Warning"), nE P "FloatingPointError" 107 (.type "FloatingPointError"), nE P "OverflowError" 108 (.type "OverflowError"), nE P "ZeroDivisionError" 109 (.type "ZeroDivisionError"), nE P "BytesWarning" 110 (.type "BytesWarning"), nE P "DeprecationWarning" 111 (.type "DeprecationWarning"), nE P "EncodingWarning" 112 (.type "EncodingWarning"), nE P "FutureWarning" 113 (.type "FutureWarning"), nE P "ImportWarning" 114 (.type "ImportWarning"), nE P "PendingDeprecationWarning" 115 (.type "PendingDeprecationWarning"), nE P "ResourceWarning" 116 (.type "ResourceWarning"), nE P "RuntimeWarning" 117 (.type "RuntimeWarning"), nE P "SyntaxWarning" 118 (.type "SyntaxWarning"), nE P "UnicodeWarning" 119 (.type "UnicodeWarning"), nE P "UserWarning" 120 (.type "UserWarning"), nE P "BlockingIOError" 121 (.type "BlockingIOError"), nE P "ChildProcessError" 122 (.type "ChildProcessError"), nE P "ConnectionError" 123 (.type "ConnectionError"), nE P "FileExistsError" 124 (.type "FileExistsError"), nE P "FileNotFoundError" 125 (.type "FileNotFoundError"), nE P "InterruptedError" 126 (.type "InterruptedError"), nE P "IsADirectoryError" 127 (.type "IsADirectoryError"), nE P "NotADirectoryError" 128 (.type "NotADirectoryError"), nE P "PermissionError" 129 (.type "PermissionError"), nE P "ProcessLookupError" 130 (.type "ProcessLookupError"), nE P "TimeoutError" 131 (.type "TimeoutError"), nE P "IndentationError" 132 (.type "IndentationError"), nE P "_IncompleteInputError" 133 (.type "_IncompleteInputError"), nE P "IndexError" 134 (.type "IndexError"), nE P "KeyError" 135 (.type "KeyError"), nE P "ModuleNotFoundError" 136 (.type "ModuleNotFoundError"), nE P "NotImplementedError" 137 (.type "NotImplementedError"), nE P "PythonFinalizationError" 138 (.type "PythonFinalizationError"), nE P "RecursionError" 139 (.type "RecursionError"), nE P "UnboundLocalError" 140 (.type "UnboundLocalError"), nE P "UnicodeError" 141 (.type "UnicodeError"), nE P "BrokenPipeError" 142 (.type "BrokenPipeError"), nE P "ConnectionAbortedError" 143 (.type "ConnectionAbortedError"), nE P "ConnectionRefusedError" 144 (.type "ConnectionRefusedError"), nE P "ConnectionResetError" 145 (.type "ConnectionResetError"), nE P "TabError" 146 (.type "TabError"), nE P "UnicodeDecodeError" 147 (.type "UnicodeDecodeError"), nE P "UnicodeEncodeError" 148 (.type "UnicodeEncodeError"), nE P "UnicodeTranslateError" 149 (.type "UnicodeTranslateError"), nE P "ExceptionGroup" 150 (.type "ExceptionGroup"), nE P "EnvironmentError" 151 (.type "OSError"), nE P "IOError" 152 (.type "OSError"), nE P "open" 153 (.builtin "open"), nE P "quit" 154 (.builtin "builtins.quit#opaque"), nE P "exit" 155 (.builtin "builtins.exit#opaque"), nE P "copyright" 156 (.builtin "builtins.copyright#opaque"), nE P "credits" 157 (.builtin "builtins.credits#opaque"), nE P "license" 158 (.builtin "builtins.license#opaque"), nE P "help" 159 (.builtin "builtins.help#opaque")] 159), #[]⟩
noncomputable def oba1 (P : Params) : Obj := ⟨(.type "dict"), none, (.dict #[nE P "builtins" 162 (.ref 4), nE P "__main__" 163 (.ref 5), nE P "_sre" 244 (.ref 12)] 3), #[]⟩
noncomputable def oba2 (P : Params) : Obj := ⟨.none, none, (.dict #[nE P ⟨#[105, 109, 112, 111, 114, 116, 46, 108, 111, 97, 100, 101, 100, 46, 95, 115, 114, 101]⟩ 183 (.bool true), nE P "class._frozen_importlib.BuiltinImporter" 185 (.ref 14), nE P ⟨#[119, 97, 116, 99, 104, 101, 100, 46, 105, 109, 112, 111, 114, 116]⟩ 206 (.ref 18), nE P "class._frozen_importlib.ModuleSpec" 216 (.ref 22), nE P "sys.modules.booked-epoch" 245 (.int 3 0), nE P ⟨#[105, 109, 112, 111, 114, 116, 46, 108, 97, 116, 101, 114, 45, 108, 97, 105, 100, 46, 95, 115, 114, 101]⟩ 270 (.bool true), nE P "watched.library" 272 (.ref 27), nE P "watched.library-objects" 0 (.str ⟨#[12]⟩ 0), nE P "watched.library-deep._sre" 273 (.str ⟨#[4, 0, 0, 11, 4, 0, 0, 11, 4, 0, 0, 3, 4, 0, 0, 11, 8, 4, 100, 105, 99, 116, 2]⟩ 0)] 9), #[]⟩
noncomputable def oba3 (P : Params) : Obj := ⟨(.type "dict"), none, (.dict #[nE P "__name__" 165 (.str "__main__" 164), nE P "__doc__" 166 .none, nE P "__package__" 167 .none, nE P "__loader__" 168 (.builtin "__main__.__loader__#opaque"), nE P "__spec__" 169 .none, nE P "__annotations__" 170 (.ref 6), nE P "__builtins__" 171 (.ref 4), nE P "__file__" 173 (.str "/claim/cut.py" 172), nE P "__cached__" 174 .none, nE P "_sre" 275 (.ref 12)] 10), #[]⟩
noncomputable def oba4 (P : Params) : Obj := ⟨(.type "module"), (some 0), .plain, #[]⟩
noncomputable def oba5 (P : Params) : Obj := ⟨(.type "module"), (some 3), .plain, #[]⟩
noncomputable def oba6 (P : Params) : Obj := ⟨(.type "dict"), none, (.dict #[] 0), #[]⟩
noncomputable def oba7 (P : Params) : Obj := ⟨(.type "tuple"), none, (.seq #[] 0), #[]⟩
noncomputable def oba8 (P : Params) : Obj := ⟨.none, none, (.fields #[]), #[]⟩
noncomputable def oba9 (P : Params) : Obj := ⟨(.type "code"), none, (.fields #[(.str "<module>" 176), (.str "<module>" 177), (.str "/claim/cut.py" 178), (.int 1 0), (.int 0 0), (.int 0 0), (.int 0 0), (.int 0 0), (.ref 7), (.bool false), (.int 175 0), (.ref 8), .none, .none, .none, .none, (.int 179 0), (.int 1 0), (.str "/claim/cut.py" 180)]), #[]⟩
noncomputable def oba10 (P : Params) : Obj := ⟨(.type "frame"), none, .plain, #[(some (.ref 9)), (some (.ref 3)), (some (.ref 3)), none, (some (.str "__main__" 164)), none, (some (.ref 0))]⟩
noncomputable def oba11 (P : Params) : Obj := ⟨(.type "dict"), none, (.dict #[nE P "__name__" 247 (.str "_sre" 246), nE P "__doc__" 248 .none, nE P "__package__" 250 (.str "" 249), nE P "__loader__" 251 (.builtin "off-the-table:_sre.__loader__:shared#opaque"), nE P "__spec__" 252 (.builtin "off-the-table:_sre.__spec__:shared#opaque"), nE P "compile" 253 (.builtin "_sre.compile"), nE P "template" 254 (.builtin "off-the-table:_sre.template:shared#opaque"), nE P "getcodesize" 255 (.builtin "off-the-table:_sre.getcodesize:shared#opaque"), nE P "ascii_iscased" 256 (.builtin "off-the-table:_sre.ascii_iscased:shared#opaque"), nE P "unicode_iscased" 257 (.builtin "off-the-table:_sre.unicode_iscased:shared#opaque"), nE P "ascii_tolower" 258 (.builtin "off-the-table:_sre.ascii_tolower:shared#opaque"), nE P "unicode_tolower" 259 (.builtin "off-the-table:_sre.unicode_tolower:shared#opaque"), nE P "MAGIC" 261 (.int 20230612 260), nE P "CODESIZE" 263 (.int 4 262), nE P "MAXREPEAT" 265 (.int 4294967295 264), nE P "MAXGROUPS" 267 (.int 1073741823 266), nE P "copyright" 269 (.str " SRE 2.2.2 Copyright (c) 1997-2002 by Secret Labs AB " 268)] 17), #[]⟩
noncomputable def oba12 (P : Params) : Obj := ⟨(.type "module"), (some 11), .plain, #[]⟩
noncomputable def oba13 (P : Params) : Obj := ⟨(.type "dict"), none, (.dict #[nE P "__module__" 189 (.str "_frozen_importlib" 186), nE P "__firstlineno__" 190 (.int 971 187), nE P "__doc__" 191 (.builtin "_frozen_importlib.BuiltinImporter.__doc__:str#opaque"), nE P "_ORIGIN" 192 (.str "built-in" 188), nE P "find_spec" 193 (.builtin "_frozen_importlib.BuiltinImporter.find_spec#opaque"), nE P "create_module" 194 (.builtin "_frozen_importlib.BuiltinImporter.create_module#opaque"), nE P "exec_module" 195 (.builtin "_frozen_importlib.BuiltinImporter.exec_module#opaque"), nE P "get_code" 196 (.builtin "_frozen_importlib.BuiltinImporter.get_code#opaque"), nE P "get_source" 197 (.builtin "_frozen_importlib.BuiltinImporter.get_source#opaque"), nE P "is_package" 198 (.builtin "_frozen_importlib.BuiltinImporter.is_package#opaque"), nE P "load_module" 199 (.builtin "_frozen_importlib.BuiltinImporter.load_module#opaque"), nE P "__static_attributes__" 200 (.ref 15), nE P "__dict__" 202 (.ref 16), nE P "__weakref__" 204 (.ref 17)] 14), #[]⟩
noncomputable def oba14 (P : Params) : Obj := ⟨(.type "type"), none, (.cls ⟨"BuiltinImporter", [(.type "object")], [(.ref 14), (.type "object")], 13, "BuiltinImporter", true, [], [], false, none, false⟩), #[]⟩
noncomputable def oba15 (P : Params) : Obj := ⟨(.type "tuple"), none, (.seq #[] 0), #[]⟩
noncomputable def oba16 (P : Params) : Obj := ⟨(.type "getset_descriptor"), none, (.fields #[(.str "__dict__" 201), (.ref 14), (.builtin "function.__dict__"), (.builtin "function.__dict__#set")]), #[]⟩
noncomputable def oba17 (P : Params) : Obj := ⟨(.type "getset_descriptor"), none, (.fields #[(.str "__weakref__" 203), (.ref 14), (.builtin "ExceptionGroup.__weakref__"), .none]), #[]⟩
noncomputable def oba18 (P : Params) : Obj := ⟨.none, none, (.seq #[(.int 13 0), (.str ⟨#[6, 189, 10, 95, 95, 109, 111, 100, 117, 108, 101, 95, 95, 6, 186, 17, 95, 102, 114, 111, 122, 101, 110, 95, 105, 109, 112, 111, 114, 116, 108, 105, 98, 6, 190, 15, 95, 95, 102, 105, 114, 115, 116, 108, 105, 110, 101, 110, 111, 95, 95, 4, 187, 0, 971, 6, 191, 7, 95, 95, 100, 111, 99, 95, 95, 9, 52, 95, 102, 114, 111, 122, 101, 110, 95, 105, 109, 112, 111, 114, 116, 108, 105, 98, 46, 66, 117, 105, 108, 116, 105, 110, 73, 109, 112, 111, 114, 116, 101, 114, 46, 95, 95, 100, 111, 99, 95, 95, 58, 115, 116, 114, 35, 111, 112, 97, 113, 117, 101, 6, 192, 7, 95, 79, 82, 73, 71, 73, 78, 6, 188, 8, 98, 117, 105, 108, 116, 45, 105, 110, 6, 193, 9, 102, 105, 110, 100, 95, 115, 112, 101, 99, 9, 50, 95, 102, 114, 111, 122, 101, 110, 95, 105, 109, 112, 111, 114, 116, 108, 105, 98, 46, 66, 117, 105, 108, 116, 105, 110, 73, 109, 112, 111, 114, 116, 101, 114, 46, 102, 105, 110, 100, 95, 115, 112, 101, 99, 35, 111, 112, 97, 113, 117, 101, 6, 194, 13, 99, 114, 101, 97, 116, 101, 95, 109, 111, 100, 117, 108, 101, 9, 54, 95, 102, 114, 111, 122, 101, 110, 95, 105, 109, 112, 111, 114, 116, 108, 105, 98, 46, 66, 117, 105, 108, 116, 105, 110, 73, 109, 112, 111, 114, 116, 101, 114, 46, 99, 114, 101, 97, 116, 101, 95, 109, 111, 100, 117, 108, 101, 35, 111, 112, 97, 113, 117, 101, 6, 195, 11, 101, 120, 101, 99, 95, 109, 111, 100, 117, 108, 101, 9, 52, 95, 102, 114, 111, 122, 101, 110, 95, 105, 109, 112, 111, 114, 116, 108, 105, 98, 46, 66, 117, 105, 108, 116, 105, 110, 73, 109, 112, 111, 114, 116, 101, 114, 46, 101, 120, 101, 99, 95, 109, 111, 100, 117, 108, 101, 35, 111, 112, 97, 113, 117, 101, 6, 196, 8, 103, 101, 116, 95, 99, 111, 100, 101, 9, 49, 95, 102, 114, 111, 122, 101, 110, 95, 105, 109, 112, 111, 114, 116, 108, 105, 98, 46, 66, 117, 105, 108, 116, 105, 110, 73, 109, 112, 111, 114, 116, 101, 114, 46, 103, 101, 116, 95, 99, 111, 100, 101, 35, 111, 112, 97, 113, 117, 101, 6, 197, 10, 103, 101, 116, 95, 115, 111, 117, 114, 99, 101, 9, 51, 95, 102, 114, 111, 122, 101, 110, 95, 105, 109, 112, 111, 114, 116, 108, 105, 98, 46, 66, 117, 105, 108, 116, 105, 110, 73, 109, 112, 111, 114, 116, 101, 114, 46, 103, 101, 116, 95, 115, 111, 117, 114, 99, 101, 35, 111, 112, 97, 113, 117, 101, 6, 198, 10, 105, 115, 95, 112, 97, 99, 107, 97, 103, 101, 9, 51, 95, 102, 114, 111, 122, 101, 110, 95, 105, 109, 112, 111, 114, 116, 108, 105, 98, 46, 66, 117, 105, 108, 116, 105, 110, 73, 109, 112, 111, 114, 116, 101, 114, 46, 105, 115, 95, 112, 97, 99, 107, 97, 103, 101, 35, 111, 112, 97, 113, 117, 101, 6, 199, 11, 108, 111, 97, 100, 95, 109, 111, 100, 117, 108, 101, 9, 52, 95, 102, 114, 111, 122, 101, 110, 95, 105, 109, 112, 111, 114, 116, 108, 105, 98, 46, 66, 117, 105, 108, 116, 105, 110, 73, 109, 112, 111, 114, 116, 101, 114, 46, 108, 111, 97, 100, 95, 109, 111, 100, 117, 108, 101, 35, 111, 112, 97, 113, 117, 101, 6, 200, 21, 95, 95, 115, 116, 97, 116, 105, 99, 95, 97, 116, 116, 114, 105, 98, 117, 116, 101, 115, 95, 95, 4, 0, 0, 15, 6, 202, 8, 95, 95, 100, 105, 99, 116, 95, 95, 4, 0, 0, 16, 6, 204, 11, 95, 95, 119, 101, 97, 107, 114, 101, 102, 95, 95, 4, 0, 0, 17]⟩ 0), (.bool true), (.bool true), (.str "" 205), (.int 21 0), (.str ⟨#[6, 227, 10, 95, 95, 109, 111, 100, 117, 108, 101, 95, 95, 6, 217, 17, 95, 102, 114, 111, 122, 101, 110, 95, 105, 109, 112, 111, 114, 116, 108, 105, 98, 6, 228, 15, 95, 95, 102, 105, 114, 115, 116, 108, 105, 110, 101, 110, 111, 95, 95, 4, 218, 0, 562, 6, 229, 7, 95, 95, 100, 111, 99, 95, 95, 9, 47, 95, 102, 114, 111, 122, 101, 110, 95, 105, 109, 112, 111, 114, 116, 108, 105, 98, 46, 77, 111, 100, 117, 108, 101, 83, 112, 101, 99, 46, 95, 95, 100, 111, 99, 95, 95, 58, 115, 116, 114, 35, 111, 112, 97, 113, 117, 101, 6, 230, 8, 95, 95, 105, 110, 105, 116, 95, 95, 9, 44, 95, 102, 114, 111, 122, 101, 110, 95, 105, 109, 112, 111, 114, 116, 108, 105, 98, 46, 77, 111, 100, 117, 108, 101, 83, 112, 101, 99, 46, 95, 95, 105, 110, 105, 116, 95, 95, 35, 111, 112, 97, 113, 117, 101, 6, 231, 8, 95, 95, 114, 101, 112, 114, 95, 95, 9, 44, 95, 102, 114, 111, 122, 101, 110, 95, 105, 109, 112, 111, 114, 116, 108, 105, 98, 46, 77, 111, 100, 117, 108, 101, 83, 112, 101, 99, 46, 95, 95, 114, 101, 112, 114, 95, 95, 35, 111, 112, 97, 113, 117, 101, 6, 232, 6, 95, 95, 101, 113, 95, 95, 9, 42, 95, 102, 114, 111, 122, 101, 110, 95, 105, 109, 112, 111, 114, 116, 108, 105, 98, 46, 77, 111, 100, 117, 108, 101, 83, 112, 101, 99, 46, 95, 95, 101, 113, 95, 95, 35, 111, 112, 97, 113, 117, 101, 6, 233, 6, 99, 97, 99, 104, 101, 100, 9, 42, 95, 102, 114, 111, 122, 101, 110, 95, 105, 109, 112, 111, 114, 116, 108, 105, 98, 46, 77, 111, 100, 117, 108, 101, 83, 112, 101, 99, 46, 99, 97, 99, 104, 101, 100, 35, 111, 112, 97, 113, 117, 101, 6, 234, 6, 112, 97, 114, 101, 110, 116, 9, 42, 95, 102, 114, 111, 122, 101, 110, 95, 105, 109, 112, 111, 114, 116, 108, 105, 98, 46, 77, 111, 100, 117, 108, 101, 83, 112, 101, 99, 46, 112, 97, 114, 101, 110, 116, 35, 111, 112, 97, 113, 117, 101, 6, 235, 12, 104, 97, 115, 95, 108, 111, 99, 97, 116, 105, 111, 110, 9, 48, 95, 102, 114, 111, 122, 101, 110, 95, 105, 109, 112, 111, 114, 116, 108, 105, 98, 46, 77, 111, 100, 117, 108, 101, 83, 112, 101, 99, 46, 104, 97, 115, 95, 108, 111, 99, 97, 116, 105, 111, 110, 35, 111, 112, 97, 113, 117, 101, 6, 236, 21, 95, 95, 115, 116, 97, 116, 105, 99, 95, 97, 116, 116, 114, 105, 98, 117, 116, 101, 115, 95, 95, 4, 0, 0, 23, 6, 238, 8, 95, 95, 100, 105, 99, 116, 95, 95, 4, 0, 0, 24, 6, 240, 11, 95, 95, 119, 101, 97, 107, 114, 101, 102, 95, 95, 4, 0, 0, 25, 6, 241, 8, 95, 95, 104, 97, 115, 104, 95, 95, 0]⟩ 0), (.bool true), (.bool true), (.str "" 242)] 1), #[]⟩
noncomputable def oba19 (P : Params) : Obj := ⟨(.type "list"), none, (.seq #[] 0), #[]⟩
noncomputable def oba20 (P : Params) : Obj := ⟨(.type "dict"), none, (.dict #[nE P "name" 208 (.str "_sre" 207), nE P "loader" 209 (.ref 14), nE P "origin" 210 (.str "built-in" 184), nE P "loader_state" 211 .none, nE P "submodule_search_locations" 212 .none, nE P "_uninitialized_submodules" 213 (.ref 19), nE P "_set_fileattr" 214 (.bool false), nE P "_cached" 215 .none, nE P "_initializing" 243 (.bool false)] 9), #[]⟩
noncomputable def oba21 (P : Params) : Obj := ⟨(.type "dict"), none, (.dict #[nE P "__module__" 227 (.str "_frozen_importlib" 217), nE P "__firstlineno__" 228 (.int 562 218), nE P "__doc__" 229 (.builtin "_frozen_importlib.ModuleSpec.__doc__:str#opaque"), nE P "__init__" 230 (.builtin "_frozen_importlib.ModuleSpec.__init__#opaque"), nE P "__repr__" 231 (.builtin "_frozen_importlib.ModuleSpec.__repr__#opaque"), nE P "__eq__" 232 (.builtin "_frozen_importlib.ModuleSpec.__eq__#opaque"), nE P "cached" 233 (.builtin "_frozen_importlib.ModuleSpec.cached#opaque"), nE P "parent" 234 (.builtin "_frozen_importlib.ModuleSpec.parent#opaque"), nE P "has_location" 235 (.builtin "_frozen_importlib.ModuleSpec.has_location#opaque"), nE P "__static_attributes__" 236 (.ref 23), nE P "__dict__" 238 (.ref 24), nE P "__weakref__" 240 (.ref 25), nE P "__hash__" 241 .none] 13), #[]⟩
noncomputable def oba22 (P : Params) : Obj := ⟨(.type "type"), none, (.cls ⟨"ModuleSpec", [(.type "object")], [(.ref 22), (.type "object")], 21, "ModuleSpec", true, [], [], false, none, false⟩), #[]⟩
noncomputable def oba23 (P : Params) : Obj := ⟨(.type "tuple"), none, (.seq #[(.str "_cached" 219), (.str "_set_fileattr" 220), (.str "_uninitialized_submodules" 221), (.str "loader" 222), (.str "loader_state" 223), (.str "name" 224), (.str "origin" 225), (.str "submodule_search_locations" 226)] 0), #[]⟩
noncomputable def oba24 (P : Params) : Obj := ⟨(.type "getset_descriptor"), none, (.fields #[(.str "__dict__" 237), (.ref 22), (.builtin "function.__dict__"), (.builtin "function.__dict__#set")]), #[]⟩
noncomputable def oba25 (P : Params) : Obj := ⟨(.type "getset_descriptor"), none, (.fields #[(.str "__weakref__" 239), (.ref 22), (.builtin "ExceptionGroup.__weakref__"), .none]), #[]⟩
noncomputable def oba26 (P : Params) : Obj := ⟨(.ref 22), (some 20), .plain, #[]⟩
noncomputable def oba27 (P : Params) : Obj := ⟨.none, none, (.seq #[(.int 11 0), (.str ⟨#[6, 247, 8, 95, 95, 110, 97, 109, 101, 95, 95, 6, 246, 4, 95, 115, 114, 101, 6, 248, 7, 95, 95, 100, 111, 99, 95, 95, 0, 6, 250, 11, 95, 95, 112, 97, 99, 107, 97, 103, 101, 95, 95, 6, 249, 0, 6, 251, 10, 95, 95, 108, 111, 97, 100, 101, 114, 95, 95, 4, 0, 0, 14, 6, 252, 8, 95, 95, 115, 112, 101, 99, 95, 95, 4, 0, 0, 26, 6, 253, 7, 99, 111, 109, 112, 105, 108, 101, 9, 12, 95, 115, 114, 101, 46, 99, 111, 109, 112, 105, 108, 101, 6, 254, 8, 116, 101, 109, 112, 108, 97, 116, 101, 9, 13, 95, 115, 114, 101, 46, 116, 101, 109, 112, 108, 97, 116, 101, 6, 255, 11, 103, 101, 116, 99, 111, 100, 101, 115, 105, 122, 101, 9, 16, 95, 115, 114, 101, 46, 103, 101, 116, 99, 111, 100, 101, 115, 105, 122, 101, 6, 256, 13, 97, 115, 99, 105, 105, 95, 105, 115, 99, 97, 115, 101, 100, 9, 18, 95, 115, 114, 101, 46, 97, 115, 99, 105, 105, 95, 105, 115, 99, 97, 115, 101, 100, 6, 257, 15, 117, 110, 105, 99, 111, 100, 101, 95, 105, 115, 99, 97, 115, 101, 100, 9, 20, 95, 115, 114, 101, 46, 117, 110, 105, 99, 111, 100, 101, 95, 105, 115, 99, 97, 115, 101, 100, 6, 258, 13, 97, 115, 99, 105, 105, 95, 116, 111, 108, 111, 119, 101, 114, 9, 18, 95, 115, 114, 101, 46, 97, 115, 99, 105, 105, 95, 116, 111, 108, 111, 119, 101, 114, 6, 259, 15, 117, 110, 105, 99, 111, 100, 101, 95, 116, 111, 108, 111, 119, 101, 114, 9, 20, 95, 115, 114, 101, 46, 117, 110, 105, 99, 111, 100, 101, 95, 116, 111, 108, 111, 119, 101, 114, 6, 261, 5, 77, 65, 71, 73, 67, 4, 260, 0, 20230612, 6, 263, 8, 67, 79, 68, 69, 83, 73, 90, 69, 4, 262, 0, 4, 6, 265, 9, 77, 65, 88, 82, 69, 80, 69, 65, 84, 4, 264, 0, 4294967295, 6, 267, 9, 77, 65, 88, 71, 82, 79, 85, 80, 83, 4, 266, 0, 1073741823, 6, 269, 9, 99, 111, 112, 121, 114, 105, 103, 104, 116, 6, 268, 53, 32, 83, 82, 69, 32, 50, 46, 50, 46, 50, 32, 67, 111, 112, 121, 114, 105, 103, 104, 116, 32, 40, 99, 41, 32, 49, 57, 57, 55, 45, 50, 48, 48, 50, 32, 98, 121, 32, 83, 101, 99, 114, 101, 116, 32, 76, 97, 98, 115, 32, 65, 66, 32]⟩ 0), (.bool true), (.bool false), (.str "_sre" 271)] 0), #[]⟩
noncomputable def heapa (P : Params) : Heap := ⟨#[oba0 P, oba1 P, oba2 P, oba3 P, oba4 P, oba5 P, oba6 P, oba7 P, oba8 P, oba9 P, oba10 P, oba11 P, oba12 P, oba13 P, oba14 P, oba15 P, oba16 P, oba17 P, oba18 P, oba19 P, oba20 P, oba21 P, oba22 P, oba23 P, oba24 P, oba25 P, oba26 P, oba27 P], {}⟩
noncomputable def obb28 (P : Params) : Obj := ⟨(.type "tuple"), none, (.seq #[] 0), #[]⟩
noncomputable def obb29 (P : Params) : Obj := ⟨.none, none, (.fields #[]), #[]⟩
noncomputable def obb30 (P : Params) : Obj := ⟨(.type "code"), none, (.fields #[(.str "<module>" 277), (.str "<module>" 278), (.str "/claim/cut.py" 279), (.int 1 0), (.int 0 0), (.int 0 0), (.int 0 0), (.int 0 0), (.ref 28), (.bool false), (.int 276 0), (.ref 29), .none, .none, .none, .none, (.int 280 0), (.int 1 0), (.str "/claim/cut.py" 281)]), #[]⟩
noncomputable def obb31 (P : Params) : Obj := ⟨(.type "frame"), none, .plain, #[(some (.ref 30)), (some (.ref 3)), (some (.ref 3)), none, (some (.str "__main__" 164)), none, (some (.ref 0))]⟩
noncomputable def heapb (P : Params) : Heap := ⟨#[oba0 P, oba1 P, oba2 P, oba3 P, oba4 P, oba5 P, oba6 P, oba7 P, oba8 P, oba9 P, oba10 P, oba11 P, oba12 P, oba13 P, oba14 P, oba15 P, oba16 P, oba17 P, oba18 P, oba19 P, oba20 P, oba21 P, oba22 P, oba23 P, oba24 P, oba25 P, oba26 P, oba27 P, obb28 P, obb29 P, obb30 P, obb31 P], {}⟩
noncomputable def obc3 (P : Params) : Obj := ⟨(.type "dict"), none, (.dict #[nE P "__name__" 165 (.str "cpy313.token" 471), nE P "__doc__" 166 .none, nE P "__package__" 167 .none, nE P "__loader__" 168 (.builtin "__main__.__loader__#opaque"), nE P "__spec__" 169 .none, nE P "__annotations__" 170 (.ref 6), nE P "__builtins__" 171 (.ref 4), nE P "__file__" 173 (.str "/claim/cut.py" 172), nE P "__cached__" 174 .none, nE P "_sre" 275 (.ref 12), nE P "Flags" 332 (.ref 36), nE P "Int2AP" 342 (.ref 43), nE P "ParseFlags" 350 (.ref 50), nE P "and_" 360 (.ref 57), nE P "lshift" 368 (.ref 64), nE P "contains" 376 (.ref 71), nE P "indexOf" 386 (.ref 78), nE P "ior" 394 (.ref 85), nE P "_twin_re_1" 412 (.ref 90), nE P "_twin_re_2" 454 (.ref 95), nE P "CRLF" 456 (.str ⟨#[13, 10]⟩ 455), nE P "_quote_periods" 463 (.ref 102), nE P "_fix_eols" 470 (.ref 109), nE P "ENDMARKER" 474 (.int 0 473), nE P "LPAR" 476 (.int 7 475), nE P "RPAR" 478 (.int 8 477), nE P "LSQB" 480 (.int 9 479), nE P "RSQB" 482 (.int 10 481), nE P "COLON" 484 (.int 11 483), nE P "COMMA" 486 (.int 12 485), nE P "SEMI" 488 (.int 13 487), nE P "PLUS" 490 (.int 14 489), nE P "MINUS" 492 (.int 15 491), nE P "STAR" 494 (.int 16 493), nE P "SLASH" 496 (.int 17 495), nE P "VBAR" 498 (.int 18 497), nE P "AMPER" 500 (.int 19 499), nE P "LESS" 502 (.int 20 501), nE P "GREATER" 504 (.int 21 503), nE P "EQUAL" 506 (.int 22 505), nE P "DOT" 508 (.int 23 507), nE P "PERCENT" 510 (.int 24 509), nE P "LBRACE" 512 (.int 25 511), nE P "RBRACE" 514 (.int 26 513), nE P "EQEQUAL" 516 (.int 27 515), nE P "NOTEQUAL" 518 (.int 28 517), nE P "LESSEQUAL" 520 (.int 29 519), nE P "GREATEREQUAL" 522 (.int 30 521), nE P "TILDE" 524 (.int 31 523), nE P "CIRCUMFLEX" 526 (.int 32 525), nE P "LEFTSHIFT" 528 (.int 33 527), nE P "RIGHTSHIFT" 530 (.int 34 529), nE P "DOUBLESTAR" 532 (.int 35 531), nE P "PLUSEQUAL" 534 (.int 36 533), nE P "MINEQUAL" 536 (.int 37 535), nE P "STAREQUAL" 538 (.int 38 537), nE P "SLASHEQUAL" 540 (.int 39 539), nE P "PERCENTEQUAL" 542 (.int 40 541), nE P "AMPEREQUAL" 544 (.int 41 543), nE P "VBAREQUAL" 546 (.int 42 545), nE P "CIRCUMFLEXEQUAL" 548 (.int 43 547), nE P "LEFTSHIFTEQUAL" 550 (.int 44 549), nE P "RIGHTSHIFTEQUAL" 552 (.int 45 551), nE P "DOUBLESTAREQUAL" 554 (.int 46 553), nE P "DOUBLESLASH" 556 (.int 47 555), nE P "DOUBLESLASHEQUAL" 558 (.int 48 557), nE P "AT" 560 (.int 49 559), nE P "ATEQUAL" 562 (.int 50 561), nE P "RARROW" 564 (.int 51 563), nE P "ELLIPSIS" 566 (.int 52 565), nE P "COLONEQUAL" 568 (.int 53 567), nE P "EXCLAMATION" 570 (.int 54 569), nE P "NT_OFFSET" 572 (.int 256 571)] 73), #[]⟩
noncomputable def obc29 (P : Params) : Obj := ⟨.none, none, (.fields #[(.int 4 0), (.int 0 0), (.ref 42), (.int 12 0), (.int 0 0), (.ref 49), (.int 18 0), (.int 0 0), (.ref 56), (.int 20 0), (.int 0 0), (.ref 63), (.int 22 0), (.int 0 0), (.ref 70), (.int 24 0), (.int 0 0), (.ref 77), (.int 30 0), (.int 0 0), (.ref 84), (.int 37 0), (.int 0 0), (.ref 101), (.int 39 0), (.int 0 0), (.ref 108)]), #[]⟩
noncomputable def obc32 (P : Params) : Obj := ⟨(.type "list"), none, (.seq #[(.int 14 287), (.int 4 288), (.int 0 289), (.int 8 290), (.int 4294967295 291), (.int 24 292), (.int 5 293), (.int 0 294), (.int 4294967295 295), (.int 2 296), (.int 1 297), (.int 16 298), (.int 70 299), (.int 16 300), (.int 76 301), (.int 16 302), (.int 65 303), (.int 16 304), (.int 71 305), (.int 16 306), (.int 83 307), (.int 16 308), (.int 32 309), (.int 16 310), (.int 40 311), (.int 17 312), (.int 0 313), (.int 24 314), (.int 6 315), (.int 0 316), (.int 4294967295 317), (.int 20 318), (.int 41 319), (.int 1 320), (.int 17 321), (.int 1 322), (.int 16 323), (.int 41 324), (.int 1 325)] 0), #[]⟩
noncomputable def obc33 (P : Params) : Obj := ⟨(.type "dict"), none, (.dict #[nE P "flags" 327 (.int 1 328)] 1), #[]⟩
noncomputable def obc34 (P : Params) : Obj := ⟨(.type "tuple"), none, (.seq #[.none, (.str "flags" 330)] 0), #[]⟩
noncomputable def obc35 (P : Params) : Obj := ⟨(.type "tuple"), none, (.seq #[(.int 14 0), (.int 4 0), (.int 0 0), (.int 8 0), (.int 4294967295 0), (.int 24 0), (.int 5 0), (.int 0 0), (.int 4294967295 0), (.int 2 0), (.int 1 0), (.int 16 0), (.int 70 0), (.int 16 0), (.int 76 0), (.int 16 0), (.int 65 0), (.int 16 0), (.int 71 0), (.int 16 0), (.int 83 0), (.int 16 0), (.int 32 0), (.int 16 0), (.int 40 0), (.int 17 0), (.int 0 0), (.int 24 0), (.int 6 0), (.int 0 0), (.int 4294967295 0), (.int 20 0), (.int 41 0), (.int 1 0), (.int 17 0), (.int 1 0), (.int 16 0), (.int 41 0), (.int 1 0)] 0), #[]⟩
noncomputable def obc36 (P : Params) : Obj := ⟨(.type "re.Pattern"), none, (.fields #[(.bytes #[46, 42, 70, 76, 65, 71, 83, 32, 92, 40, 40, 63, 80, 60, 102, 108, 97, 103, 115, 62, 91, 94, 92, 41, 93, 42, 41, 92, 41] 285), (.int 0 331), (.int 1 0), (.ref 33), (.ref 34), (.ref 35), (.int 1 0)]), #[]⟩
noncomputable def obc37 (P : Params) : Obj := ⟨(.type "tuple"), none, (.seq #[] 0), #[]⟩
noncomputable def obc38 (P : Params) : Obj := ⟨.none, none, (.fields #[]), #[]⟩
noncomputable def obc39 (P : Params) : Obj := ⟨(.type "tuple"), none, (.seq #[(.str "num" 336), (.str "val" 337), (.str "AP" 338), (.str "mod" 339)] 0), #[]⟩
noncomputable def obc40 (P : Params) : Obj := ⟨(.type "tuple"), none, (.seq #[] 0), #[]⟩
noncomputable def obc41 (P : Params) : Obj := ⟨.none, none, (.func ⟨"Int2AP", "Int2AP", paramsOf 3, .stmts (bodyOf 3), scopeOf 3, 0, [], .none, .none, .none, .none, none, .none, .none, 0⟩), #[]⟩
noncomputable def obc42 (P : Params) : Obj := ⟨(.type "code"), none, (.fields #[(.str "Int2AP" 333), (.str "Int2AP" 334), (.str "/claim/cut.py" 335), (.int 4 0), (.int 1 0), (.int 0 0), (.int 0 0), (.int 3 0), (.ref 37), (.bool true), (.int 276 0), (.ref 38), .none, (.ref 39), (.ref 40), (.ref 41), (.int 340 0), (.int 4 0), (.str "/claim/cut.py" 341)]), #[]⟩
noncomputable def obc43 (P : Params) : Obj := ⟨(.type "function"), none, (.func ⟨"Int2AP", "Int2AP", paramsOf 3, .stmts (bodyOf 3), scopeOf 3, 3, [], .none, .none, .none, (.str "cpy313.imaplib" 282), none, (.ref 42), .none, 0⟩), #[]⟩
noncomputable def obc44 (P : Params) : Obj := ⟨(.type "tuple"), none, (.seq #[] 0), #[]⟩
noncomputable def obc45 (P : Params) : Obj := ⟨.none, none, (.fields #[]), #[]⟩
noncomputable def obc46 (P : Params) : Obj := ⟨(.type "tuple"), none, (.seq #[(.str "resp" 346), (.str "mo" 347)] 0), #[]⟩
noncomputable def obc47 (P : Params) : Obj := ⟨(.type "tuple"), none, (.seq #[] 0), #[]⟩
noncomputable def obc48 (P : Params) : Obj := ⟨.none, none, (.func ⟨"ParseFlags", "ParseFlags", paramsOf 4, .stmts (bodyOf 4), scopeOf 4, 0, [], .none, .none, .none, .none, none, .none, .none, 0⟩), #[]⟩
noncomputable def obc49 (P : Params) : Obj := ⟨(.type "code"), none, (.fields #[(.str "ParseFlags" 343), (.str "ParseFlags" 344), (.str "/claim/cut.py" 345), (.int 12 0), (.int 1 0), (.int 0 0), (.int 0 0), (.int 3 0), (.ref 44), (.bool true), (.int 276 0), (.ref 45), .none, (.ref 46), (.ref 47), (.ref 48), (.int 348 0), (.int 12 0), (.str "/claim/cut.py" 349)]), #[]⟩
noncomputable def obc50 (P : Params) : Obj := ⟨(.type "function"), none, (.func ⟨"ParseFlags", "ParseFlags", paramsOf 4, .stmts (bodyOf 4), scopeOf 4, 3, [], .none, .none, .none, (.str "cpy313.imaplib" 282), none, (.ref 49), .none, 0⟩), #[]⟩
noncomputable def obc51 (P : Params) : Obj := ⟨(.type "tuple"), none, (.seq #[] 0), #[]⟩
noncomputable def obc52 (P : Params) : Obj := ⟨.none, none, (.fields #[]), #[]⟩
noncomputable def obc53 (P : Params) : Obj := ⟨(.type "tuple"), none, (.seq #[(.str "a" 356), (.str "b" 357)] 0), #[]⟩
noncomputable def obc54 (P : Params) : Obj := ⟨(.type "tuple"), none, (.seq #[] 0), #[]⟩
noncomputable def obc55 (P : Params) : Obj := ⟨.none, none, (.func ⟨"and_", "and_", paramsOf 6, .stmts (bodyOf 6), scopeOf 6, 0, [], .none, .none, .none, .none, none, .none, .none, 0⟩), #[]⟩
noncomputable def obc56 (P : Params) : Obj := ⟨(.type "code"), none, (.fields #[(.str "and_" 353), (.str "and_" 354), (.str "/claim/cut.py" 355), (.int 18 0), (.int 2 0), (.int 0 0), (.int 0 0), (.int 3 0), (.ref 51), (.bool true), (.int 276 0), (.ref 52), .none, (.ref 53), (.ref 54), (.ref 55), (.int 358 0), (.int 18 0), (.str "/claim/cut.py" 359)]), #[]⟩
noncomputable def obc57 (P : Params) : Obj := ⟨(.type "function"), none, (.func ⟨"and_", "and_", paramsOf 6, .stmts (bodyOf 6), scopeOf 6, 3, [], .none, .none, .none, (.str "cpy313.operator" 351), none, (.ref 56), .none, 0⟩), #[]⟩
noncomputable def obc58 (P : Params) : Obj := ⟨(.type "tuple"), none, (.seq #[] 0), #[]⟩
noncomputable def obc59 (P : Params) : Obj := ⟨.none, none, (.fields #[]), #[]⟩
noncomputable def obc60 (P : Params) : Obj := ⟨(.type "tuple"), none, (.seq #[(.str "a" 364), (.str "b" 365)] 0), #[]⟩
noncomputable def obc61 (P : Params) : Obj := ⟨(.type "tuple"), none, (.seq #[] 0), #[]⟩
noncomputable def obc62 (P : Params) : Obj := ⟨.none, none, (.func ⟨"lshift", "lshift", paramsOf 7, .stmts (bodyOf 7), scopeOf 7, 0, [], .none, .none, .none, .none, none, .none, .none, 0⟩), #[]⟩
noncomputable def obc63 (P : Params) : Obj := ⟨(.type "code"), none, (.fields #[(.str "lshift" 361), (.str "lshift" 362), (.str "/claim/cut.py" 363), (.int 20 0), (.int 2 0), (.int 0 0), (.int 0 0), (.int 3 0), (.ref 58), (.bool true), (.int 276 0), (.ref 59), .none, (.ref 60), (.ref 61), (.ref 62), (.int 366 0), (.int 20 0), (.str "/claim/cut.py" 367)]), #[]⟩
noncomputable def obc64 (P : Params) : Obj := ⟨(.type "function"), none, (.func ⟨"lshift", "lshift", paramsOf 7, .stmts (bodyOf 7), scopeOf 7, 3, [], .none, .none, .none, (.str "cpy313.operator" 351), none, (.ref 63), .none, 0⟩), #[]⟩
noncomputable def obc65 (P : Params) : Obj := ⟨(.type "tuple"), none, (.seq #[] 0), #[]⟩
noncomputable def obc66 (P : Params) : Obj := ⟨.none, none, (.fields #[]), #[]⟩
noncomputable def obc67 (P : Params) : Obj := ⟨(.type "tuple"), none, (.seq #[(.str "a" 372), (.str "b" 373)] 0), #[]⟩
noncomputable def obc68 (P : Params) : Obj := ⟨(.type "tuple"), none, (.seq #[] 0), #[]⟩
noncomputable def obc69 (P : Params) : Obj := ⟨.none, none, (.func ⟨"contains", "contains", paramsOf 8, .stmts (bodyOf 8), scopeOf 8, 0, [], .none, .none, .none, .none, none, .none, .none, 0⟩), #[]⟩
noncomputable def obc70 (P : Params) : Obj := ⟨(.type "code"), none, (.fields #[(.str "contains" 369), (.str "contains" 370), (.str "/claim/cut.py" 371), (.int 22 0), (.int 2 0), (.int 0 0), (.int 0 0), (.int 3 0), (.ref 65), (.bool true), (.int 276 0), (.ref 66), .none, (.ref 67), (.ref 68), (.ref 69), (.int 374 0), (.int 22 0), (.str "/claim/cut.py" 375)]), #[]⟩
noncomputable def obc71 (P : Params) : Obj := ⟨(.type "function"), none, (.func ⟨"contains", "contains", paramsOf 8, .stmts (bodyOf 8), scopeOf 8, 3, [], .none, .none, .none, (.str "cpy313.operator" 351), none, (.ref 70), .none, 0⟩), #[]⟩
noncomputable def obc72 (P : Params) : Obj := ⟨(.type "tuple"), none, (.seq #[] 0), #[]⟩
noncomputable def obc73 (P : Params) : Obj := ⟨.none, none, (.fields #[]), #[]⟩
noncomputable def obc74 (P : Params) : Obj := ⟨(.type "tuple"), none, (.seq #[(.str "a" 380), (.str "b" 381), (.str "i" 382), (.str "j" 383)] 0), #[]⟩
noncomputable def obc75 (P : Params) : Obj := ⟨(.type "tuple"), none, (.seq #[] 0), #[]⟩
noncomputable def obc76 (P : Params) : Obj := ⟨.none, none, (.func ⟨"indexOf", "indexOf", paramsOf 9, .stmts (bodyOf 9), scopeOf 9, 0, [], .none, .none, .none, .none, none, .none, .none, 0⟩), #[]⟩
noncomputable def obc77 (P : Params) : Obj := ⟨(.type "code"), none, (.fields #[(.str "indexOf" 377), (.str "indexOf" 378), (.str "/claim/cut.py" 379), (.int 24 0), (.int 2 0), (.int 0 0), (.int 0 0), (.int 3 0), (.ref 72), (.bool true), (.int 276 0), (.ref 73), .none, (.ref 74), (.ref 75), (.ref 76), (.int 384 0), (.int 24 0), (.str "/claim/cut.py" 385)]), #[]⟩
noncomputable def obc78 (P : Params) : Obj := ⟨(.type "function"), none, (.func ⟨"indexOf", "indexOf", paramsOf 9, .stmts (bodyOf 9), scopeOf 9, 3, [], .none, .none, .none, (.str "cpy313.operator" 351), none, (.ref 77), .none, 0⟩), #[]⟩
noncomputable def obc79 (P : Params) : Obj := ⟨(.type "tuple"), none, (.seq #[] 0), #[]⟩
noncomputable def obc80 (P : Params) : Obj := ⟨.none, none, (.fields #[]), #[]⟩
noncomputable def obc81 (P : Params) : Obj := ⟨(.type "tuple"), none, (.seq #[(.str "a" 390), (.str "b" 391)] 0), #[]⟩
noncomputable def obc82 (P : Params) : Obj := ⟨(.type "tuple"), none, (.seq #[] 0), #[]⟩
noncomputable def obc83 (P : Params) : Obj := ⟨.none, none, (.func ⟨"ior", "ior", paramsOf 10, .stmts (bodyOf 10), scopeOf 10, 0, [], .none, .none, .none, .none, none, .none, .none, 0⟩), #[]⟩
noncomputable def obc84 (P : Params) : Obj := ⟨(.type "code"), none, (.fields #[(.str "ior" 387), (.str "ior" 388), (.str "/claim/cut.py" 389), (.int 30 0), (.int 2 0), (.int 0 0), (.int 0 0), (.int 3 0), (.ref 79), (.bool true), (.int 276 0), (.ref 80), .none, (.ref 81), (.ref 82), (.ref 83), (.int 392 0), (.int 30 0), (.str "/claim/cut.py" 393)]), #[]⟩
noncomputable def obc85 (P : Params) : Obj := ⟨(.type "function"), none, (.func ⟨"ior", "ior", paramsOf 10, .stmts (bodyOf 10), scopeOf 10, 3, [], .none, .none, .none, (.str "cpy313.operator" 351), none, (.ref 84), .none, 0⟩), #[]⟩
noncomputable def obc86 (P : Params) : Obj := ⟨(.type "list"), none, (.seq #[(.int 14 400), (.int 4 401), (.int 0 402), (.int 1 403), (.int 1 404), (.int 6 405), (.int 1 406), (.int 16 407), (.int 46 408), (.int 1 409)] 0), #[]⟩
noncomputable def obc87 (P : Params) : Obj := ⟨(.type "dict"), none, (.dict #[] 0), #[]⟩
noncomputable def obc88 (P : Params) : Obj := ⟨(.type "tuple"), none, (.seq #[.none] 0), #[]⟩
noncomputable def obc89 (P : Params) : Obj := ⟨(.type "tuple"), none, (.seq #[(.int 14 0), (.int 4 0), (.int 0 0), (.int 1 0), (.int 1 0), (.int 6 0), (.int 1 0), (.int 16 0), (.int 46 0), (.int 1 0)] 0), #[]⟩
noncomputable def obc90 (P : Params) : Obj := ⟨(.type "re.Pattern"), none, (.fields #[(.bytes #[40, 63, 109, 41, 94, 92, 46] 398), (.int 8 411), (.int 0 0), .none, .none, (.ref 89), (.int 1 0)]), #[]⟩
noncomputable def obc91 (P : Params) : Obj := ⟨(.type "list"), none, (.seq #[(.int 14 416), (.int 9 417), (.int 4 418), (.int 1 419), (.int 2 420), (.int 16 421), (.int 10 422), (.int 16 423), (.int 13 424), (.int 0 425), (.int 7 426), (.int 7 427), (.int 16 428), (.int 13 429), (.int 16 430), (.int 10 431), (.int 15 432), (.int 18 433), (.int 5 434), (.int 16 435), (.int 10 436), (.int 15 437), (.int 13 438), (.int 11 439), (.int 16 440), (.int 13 441), (.int 5 442), (.int 5 443), (.int 0 444), (.int 16 445), (.int 10 446), (.int 1 447), (.int 15 448), (.int 2 449), (.int 0 450), (.int 1 451)] 0), #[]⟩
noncomputable def obc92 (P : Params) : Obj := ⟨(.type "dict"), none, (.dict #[] 0), #[]⟩
noncomputable def obc93 (P : Params) : Obj := ⟨(.type "tuple"), none, (.seq #[.none] 0), #[]⟩
noncomputable def obc94 (P : Params) : Obj := ⟨(.type "tuple"), none, (.seq #[(.int 14 0), (.int 9 0), (.int 4 0), (.int 1 0), (.int 2 0), (.int 16 0), (.int 10 0), (.int 16 0), (.int 13 0), (.int 0 0), (.int 7 0), (.int 7 0), (.int 16 0), (.int 13 0), (.int 16 0), (.int 10 0), (.int 15 0), (.int 18 0), (.int 5 0), (.int 16 0), (.int 10 0), (.int 15 0), (.int 13 0), (.int 11 0), (.int 16 0), (.int 13 0), (.int 5 0), (.int 5 0), (.int 0 0), (.int 16 0), (.int 10 0), (.int 1 0), (.int 15 0), (.int 2 0), (.int 0 0), (.int 1 0)] 0), #[]⟩
noncomputable def obc95 (P : Params) : Obj := ⟨(.type "re.Pattern"), none, (.fields #[(.str "(?:\\r\\n|\\n|\\r(?!\\n))" 414), (.int 32 453), (.int 0 0), .none, .none, (.ref 94), (.int 0 0)]), #[]⟩
noncomputable def obc96 (P : Params) : Obj := ⟨(.type "tuple"), none, (.seq #[] 0), #[]⟩
noncomputable def obc97 (P : Params) : Obj := ⟨.none, none, (.fields #[]), #[]⟩
noncomputable def obc98 (P : Params) : Obj := ⟨(.type "tuple"), none, (.seq #[(.str "bindata" 460)] 0), #[]⟩
noncomputable def obc99 (P : Params) : Obj := ⟨(.type "tuple"), none, (.seq #[] 0), #[]⟩
noncomputable def obc100 (P : Params) : Obj := ⟨.none, none, (.func ⟨"_quote_periods", "_quote_periods", paramsOf 15, .stmts (bodyOf 15), scopeOf 15, 0, [], .none, .none, .none, .none, none, .none, .none, 0⟩), #[]⟩
noncomputable def obc101 (P : Params) : Obj := ⟨(.type "code"), none, (.fields #[(.str "_quote_periods" 457), (.str "_quote_periods" 458), (.str "/claim/cut.py" 459), (.int 37 0), (.int 1 0), (.int 0 0), (.int 0 0), (.int 3 0), (.ref 96), (.bool true), (.int 276 0), (.ref 97), .none, (.ref 98), (.ref 99), (.ref 100), (.int 461 0), (.int 37 0), (.str "/claim/cut.py" 462)]), #[]⟩
noncomputable def obc102 (P : Params) : Obj := ⟨(.type "function"), none, (.func ⟨"_quote_periods", "_quote_periods", paramsOf 15, .stmts (bodyOf 15), scopeOf 15, 3, [], .none, .none, .none, (.str "cpy313.smtplib" 395), none, (.ref 101), .none, 0⟩), #[]⟩
noncomputable def obc103 (P : Params) : Obj := ⟨(.type "tuple"), none, (.seq #[] 0), #[]⟩
noncomputable def obc104 (P : Params) : Obj := ⟨.none, none, (.fields #[]), #[]⟩
noncomputable def obc105 (P : Params) : Obj := ⟨(.type "tuple"), none, (.seq #[(.str "data" 467)] 0), #[]⟩
noncomputable def obc106 (P : Params) : Obj := ⟨(.type "tuple"), none, (.seq #[] 0), #[]⟩
noncomputable def obc107 (P : Params) : Obj := ⟨.none, none, (.func ⟨"_fix_eols", "_fix_eols", paramsOf 16, .stmts (bodyOf 16), scopeOf 16, 0, [], .none, .none, .none, .none, none, .none, .none, 0⟩), #[]⟩
noncomputable def obc108 (P : Params) : Obj := ⟨(.type "code"), none, (.fields #[(.str "_fix_eols" 464), (.str "_fix_eols" 465), (.str "/claim/cut.py" 466), (.int 39 0), (.int 1 0), (.int 0 0), (.int 0 0), (.int 3 0), (.ref 103), (.bool true), (.int 276 0), (.ref 104), .none, (.ref 105), (.ref 106), (.ref 107), (.int 468 0), (.int 39 0), (.str "/claim/cut.py" 469)]), #[]⟩
noncomputable def obc109 (P : Params) : Obj := ⟨(.type "function"), none, (.func ⟨"_fix_eols", "_fix_eols", paramsOf 16, .stmts (bodyOf 16), scopeOf 16, 3, [], .none, .none, .none, (.str "cpy313.smtplib" 395), none, (.ref 108), .none, 0⟩), #[]⟩
noncomputable def heapc (P : Params) : Heap := ⟨#[oba0 P, oba1 P, oba2 P, obc3 P, oba4 P, oba5 P, oba6 P, oba7 P, oba8 P, oba9 P, oba10 P, oba11 P, oba12 P, oba13 P, oba14 P, oba15 P, oba16 P, oba17 P, oba18 P, oba19 P, oba20 P, oba21 P, oba22 P, oba23 P, oba24 P, oba25 P, oba26 P, oba27 P, obb28 P, obc29 P, obb30 P, obb31 P, obc32 P, obc33 P, obc34 P, obc35 P, obc36 P, obc37 P, obc38 P, obc39 P, obc40 P, obc41 P, obc42 P, obc43 P, obc44 P, obc45 P, obc46 P, obc47 P, obc48 P, obc49 P, obc50 P, obc51 P, obc52 P, obc53 P, obc54 P, obc55 P, obc56 P, obc57 P, obc58 P, obc59 P, obc60 P, obc61 P, obc62 P, obc63 P, obc64 P, obc65 P, obc66 P, obc67 P, obc68 P, obc69 P, obc70 P, obc71 P, obc72 P, obc73 P, obc74 P, obc75 P, obc76 P, obc77 P, obc78 P, obc79 P, obc80 P, obc81 P, obc82 P, obc83 P, obc84 P, obc85 P, obc86 P, obc87 P, obc88 P, obc89 P, obc90 P, obc91 P, obc92 P, obc93 P, obc94 P, obc95 P, obc96 P, obc97 P, obc98 P, obc99 P, obc100 P, obc101 P, obc102 P, obc103 P, obc104 P, obc105 P, obc106 P, obc107 P, obc108 P, obc109 P], {}⟩
noncomputable def obd3 (P : Params) : Obj := ⟨(.type "dict"), none, (.dict #[nE P "__name__" 165 (.str "cpy313.token" 471), nE P "__doc__" 166 .none, nE P "__package__" 167 .none, nE P "__loader__" 168 (.builtin "__main__.__loader__#opaque"), nE P "__spec__" 169 .none, nE P "__annotations__" 170 (.ref 6), nE P "__builtins__" 171 (.ref 4), nE P "__file__" 173 (.str "/claim/cut.py" 172), nE P "__cached__" 174 .none, nE P "_sre" 275 (.ref 12), nE P "Flags" 332 (.ref 36), nE P "Int2AP" 342 (.ref 43), nE P "ParseFlags" 350 (.ref 50), nE P "and_" 360 (.ref 57), nE P "lshift" 368 (.ref 64), nE P "contains" 376 (.ref 71), nE P "indexOf" 386 (.ref 78), nE P "ior" 394 (.ref 85), nE P "_twin_re_1" 412 (.ref 90), nE P "_twin_re_2" 454 (.ref 95), nE P "CRLF" 456 (.str ⟨#[13, 10]⟩ 455), nE P "_quote_periods" 463 (.ref 102), nE P "_fix_eols" 470 (.ref 109), nE P "ENDMARKER" 474 (.int 0 473), nE P "LPAR" 476 (.int 7 475), nE P "RPAR" 478 (.int 8 477), nE P "LSQB" 480 (.int 9 479), nE P "RSQB" 482 (.int 10 481), nE P "COLON" 484 (.int 11 483), nE P "COMMA" 486 (.int 12 485), nE P "SEMI" 488 (.int 13 487), nE P "PLUS" 490 (.int 14 489), nE P "MINUS" 492 (.int 15 491), nE P "STAR" 494 (.int 16 493), nE P "SLASH" 496 (.int 17 495), nE P "VBAR" 498 (.int 18 497), nE P "AMPER" 500 (.int 19 499), nE P "LESS" 502 (.int 20 501), nE P "GREATER" 504 (.int 21 503), nE P "EQUAL" 506 (.int 22 505), nE P "DOT" 508 (.int 23 507), nE P "PERCENT" 510 (.int 24 509), nE P "LBRACE" 512 (.int 25 511), nE P "RBRACE" 514 (.int 26 513), nE P "EQEQUAL" 516 (.int 27 515), nE P "NOTEQUAL" 518 (.int 28 517), nE P "LESSEQUAL" 520 (.int 29 519), nE P "GREATEREQUAL" 522 (.int 30 521), nE P "TILDE" 524 (.int 31 523), nE P "CIRCUMFLEX" 526 (.int 32 525), nE P "LEFTSHIFT" 528 (.int 33 527), nE P "RIGHTSHIFT" 530 (.int 34 529), nE P "DOUBLESTAR" 532 (.int 35 531), nE P "PLUSEQUAL" 534 (.int 36 533), nE P "MINEQUAL" 536 (.int 37 535), nE P "STAREQUAL" 538 (.int 38 537), nE P "SLASHEQUAL" 540 (.int 39 539), nE P "PERCENTEQUAL" 542 (.int 40 541), nE P "AMPEREQUAL" 544 (.int 41 543), nE P "VBAREQUAL" 546 (.int 42 545), nE P "CIRCUMFLEXEQUAL" 548 (.int 43 547), nE P "LEFTSHIFTEQUAL" 550 (.int 44 549), nE P "RIGHTSHIFTEQUAL" 552 (.int 45 551), nE P "DOUBLESTAREQUAL" 554 (.int 46 553), nE P "DOUBLESLASH" 556 (.int 47 555), nE P "DOUBLESLASHEQUAL" 558 (.int 48 557), nE P "AT" 560 (.int 49 559), nE P "ATEQUAL" 562 (.int 50 561), nE P "RARROW" 564 (.int 51 563), nE P "ELLIPSIS" 566 (.int 52 565), nE P "COLONEQUAL" 568 (.int 53 567), nE P "EXCLAMATION" 570 (.int 54 569), nE P "NT_OFFSET" 572 (.int 256 571), nE P "EXACT_TOKEN_TYPES" 669 (.ref 110)] 74), #[]⟩
noncomputable def obd110 (P : Params) : Obj := ⟨(.type "dict"), none, (.dict #[nE P "!" 573 (.int 54 569), nE P "!=" 575 (.int 28 517), nE P "%" 577 (.int 24 509), nE P "%=" 579 (.int 40 541), nE P "&" 581 (.int 19 499), nE P "&=" 583 (.int 41 543), nE P "(" 585 (.int 7 475), nE P ")" 587 (.int 8 477), nE P "*" 589 (.int 16 493), nE P "**" 591 (.int 35 531), nE P "**=" 593 (.int 46 553), nE P "*=" 595 (.int 38 537), nE P "+" 597 (.int 14 489), nE P "+=" 599 (.int 36 533), nE P "," 601 (.int 12 485), nE P "-" 603 (.int 15 491), nE P "-=" 605 (.int 37 535), nE P "->" 607 (.int 51 563), nE P "." 609 (.int 23 507), nE P "..." 611 (.int 52 565), nE P "/" 613 (.int 17 495), nE P "//" 615 (.int 47 555), nE P "//=" 617 (.int 48 557), nE P "/=" 619 (.int 39 539), nE P ":" 621 (.int 11 483), nE P ":=" 623 (.int 53 567), nE P ";" 625 (.int 13 487), nE P "<" 627 (.int 20 501), nE P "<<" 629 (.int 33 527), nE P "<<=" 631 (.int 44 549), nE P "<=" 633 (.int 29 519), nE P "=" 635 (.int 22 505), nE P "==" 637 (.int 27 515), nE P ">" 639 (.int 21 503), nE P ">=" 641 (.int 30 521), nE P ">>" 642 (.int 34 529), nE P ">>=" 643 (.int 45 551), nE P "@" 644 (.int 49 559), nE P "@=" 645 (.int 50 561), nE P "[" 646 (.int 9 479), nE P "]" 647 (.int 10 481), nE P "^" 648 (.int 32 525), nE P "^=" 649 (.int 43 547), nE P "{" 650 (.int 25 511), nE P "|" 651 (.int 18 497), nE P "|=" 652 (.int 42 545), nE P "}" 653 (.int 26 513), nE P "~" 654 (.int 31 523)] 48), #[]⟩
noncomputable def obd111 (P : Params) : Obj := ⟨(.type "dict"), none, (.dict #[nE P "->" 607 (.int 51 563), nE P "." 609 (.int 23 507), nE P "..." 611 (.int 52 565), nE P "/" 613 (.int 17 495), nE P "//" 615 (.int 47 555), nE P "//=" 617 (.int 48 557), nE P "/=" 619 (.int 39 539), nE P ":" 621 (.int 11 483), nE P ":=" 623 (.int 53 567), nE P ";" 625 (.int 13 487), nE P "<" 627 (.int 20 501), nE P "<<" 629 (.int 33 527), nE P "<<=" 631 (.int 44 549), nE P "<=" 633 (.int 29 519), nE P "=" 635 (.int 22 505), nE P "==" 637 (.int 27 515), nE P ">" 639 (.int 21 503)] 17), #[]⟩
noncomputable def obd112 (P : Params) : Obj := ⟨(.type "dict"), none, (.dict #[nE P ">=" 641 (.int 30 521), nE P ">>" 642 (.int 34 529), nE P ">>=" 643 (.int 45 551), nE P "@" 644 (.int 49 559), nE P "@=" 645 (.int 50 561), nE P "[" 646 (.int 9 479), nE P "]" 647 (.int 10 481), nE P "^" 648 (.int 32 525), nE P "^=" 649 (.int 43 547), nE P "{" 650 (.int 25 511), nE P "|" 651 (.int 18 497), nE P "|=" 652 (.int 42 545), nE P "}" 653 (.int 26 513), nE P "~" 654 (.int 31 523)] 14), #[]⟩
noncomputable def heapd (P : Params) : Heap := ⟨#[oba0 P, oba1 P, oba2 P, obd3 P, oba4 P, oba5 P, oba6 P, oba7 P, oba8 P, oba9 P, oba10 P, oba11 P, oba12 P, oba13 P, oba14 P, oba15 P, oba16 P, oba17 P, oba18 P, oba19 P, oba20 P, oba21 P, oba22 P, oba23 P, oba24 P, oba25 P, oba26 P, oba27 P, obb28 P, obc29 P, obb30 P, obb31 P, obc32 P, obc33 P, obc34 P, obc35 P, obc36 P, obc37 P, obc38 P, obc39 P, obc40 P, obc41 P, obc42 P, obc43 P, obc44 P, obc45 P, obc46 P, obc47 P, obc48 P, obc49 P, obc50 P, obc51 P, obc52 P, obc53 P, obc54 P, obc55 P, obc56 P, obc57 P, obc58 P, obc59 P, obc60 P, obc61 P, obc62 P, obc63 P, obc64 P, obc65 P, obc66 P, obc67 P, obc68 P, obc69 P, obc70 P, obc71 P, obc72 P, obc73 P, obc74 P, obc75 P, obc76 P, obc77 P, obc78 P, obc79 P, obc80 P, obc81 P, obc82 P, obc83 P, obc84 P, obc85 P, obc86 P, obc87 P, obc88 P, obc89 P, obc90 P, obc91 P, obc92 P, obc93 P, obc94 P, obc95 P, obc96 P, obc97 P, obc98 P, obc99 P, obc100 P, obc101 P, obc102 P, obc103 P, obc104 P, obc105 P, obc106 P, obc107 P, obc108 P, obc109 P, obd110 P, obd111 P, obd112 P], {}⟩

noncomputable def lenv : Env := { scope := lp.main.scope, locals := mainNs, globals := mainNs, cells := [], code := .ref 30, frame := some 31 }
noncomputable def lbody : List Stmt := behindTheImports lp
noncomputable abbrev lcE : Code := .body lbody lenv
noncomputable abbrev lq0 : Pos := ⟨0, 0, 0, 0⟩
noncomputable abbrev sA (w : World) (os : OsState) : Shared := ⟨heapa w.params, #[], {}, 276, os⟩
noncomputable abbrev sB (w : World) (os : OsState) : Shared := ⟨heapb w.params, #[], {}, 282, os⟩
noncomputable abbrev sC (w : World) (os : OsState) : Shared := ⟨heapc w.params, #[], {}, 573, os⟩
noncomputable abbrev sD (w : World) (os : OsState) : Shared := ⟨heapd w.params, #[], {}, 670, os⟩
theorem open_a (w : World) : (fencedOpening treeTable lp w 4882).map (fun s => (s.heap, s.gens, s.drawn, s.toks)) = some (heapa w.params, #[], {}, 276) := by kernel_rfl
theorem size_a (w : World) : ((heapa w.params).isNs mainGlobals && (#[] : Array GenState).size == 0) = true := by kernel_rfl
theorem size_n (w : World) : (heapa w.params).objs.size = 28 := by kernel_rfl
theorem size_s (w : World) : (heapa w.params).nsMap mainGlobals "__annotations__" = some (.ref 6) := by kernel_rfl
theorem go_b (w : World) (os : OsState) : topGo treeTable lp w 28 (some (.ref 6)) 12 (sA w os) (topStub lp) = some (sB w os, ⟨denote treeTable lcE, lcE, lq0, [topFrame lq0]⟩) := by kernel_rfl
theorem block_b (w : World) (os : OsState) : segRun treeTable lp w 28 (some (.ref 6)) 1 1 (sB w os) (blockOf lbody lenv lcE lq0 [topFrame lq0]) = some (.next, sB w os, lcE, lq0) := by kernel_rfl
end Mine
end

section
open PySem PySem.W PyProof.Rows PySem.Calls PySem.SeqAt
set_option maxRecDepth 100000
namespace Mine
theorem run_cf (w : World) (os : OsState) : segRun treeTable lp (w.withFollow "special-get-raises" false) 28 (some (.ref 6)) 1 1016 (sB (w.withFollow "special-get-raises" false) os) (piecesOf (lbody.take 67) lenv lcE lq0 [topFrame lq0]) = some (.next, sC (w.withFollow "special-get-raises" false) os, lcE, ⟨91, 0, 91, 9⟩) := by kernel_rfl
theorem run_df (w : World) (os : OsState) : segRun treeTable lp (w.withFollow "special-get-raises" false) 28 (some (.ref 6)) 1 979 (sC (w.withFollow "special-get-raises" false) os) (piecesOf ((lbody.drop 67).take 1) lenv lcE ⟨91, 0, 91, 9⟩ [topFrame lq0]) = some (.next, sD (w.withFollow "special-get-raises" false) os, lcE, ⟨92, 0, 92, 17⟩) := by kernel_rfl
theorem run_ct (w : World) (os : OsState) : segRun treeTable lp (w.withFollow "special-get-raises" true) 28 (some (.ref 6)) 1 1016 (sB (w.withFollow "special-get-raises" true) os) (piecesOf (lbody.take 67) lenv lcE lq0 [topFrame lq0]) = some (.next, sC (w.withFollow "special-get-raises" true) os, lcE, ⟨91, 0, 91, 9⟩) := by kernel_rfl
theorem run_dt (w : World) (os : OsState) : segRun treeTable lp (w.withFollow "special-get-raises" true) 28 (some (.ref 6)) 1 979 (sC (w.withFollow "special-get-raises" true) os) (piecesOf ((lbody.drop 67).take 1) lenv lcE ⟨91, 0, 91, 9⟩ [topFrame lq0]) = some (.next, sD (w.withFollow "special-get-raises" true) os, lcE, ⟨92, 0, 92, 17⟩) := by kernel_rfl
theorem end_e (w : World) (os : OsState) : (topRun treeTable lp w 28 (some (.ref 6)) 2874 (sD w os) (restOf (lbody.drop 68) lenv lcE ⟨92, 0, 92, 17⟩ [topFrame lq0])).map (fun s => (staticsOk (importedModules lp.main.body) (heapa w.params) s.heap && namesBound lp s.heap && gensDone s && laidKept (heapa w.params) s.heap, openSeen lq lloose (importedModules lp.main.body) lXt true s, lYf s)) = some (true, openGood lq lloose, lYa w) := by kernel_rfl
end Mine
end

section
open PySem PySem.W PyProof.Rows PySem.Calls PySem.SeqAt
set_option maxRecDepth 100000
namespace Mine
theorem body_cut : lbody.take 67 ++ ((lbody.drop 67).take 1 ++ lbody.drop 68) = lbody := by
  have : lbody.drop 68 = (lbody.drop 67).drop 1 := by rw [List.drop_drop]
  rw [this, List.take_append_drop, List.take_append_drop]
theorem left_side (W : World) (hc : ∀ os, segRun treeTable lp W 28 (some (.ref 6)) 1 1016 (sB W os) (piecesOf (lbody.take 67) lenv lcE lq0 [topFrame lq0]) = some (.next, sC W os, lcE, ⟨91, 0, 91, 9⟩))
    (hd : ∀ os, segRun treeTable lp W 28 (some (.ref 6)) 1 979 (sC W os) (piecesOf ((lbody.drop 67).take 1) lenv lcE ⟨91, 0, 91, 9⟩ [topFrame lq0]) = some (.next, sD W os, lcE, ⟨92, 0, 92, 17⟩)) :
    (openEnds treeTable lp W 4882).map (fun s => (openSeen lq lloose (importedModules lp.main.body) lXt true s, lYf s)) = some (openGood lq lloose, lYa W) := by
  obtain ⟨⟨h, gs, d, k, os⟩, e, e'⟩ := Option.map_eq_some_iff.mp (open_a W)
  have e1 : h = heapa W.params := congrArg Prod.fst e'
  have e2 : gs = #[] := congrArg (fun x => x.2.1) e'
  have e3 : d = {} := congrArg (fun x => x.2.2.1) e'
  have e4 : k = 276 := congrArg (fun x => x.2.2.2) e'
  subst e1 e2 e3 e4
  obtain ⟨r, hr, hl⟩ := Option.map_eq_some_iff.mp (end_e W os)
  have l1 : (staticsOk (importedModules lp.main.body) (heapa W.params) r.heap && namesBound lp r.heap && gensDone r && laidKept (heapa W.params) r.heap) = true := congrArg Prod.fst hl
  have l2 : (openSeen lq lloose (importedModules lp.main.body) lXt true r, lYf r) = (openGood lq lloose, lYa W) := congrArg Prod.snd hl
  have k1 := piece_app (hc os) (piece_app (hd os) hr)
  rw [body_cut] at k1
  have t := go_top (go_b W os) (piece_block (block_b W os) k1)
  rw [show 12 + (1 + (1016 + (979 + 2874))) = 4882 from rfl] at t
  unfold openEnds
  rw [e]
  have f : topFrom treeTable lp W 4882 (sA W os) = some r := by
    unfold topFrom
    dsimp only
    rw [size_a, size_n, size_s, t]
    rw [Option.bind_some, l1]
  rw [Option.bind_some, f, Option.map_some, l2]
theorem law_left : LeftO lp lq lloose lXt lYf lYa 4882 :=
  byRow2 "special-get-raises" (fun w => left_side _ (run_cf w) (run_df w)) (fun w => left_side _ (run_ct w) (run_dt w))
end Mine
end

section
open PySem PySem.W PyProof.Rows PySem.Calls PySem.SeqAt
set_option maxRecDepth 100000
namespace Mine

theorem said_row : PySem.Challenge.rw_wk0025_01.row.wellSaid = true := by kernel_rfl
theorem law_said : PySem.Challenge.rw_wk0025_01.wellSaid = true := by
  unfold OpenLaw.wellSaid
  rw [said_row]
  kernel_rfl
theorem law_defs : (defOf lq "law").isSome = true := by kernel_rfl
noncomputable def lDef : DefRec × List (PySem.Str × Expr) := (defOf lq "law").get law_defs
theorem law_def : defOf lq "law" = some (lDef.1, lDef.2) := (Option.some_get law_defs).symm
theorem law_the : lp.theDef "law" = some (lDef.1.params, lDef.1.body, lDef.1.scope) := by kernel_rfl
theorem law_kw : kwWritten? lDef.1.params.kwonlyargs lDef.1.params.kw_defaults = some lDef.2 := by kernel_rfl
theorem law_name : lDef.1.name = "law" := by kernel_rfl
theorem law_ok : (chainsOk lq && opensWell lp && (frees PySem.Challenge.rw_wk0025_01.row.toRowW && PySem.Challenge.rw_wk0025_01.row.toRowW.within.isEmpty)) = true := by kernel_rfl
theorem law_bare : lp.bare := ⟨rfl, rfl, rfl, rfl, rfl, by kernel_rfl⟩
end Mine
end

section
open PySem PySem.W PyProof.Rows PySem.Calls PySem.SeqAt
namespace Mine
set_option maxRecDepth 100000
theorem args_bytes_decode_2 (a b : Value) : argsOk "bytes.decode" ⟨[a, b], []⟩ := by unfold argsOk; kernel_rfl
theorem slot_bytes_join : Slot "bytes" "join" "bytes.join" :=
  .of (owner := "bytes") (n := "join") (by rw [typeLookup_type, builtinLookup_eq_fast]; kernel_rfl) (by decide +kernel) (by decide +kernel) (by decide +kernel)
    (by first | exact .inl (by decide +kernel) | exact .inr (by decide +kernel)) (by rw [isSubtype_type]; kernel_rfl)
theorem type_bytes_join : typeOf (.builtin "bytes.join") = pure (.type "method_descriptor") := by show builtinType _ = _; rw [builtinType_eq_fast]; kernel_rfl
theorem entry_bytes_join : entryFor table "bytes.join" = some Builtin.«bytes.join» := entryFor_of_tree (by kernel_rfl)
theorem args_bytes_join_2 (a b : Value) : argsOk "bytes.join" ⟨[a, b], []⟩ := by unfold argsOk; kernel_rfl
theorem slot_bytes_split : Slot "bytes" "split" "bytes.split" :=
  .of (owner := "bytes") (n := "split") (by rw [typeLookup_type, builtinLookup_eq_fast]; kernel_rfl) (by decide +kernel) (by decide +kernel) (by decide +kernel)
    (by first | exact .inl (by decide +kernel) | exact .inr (by decide +kernel)) (by rw [isSubtype_type]; kernel_rfl)
theorem type_bytes_split : typeOf (.builtin "bytes.split") = pure (.type "method_descriptor") := by show builtinType _ = _; rw [builtinType_eq_fast]; kernel_rfl
theorem entry_bytes_split : entryFor table "bytes.split" = some Builtin.«bytes.split» := entryFor_of_tree (by kernel_rfl)
theorem args_bytes_split_1 (a : Value) : argsOk "bytes.split" ⟨[a], []⟩ := by unfold argsOk; kernel_rfl
theorem args_bytes_split_2 (a b : Value) : argsOk "bytes.split" ⟨[a, b], []⟩ := by unfold argsOk; kernel_rfl
theorem plainAttrs_Pattern : PlainAttrs "re.Pattern" := by
  first
    | exact ⟨⟨"re.Pattern.__getattribute__", by rw [typeLookup_type, builtinLookup_eq_fast]; kernel_rfl, by decide +kernel⟩, by rw [typeLookup_type, builtinLookup_eq_fast]; kernel_rfl⟩
    | exact ⟨⟨"object.__getattribute__", by rw [typeLookup_type, builtinLookup_eq_fast]; kernel_rfl, by decide +kernel⟩, by rw [typeLookup_type, builtinLookup_eq_fast]; kernel_rfl⟩
theorem plainAttrs_Match : PlainAttrs "re.Match" := by
  first
    | exact ⟨⟨"re.Match.__getattribute__", by rw [typeLookup_type, builtinLookup_eq_fast]; kernel_rfl, by decide +kernel⟩, by rw [typeLookup_type, builtinLookup_eq_fast]; kernel_rfl⟩
    | exact ⟨⟨"object.__getattribute__", by rw [typeLookup_type, builtinLookup_eq_fast]; kernel_rfl, by decide +kernel⟩, by rw [typeLookup_type, builtinLookup_eq_fast]; kernel_rfl⟩
theorem slot_re_Pattern_match : Slot "re.Pattern" "match" "re.Pattern.match" :=
  .of (owner := "re.Pattern") (n := "match") (by rw [typeLookup_type, builtinLookup_eq_fast]; kernel_rfl) (by decide +kernel) (by decide +kernel) (by decide +kernel)
    (by first | exact .inl (by decide +kernel) | exact .inr (by decide +kernel)) (by rw [isSubtype_type]; kernel_rfl)
theorem type_re_Pattern_match : typeOf (.builtin "re.Pattern.match") = pure (.type "method_descriptor") := by show builtinType _ = _; rw [builtinType_eq_fast]; kernel_rfl
theorem entry_re_Pattern_match : entryFor table "re.Pattern.match" = some Builtin.«re.Pattern.match» := entryFor_of_tree (by kernel_rfl)
theorem args_re_Pattern_match_2 (a b : Value) : argsOk "re.Pattern.match" ⟨[a, b], []⟩ := by unfold argsOk; kernel_rfl
theorem slot_re_Pattern_sub : Slot "re.Pattern" "sub" "re.Pattern.sub" :=
  .of (owner := "re.Pattern") (n := "sub") (by rw [typeLookup_type, builtinLookup_eq_fast]; kernel_rfl) (by decide +kernel) (by decide +kernel) (by decide +kernel)
    (by first | exact .inl (by decide +kernel) | exact .inr (by decide +kernel)) (by rw [isSubtype_type]; kernel_rfl)
theorem type_re_Pattern_sub : typeOf (.builtin "re.Pattern.sub") = pure (.type "method_descriptor") := by show builtinType _ = _; rw [builtinType_eq_fast]; kernel_rfl
theorem entry_re_Pattern_sub : entryFor table "re.Pattern.sub" = some Builtin.«re.Pattern.sub» := entryFor_of_tree (by kernel_rfl)
theorem args_re_Pattern_sub_3 (a b c : Value) : argsOk "re.Pattern.sub" ⟨[a, b, c], []⟩ := by unfold argsOk; kernel_rfl
theorem slot_re_Match_group : Slot "re.Match" "group" "re.Match.group" :=
  .of (owner := "re.Match") (n := "group") (by rw [typeLookup_type, builtinLookup_eq_fast]; kernel_rfl) (by decide +kernel) (by decide +kernel) (by decide +kernel)
    (by first | exact .inl (by decide +kernel) | exact .inr (by decide +kernel)) (by rw [isSubtype_type]; kernel_rfl)
theorem type_re_Match_group : typeOf (.builtin "re.Match.group") = pure (.type "method_descriptor") := by show builtinType _ = _; rw [builtinType_eq_fast]; kernel_rfl
theorem entry_re_Match_group : entryFor table "re.Match.group" = some Builtin.«re.Match.group» := entryFor_of_tree (by kernel_rfl)
theorem args_re_Match_group_2 (a b : Value) : argsOk "re.Match.group" ⟨[a, b], []⟩ := by unfold argsOk; kernel_rfl
theorem entry_sub_loop : entryFor table "re.Pattern.sub.loop" = some Builtin.«re.Pattern.sub.loop» := entryFor_of_tree (by kernel_rfl)
end Mine
end

section
open PySem PySem.W PyProof.Rows PySem.Calls
namespace Mine

/-! ## Data and what bears it -/
inductive D where
  | none
  | bool (b : Bool)
  | int (i : Int)
  | sol (i : Int)
  | str (s : Str)
  | bytes (b : Array UInt8)
  | tup (l : List D)
  | lst (l : List D)
  | mat (P : Addr) (b : Array UInt8) (p q : Nat)
  | dic (l : List (PyData × PyData))

/-- a state, and a ghost: which int a token bears -/
structure Gs where
  sh : Shared
  τ : Tok → Option Int
instance : Coe Gs Shared := ⟨Gs.sh⟩
noncomputable abbrev Gs.heap (s : Gs) : Heap := s.sh.heap
noncomputable abbrev Gs.toks (s : Gs) : Tok := s.sh.toks
noncomputable abbrev Gs.on (s : Gs) (h : Heap) (tk : Tok) : Gs := ⟨{ s.sh with heap := h, toks := tk }, s.τ⟩

noncomputable def PlainTup (h : Heap) (a : Addr) (items : Array Value) : Prop := ∃ n, h.get? a = some { cls := .type "tuple", data := .seq items n }
theorem PlainTup.isTuple {h : Heap} {a : Addr} {items : Array Value} (x : PlainTup h a items) : h.IsTuple a items := let ⟨n, e⟩ := x; ⟨_, e, rfl, n, rfl⟩

mutual
inductive Rep (s : Gs) (X : Addr → Prop) : Value → D → Prop
  | none : Rep s X .none .none
  | bool (b : Bool) : Rep s X (.bool b) (.bool b)
  | int (i : Int) (t : Tok) : Rep s X (.int i t) (.int i)
  | sol (i : Int) (t : Tok) : s.τ t = some i → Rep s X (.int i t) (.sol i)
  | str (x : Str) (t : Tok) : Rep s X (.str x t) (.str x)
  | bytes (x : Array UInt8) (t : Tok) : Rep s X (.bytes x t) (.bytes x)
  | tup {a : Addr} {vs : Array Value} {ds : List D} : PlainTup s.heap a vs → ¬ X a → Reps s X vs.toList ds → Rep s X (.ref a) (.tup ds)
  | lst {a : Addr} {vs : Array Value} {ds : List D} : s.heap.PlainList a vs → ¬ X a → Reps s X vs.toList ds → Rep s X (.ref a) (.lst ds)
  | mat {a P tup : Addr} {b : Array UInt8} {p q : Nat} {t : Tok} {f2 f3 f4 e0 e1 : Value} : s.heap.get? a = some { cls := .type "re.Match", data := .fields #[.bytes b t, .ref P, f2, f3, f4, .ref tup] } →
      PlainTup s.heap tup #[e0, e1, rawInt p, rawInt q] → ¬ X a → ¬ X tup → Rep s X (.ref a) (.mat P b p q)
  | dic {a : Addr} {o : Obj} {l : List (PyData × PyData)} : s.heap.get? a = some o → (∀ prog w, TabObj (PySem.intKind prog w) PyData.int l o) → (a == sysModules) = false → ¬ X a → Rep s X (.ref a) (.dic l)
inductive Reps (s : Gs) (X : Addr → Prop) : List Value → List D → Prop
  | nil : Reps s X [] []
  | cons {v : Value} {vs : List Value} {d : D} {ds : List D} : Rep s X v d → Reps s X vs ds → Reps s X (v :: vs) (d :: ds)
end


mutual
theorem Rep.move {s s' : Gs} {X X' : Addr → Prop} (hτ : ∀ t i, s.τ t = some i → s'.τ t = some i) (hk : ∀ b o, ¬ X b → s.heap.get? b = some o → s'.heap.get? b = some o) (hX : ∀ b o, X' b → s.heap.get? b = some o → X b) :
    ∀ {v : Value} {d : D}, Rep s X v d → Rep s' X' v d
  | _, _, .none => .none
  | _, _, .bool b => .bool b
  | _, _, .int i t => .int i t
  | _, _, .sol i t h => .sol i t (hτ t i h)
  | _, _, .str x t => .str x t
  | _, _, .bytes x t => .bytes x t
  | _, _, .tup ht hx hr => .tup (let ⟨n, e⟩ := ht; ⟨n, hk _ _ hx e⟩) (fun q => let ⟨n, e⟩ := ht; hx (hX _ _ q e)) (Reps.move hτ hk hX hr)
  | _, _, .lst ht hx hr => .lst (let ⟨n, e⟩ := ht; ⟨n, hk _ _ hx e⟩) (fun q => let ⟨n, e⟩ := ht; hx (hX _ _ q e)) (Reps.move hτ hk hX hr)
  | _, _, .mat e ht hx hy => .mat (hk _ _ hx e) (let ⟨n, e'⟩ := ht; ⟨n, hk _ _ hy e'⟩) (fun q => hx (hX _ _ q e)) (fun q => let ⟨n, e'⟩ := ht; hy (hX _ _ q e'))
  | _, _, .dic e ht hm hx => .dic (hk _ _ hx e) ht hm (fun q => hx (hX _ _ q e))
theorem Reps.move {s s' : Gs} {X X' : Addr → Prop} (hτ : ∀ t i, s.τ t = some i → s'.τ t = some i) (hk : ∀ b o, ¬ X b → s.heap.get? b = some o → s'.heap.get? b = some o) (hX : ∀ b o, X' b → s.heap.get? b = some o → X b) :
    ∀ {vs : List Value} {ds : List D}, Reps s X vs ds → Reps s' X' vs ds
  | _, _, .nil => .nil
  | _, _, .cons a b => .cons (Rep.move hτ hk hX a) (Reps.move hτ hk hX b)
end
theorem Rep.keep {s s' : Gs} {X : Addr → Prop} (hτ : ∀ t i, s.τ t = some i → s'.τ t = some i) (hk : ∀ b o, s.heap.get? b = some o → s'.heap.get? b = some o) {v : Value} {d : D} (r : Rep s X v d) : Rep s' X v d :=
  r.move hτ (fun b o _ => hk b o) fun _ _ q _ => q
theorem Reps.keep {s s' : Gs} {X : Addr → Prop} (hτ : ∀ t i, s.τ t = some i → s'.τ t = some i) (hk : ∀ b o, s.heap.get? b = some o → s'.heap.get? b = some o) {v : List Value} {d : List D} (r : Reps s X v d) : Reps s' X v d :=
  r.move hτ (fun b o _ => hk b o) fun _ _ q _ => q
theorem Rep.less {s : Gs} {X X' : Addr → Prop} (hX : ∀ b, X' b → X b) {v : Value} {d : D} (r : Rep s X v d) : Rep s X' v d := r.move (fun _ _ e => e) (fun _ _ _ e => e) fun _ _ q _ => hX _ q
theorem Reps.less {s : Gs} {X X' : Addr → Prop} (hX : ∀ b, X' b → X b) {v : List Value} {d : List D} (r : Reps s X v d) : Reps s X' v d := r.move (fun _ _ e => e) (fun _ _ _ e => e) fun _ _ q _ => hX _ q

theorem Reps.length {s : Gs} {X : Addr → Prop} : ∀ {vs : List Value} {ds : List D}, Reps s X vs ds → vs.length = ds.length
  | _, _, .nil => rfl
  | _, _, .cons _ b => by simp only [List.length_cons]; rw [b.length]
theorem Reps.get {s : Gs} {X : Addr → Prop} : ∀ {vs : List Value} {ds : List D}, Reps s X vs ds → ∀ {i : Nat} {d : D}, ds[i]? = some d → ∃ v, vs[i]? = some v ∧ Rep s X v d
  | _, _, .nil, _, _, e => by simp at e
  | _, _, .cons a b, i, d, e => by
    cases i with
    | zero => simp at e; subst e; exact ⟨_, by simp, a⟩
    | succ i => simp at e ⊢; exact b.get e
theorem Reps.append {s : Gs} {X : Addr → Prop} : ∀ {vs : List Value} {ds : List D} {vs' : List Value} {ds' : List D}, Reps s X vs ds → Reps s X vs' ds' → Reps s X (vs ++ vs') (ds ++ ds')
  | _, _, _, _, .nil, r => r
  | _, _, _, _, .cons a b, r => .cons a (b.append r)
theorem Reps.drop {s : Gs} {X : Addr → Prop} : ∀ (n : Nat) {vs : List Value} {ds : List D}, Reps s X vs ds → Reps s X (vs.drop n) (ds.drop n)
  | 0, _, _, r => r
  | _ + 1, _, _, .nil => .nil
  | n + 1, _, _, .cons _ b => b.drop n
theorem Reps.take {s : Gs} {X : Addr → Prop} : ∀ (n : Nat) {vs : List Value} {ds : List D}, Reps s X vs ds → Reps s X (vs.take n) (ds.take n)
  | 0, _, _, _ => .nil
  | _ + 1, _, _, .nil => .nil
  | n + 1, _, _, .cons a b => .cons a (b.take n)
theorem Reps.reverse {s : Gs} {X : Addr → Prop} : ∀ {vs : List Value} {ds : List D}, Reps s X vs ds → Reps s X vs.reverse ds.reverse
  | _, _, .nil => .nil
  | _, _, .cons a b => by rw [List.reverse_cons, List.reverse_cons]; exact b.reverse.append (.cons a .nil)

/-! ## Growing states -/
structure Grow (s s' : Gs) : Prop where
  same : ∃ h tk, s'.sh = { s.sh with heap := h, toks := tk }
  keep : ∀ b o, s.heap.get? b = some o → s'.heap.get? b = some o
  toks : s.toks ≤ s'.toks
  ext : ∀ t i, s.τ t = some i → s'.τ t = some i
  sane : (∀ t i, s.τ t = some i → t ≠ 0 ∧ t < s.toks) → ∀ t i, s'.τ t = some i → t ≠ 0 ∧ t < s'.toks
theorem Grow.refl (s : Gs) : Grow s s := ⟨⟨s.heap, s.toks, rfl⟩, fun _ _ e => e, Nat.le_refl _, fun _ _ e => e, fun h => h⟩
theorem Grow.trans {s s' s'' : Gs} (x : Grow s s') (y : Grow s' s'') : Grow s s'' := by
  obtain ⟨h, t, e⟩ := x.same
  obtain ⟨h', t', e'⟩ := y.same
  exact ⟨⟨h', t', by rw [e', e]⟩, fun b o e => y.keep b o (x.keep b o e), Nat.le_trans x.toks y.toks, fun t i e => y.ext t i (x.ext t i e), fun h => y.sane (x.sane h)⟩
/-- the ghost stays -/
theorem Grow.of {s : Gs} {h : Heap} {tk : Tok} (k : ∀ b o, s.heap.get? b = some o → h.get? b = some o) (ht : s.toks ≤ tk) : Grow s (s.on h tk) :=
  ⟨⟨h, tk, rfl⟩, k, ht, fun _ _ e => e, fun q t i e => ⟨(q t i e).1, Nat.lt_of_lt_of_le (q t i e).2 ht⟩⟩
theorem Grow.tok (s : Gs) {tk : Tok} (ht : s.toks ≤ tk) : Grow s (s.on s.heap tk) := Grow.of (fun _ _ e => e) ht
theorem Grow.push (s : Gs) (o : Obj) : Grow s (s.on (s.heap.push o) s.toks) := Grow.of (fun _ _ e => Heap.get?_push_of_some o e) (Nat.le_refl _)
/-- a new int, and its token -/
noncomputable def Gs.int (s : Gs) (i : Int) : Gs := ⟨{ s.sh with toks := s.toks + 1 }, fun t => if t = s.toks then some i else s.τ t⟩
theorem Grow.int (s : Gs) (i : Int) (h0 : 0 < s.toks) (hs : ∀ t i, s.τ t = some i → t ≠ 0 ∧ t < s.toks) : Grow s (s.int i) :=
  ⟨⟨s.heap, s.toks + 1, rfl⟩, fun _ _ e => e, Nat.le_succ _, fun t i e => by
    show (if t = s.toks then _ else _) = _
    rw [if_neg (Nat.ne_of_lt (hs t i e).2)]; exact e, fun _ t j e => by
    change (if t = s.toks then some i else s.τ t) = some j at e
    show t ≠ 0 ∧ t < s.toks + 1
    by_cases h : t = s.toks
    · exact ⟨fun q => by rw [h] at q; exact absurd q (Nat.pos_iff_ne_zero.mp h0), by rw [h]; exact Nat.lt_succ_self _⟩
    · rw [if_neg h] at e
      exact ⟨(hs t j e).1, Nat.lt_succ_of_lt (hs t j e).2⟩⟩
theorem Gs.int_τ (s : Gs) (i : Int) : (s.int i).τ s.toks = some i := if_pos rfl
theorem Rep.grow {s s' : Gs} {X : Addr → Prop} (g : Grow s s') {v : Value} {d : D} (r : Rep s X v d) : Rep s' X v d := r.keep g.ext g.keep
theorem Reps.grow {s s' : Gs} {X : Addr → Prop} (g : Grow s s') {v : List Value} {d : List D} (r : Reps s X v d) : Reps s' X v d := r.keep g.ext g.keep

structure Good (s : Gs) (X : Addr → Prop) : Prop where
  live : ∀ a, X a → ∃ o, s.heap.get? a = some o
  pos : 0 < s.toks
  sane : ∀ t i, s.τ t = some i → t ≠ 0 ∧ t < s.toks
theorem Good.grow {s s' : Gs} {X : Addr → Prop} (h : Good s X) (g : Grow s s') : Good s' X :=
  ⟨fun a q => let ⟨o, e⟩ := h.live a q; ⟨o, g.keep _ _ e⟩, Nat.lt_of_lt_of_le h.pos g.toks, g.sane h.sane⟩

/-! ## The world, the frame -/
structure Wld where
  K : Frag
  p : Program
  loose : List Str
  mg : Str → Option Value
  mb : Str → Option Value
  /-- ints of the text's own whose tokens matter -/
  nums : Tok → Option Int
structure Wld.In (W : Wld) (s : Gs) : Prop where
  k : W.K.In s.heap
  t : TopRead W.p W.loose W.mg W.mb s.heap
  nb : NoneBooked s.heap
  nums : ∀ t i, W.nums t = some i → s.τ t = some i
theorem Wld.In.keeps {W : Wld} {s s' : Gs} (x : W.In s) (hk : ∀ b o, s.heap.get? b = some o → s'.heap.get? b = some o) (hτ : ∀ t i, s.τ t = some i → s'.τ t = some i) : W.In s' :=
  ⟨x.k.keeps hk, x.t.keeps hk, let ⟨mc, a, b⟩ := x.nb; ⟨mc, a.keeps hk, b⟩, fun t i e => hτ t i (x.nums t i e)⟩

structure Room (A : Around) (n : Nat) : Prop where
  handled : A.handled = none
  depth : A.depth + n < recursionLimit
  units : A.units + 40 * n + 2000 < cLine

/-- what stays the same while one frame (or one comprehension) runs -/
structure Cx where
  prog : Program
  w : World
  W : Wld
  A : Around
  n : Nat
  env : Env
  s₀ : Gs
  X₀ : Addr → Prop
  own : Bool

structure Cx.Ok (c : Cx) : Prop where
  kind : c.env.scope.kind = .function
  glob : c.env.globals = mainGlobals
  bi : c.env.builtins = builtinsNs
  room : Room c.A c.n
  wd : c.W.In c.s₀
  live : ∀ a, c.X₀ a → ∃ o, c.s₀.heap.get? a = some o
  newL : c.s₀.heap.get? c.env.locals = none
  cells : ∀ x a, c.env.cells.lookup x = some a → (c.own = true → c.s₀.heap.get? a = none) ∧ (c.own = false → c.X₀ a)
  apart : ∀ x y a, c.env.cells.lookup x = some a → c.env.cells.lookup y = some a → x = y

noncomputable abbrev Vars := List (Str × D)
noncomputable abbrev Owns := List (Str × Addr × List D)

/-- where a name stands -/
noncomputable def Has (env : Env) (h : Heap) (x : Str) (v : Value) : Prop :=
  (env.kindOf x = some .local ∧ ∃ m, h.Ns env.locals m ∧ m x = some v) ∨
  ((env.kindOf x = some .cell ∨ env.kindOf x = some .free) ∧ ∃ a, env.cells.lookup x = some a ∧ h.IsCell a (some v))

noncomputable def Xω (Y : Addr → Prop) (ω : Owns) (a : Addr) : Prop := Y a ∨ ∃ q ∈ ω, q.2.1 = a
/-- what the frame may write -/
noncomputable def Cx.Ow (c : Cx) (ω : Owns) (a : Addr) : Prop := a = c.env.locals ∨ (c.own = true ∧ ∃ x, c.env.cells.lookup x = some a) ∨ ∃ q ∈ ω, q.2.1 = a

structure Fs (c : Cx) (Y : Addr → Prop) (ρ : Vars) (ω : Owns) (s : Gs) : Prop where
  same : ∃ h tk, s.sh = { c.s₀.sh with heap := h, toks := tk }
  pos : 0 < s.toks
  sane : ∀ t i, s.τ t = some i → t ≠ 0 ∧ t < s.toks
  ext : ∀ t i, c.s₀.τ t = some i → s.τ t = some i
  mono : c.s₀.toks ≤ s.toks
  keep : ∀ b o, c.s₀.heap.get? b = some o → s.heap.get? b = some o
  x₀ : ∀ a, c.X₀ a → Y a
  yl : Y c.env.locals
  yc : ∀ x a, c.env.cells.lookup x = some a → Y a
  ylive : ∀ a, Y a → ∃ o, s.heap.get? a = some o
  ns : ∃ m, s.heap.Ns c.env.locals m
  cell : ∀ x a, c.env.cells.lookup x = some a → ∃ v, s.heap.IsCell a v
  vars : ∀ x d, ρ.lookup x = some d → ∃ v, Has c.env s.heap x v ∧ Rep s (Xω Y ω) v d
  owns : ∀ q ∈ ω, Has c.env s.heap q.1 (.ref q.2.1) ∧ c.s₀.heap.get? q.2.1 = none ∧ ¬ Y q.2.1 ∧ ∃ vs : Array Value, s.heap.PlainList q.2.1 vs ∧ Reps s (Xω Y ω) vs.toList q.2.2
  nodup : (ω.map (·.2.1)).Nodup
  names : (ω.map (·.1)).Nodup

theorem ns_keep {h h' : Heap} {a : Addr} {m : Str → Option Value} (x : h.Ns a m) (hk : ∀ o, h.get? a = some o → h'.get? a = some o) : h'.Ns a m := let ⟨o, es, ep, e, r⟩ := x; ⟨o, es, ep, hk _ e, r⟩
theorem cell_keep {h h' : Heap} {a : Addr} {v : Option Value} (x : h.IsCell a v) (hk : ∀ o, h.get? a = some o → h'.get? a = some o) : h'.IsCell a v := let ⟨o, e, r⟩ := x; ⟨o, hk _ e, r⟩

theorem Has.keep {env : Env} {h h' : Heap} {x : Str} {v : Value} (H : Has env h x v) (hk : ∀ b o, h.get? b = some o → h'.get? b = some o) : Has env h' x v := by
  rcases H with ⟨a, m, b, d⟩ | ⟨k, a, l, ce⟩
  · exact .inl ⟨a, m, b.keeps hk, d⟩
  · exact .inr ⟨k, a, l, ce.keeps hk⟩

theorem plain_keep {h h' : Heap} {a : Addr} {vs : Array Value} (x : h.PlainList a vs) (hk : ∀ o, h.get? a = some o → h'.get? a = some o) : h'.PlainList a vs := let ⟨n, e⟩ := x; ⟨n, hk _ e⟩

theorem Fs.grow {c : Cx} {Y : Addr → Prop} {ρ : Vars} {ω : Owns} {s s' : Gs} (F : Fs c Y ρ ω s) (g : Grow s s') : Fs c Y ρ ω s' := by
  have k := g.keep
  obtain ⟨h, t, e₁⟩ := g.same
  obtain ⟨h₀, t₀, e⟩ := F.same
  refine ⟨⟨h, t, by rw [e₁, e]⟩, Nat.lt_of_lt_of_le F.pos g.toks, g.sane F.sane, fun t i q => g.ext t i (F.ext t i q), Nat.le_trans F.mono g.toks, fun b o q => k b o (F.keep b o q), F.x₀, F.yl, F.yc, fun a q => ?_, ?_, fun x a q => ?_, fun x d q => ?_, fun q hq => ?_, F.nodup, F.names⟩
  · obtain ⟨o, e⟩ := F.ylive a q; exact ⟨o, k _ _ e⟩
  · obtain ⟨m, e⟩ := F.ns; exact ⟨m, e.keeps k⟩
  · obtain ⟨v, e⟩ := F.cell x a q; exact ⟨v, e.keeps k⟩
  · obtain ⟨v, e, r⟩ := F.vars x d q; exact ⟨v, e.keep k, r.grow g⟩
  · obtain ⟨e, f, y, vs, p, r⟩ := F.owns q hq
    exact ⟨e.keep k, f, y, vs, plain_keep p (k _), r.grow g⟩

theorem Fs.wd {c : Cx} (ok : c.Ok) {Y : Addr → Prop} {ρ : Vars} {ω : Owns} {s : Gs} (F : Fs c Y ρ ω s) : c.W.In s := ok.wd.keeps F.keep F.ext

/-- fewer names known -/
noncomputable def Sub (ρ' ρ : Vars) : Prop := ∀ x d, ρ'.lookup x = some d → ρ.lookup x = some d
theorem Sub.refl (ρ : Vars) : Sub ρ ρ := fun _ _ e => e
theorem Sub.trans {a b c : Vars} (x : Sub a b) (y : Sub b c) : Sub a c := fun _ _ e => y _ _ (x _ _ e)
theorem Sub.nil (ρ : Vars) : Sub [] ρ := fun _ _ e => by cases e
theorem Sub.cons {x : Str} {d : D} {ρ' ρ : Vars} (h : ρ.lookup x = some d) (r : Sub ρ' ρ) : Sub ((x, d) :: ρ') ρ := fun y e q => by
  rw [List.lookup_cons] at q
  cases hy : y == x with
  | true => rw [hy] at q; cases q; rw [beq_iff_eq.mp hy]; exact h
  | false => rw [hy] at q; exact r _ _ q
theorem Sub.under {x : Str} {d : D} {ρ' ρ : Vars} (r : Sub ρ' ρ) : Sub ((x, d) :: ρ') ((x, d) :: ρ) := fun y e q => by
  rw [List.lookup_cons] at q ⊢
  cases hy : y == x with
  | true => rw [hy] at q; exact q
  | false => rw [hy] at q; exact r _ _ q
theorem Sub.app {l ρ' ρ : Vars} (r : Sub ρ' ρ) : Sub (l ++ ρ') (l ++ ρ) := by
  induction l with
  | nil => exact r
  | cons a l ih => exact ih.under
theorem Fs.less {c : Cx} {Y : Addr → Prop} {ρ ρ' : Vars} {ω : Owns} {s : Gs} (F : Fs c Y ρ ω s) (h : Sub ρ' ρ) : Fs c Y ρ' ω s :=
  ⟨F.same, F.pos, F.sane, F.ext, F.mono, F.keep, F.x₀, F.yl, F.yc, F.ylive, F.ns, F.cell, fun x d e => F.vars x d (h x d e), F.owns, F.nodup, F.names⟩

/-- an owned list becomes plain data -/
theorem Fs.freeze {c : Cx} {Y : Addr → Prop} {ρ : Vars} {ω : Owns} {x : Str} {a : Addr} {ds : List D} {s : Gs} (F : Fs c Y ρ ((x, a, ds) :: ω) s) : Fs c Y ((x, .lst ds) :: ρ) ω s := by
  have hy : ¬ Y a := (F.owns _ (.head _)).2.2.1
  have hX : ∀ b, Xω Y ω b → Xω Y ((x, a, ds) :: ω) b := fun b q => q.imp id fun ⟨p, hp, e⟩ => ⟨p, .tail _ hp, e⟩
  have hna : ¬ Xω Y ω a := fun q => by
    rcases q with q | ⟨p, hp, e⟩
    · exact hy q
    · have := F.nodup
      simp only [List.map_cons, List.nodup_cons] at this
      exact this.1 (List.mem_map.mpr ⟨p, hp, e⟩)
  refine ⟨F.same, F.pos, F.sane, F.ext, F.mono, F.keep, F.x₀, F.yl, F.yc, F.ylive, F.ns, F.cell, fun y d e => ?_, fun q hq => ?_, ?_, ?_⟩
  · rw [List.lookup_cons] at e
    cases hy' : y == x with
    | true =>
      rw [hy'] at e; cases e
      rw [beq_iff_eq.mp hy']
      obtain ⟨H, _, _, vs, ⟨n, p⟩, r⟩ := F.owns _ (.head _)
      exact ⟨_, H, .lst ⟨n, p⟩ hna (r.less hX)⟩
    | false =>
      rw [hy'] at e
      obtain ⟨v, H, r⟩ := F.vars y d e
      exact ⟨v, H, r.less hX⟩
  · obtain ⟨H, f, y, vs, p, r⟩ := F.owns q (.tail _ hq)
    exact ⟨H, f, y, vs, p, r.less hX⟩
  · have := F.nodup; simp only [List.map_cons, List.nodup_cons] at this; exact this.2
  · have := F.names; simp only [List.map_cons, List.nodup_cons] at this; exact this.2

theorem Fs.xlive {c : Cx} {Y : Addr → Prop} {ρ : Vars} {ω : Owns} {s : Gs} (F : Fs c Y ρ ω s) : ∀ a, Xω Y ω a → ∃ o, s.heap.get? a = some o := fun a q => by
  rcases q with q | ⟨p, hp, rfl⟩
  · exact F.ylive a q
  · obtain ⟨_, _, _, vs, ⟨n, e⟩, _⟩ := F.owns p hp
    exact ⟨_, e⟩
theorem Fs.good {c : Cx} {Y : Addr → Prop} {ρ : Vars} {ω : Owns} {s : Gs} (F : Fs c Y ρ ω s) : Good s (Xω Y ω) := ⟨F.xlive, F.pos, F.sane⟩
/-- an int, its token whatever -/
class inductive IntD : D → outParam Int → Prop
  | i {a : Int} : IntD (.int a) a
  | s {a : Int} : IntD (.sol a) a
instance {a : Int} : IntD (.int a) a := .i
instance {a : Int} : IntD (.sol a) a := .s
theorem IntD.val {s : Gs} {X : Addr → Prop} {v : Value} {d : D} {a : Int} (h : IntD d a) (r : Rep s X v d) : ∃ t, v = .int a t := by
  cases h <;> cases r <;> exact ⟨_, rfl⟩

end Mine
end

section
open PySem PySem.W PyProof.Rows PySem.Calls
namespace Mine

/-! ## Judgements of expressions -/
structure Ev (c : Cx) (ρ : Vars) (ω : Owns) (e : Expr) (d : D) : Prop where
  run : ∀ Y s, Fs c Y ρ ω s → ∀ (Q : Value → Shared → Prop) (E : Value → Shared → Prop),
    (∀ v s', Grow s s' → Rep s' (Xω Y ω) v d → Q v s') → wpAny (model c.prog c.w) c.A (eval e c.env) Q E s

structure Evs (c : Cx) (ρ : Vars) (ω : Owns) (es : List Expr) (ds : List D) : Prop where
  run : ∀ pos Y s, Fs c Y ρ ω s → ∀ (Q : List Value → Shared → Prop) (E : Value → Shared → Prop),
    (∀ vs s', Grow s s' → Reps s' (Xω Y ω) vs ds → Q vs s') → wpAny (model c.prog c.w) c.A (spliced (backTo pos (starEach es c.env))) Q E s

/-- a test: its answer, nothing of the state but that it grows -/
structure Tr (c : Cx) (ρ : Vars) (ω : Owns) (e : Expr) (b : Bool) : Prop where
  run : ∀ Y s, Fs c Y ρ ω s → ∀ (Q : Bool → Shared → Prop) (E : Value → Shared → Prop),
    (∀ s', Grow s s' → Q b s') → wpAny (model c.prog c.w) c.A (isTrue e c.env (eval e c.env)) Q E s

/-- a binary step on data -/
structure Op2 (c : Cx) (t : Value → Value → Sem Value) (d e r : D) : Prop where
  run : ∀ X s v u, Good s X → Rep s X v d → Rep s X u e → ∀ (Q : Value → Shared → Prop) (E : Value → Shared → Prop),
    (∀ x s', Grow s s' → Rep s' X x r → Q x s') → wpAny (model c.prog c.w) c.A (t v u) Q E s
structure Op1 (c : Cx) (t : Value → Sem Value) (d r : D) : Prop where
  run : ∀ X s v, Good s X → Rep s X v d → ∀ (Q : Value → Shared → Prop) (E : Value → Shared → Prop),
    (∀ x s', Grow s s' → Rep s' X x r → Q x s') → wpAny (model c.prog c.w) c.A (t v) Q E s
structure Truth (c : Cx) (d : D) (b : Bool) : Prop where
  run : ∀ X s v, Good s X → Rep s X v d → ∀ (Q : Bool → Shared → Prop) (E : Value → Shared → Prop),
    (∀ s', Grow s s' → Q b s') → wpAny (model c.prog c.w) c.A (truthy v) Q E s

section
variable {c : Cx} {ρ : Vars} {ω : Owns} {Y : Addr → Prop} {s : Gs}

theorem Ev.name {x : Str} {pos : Pos} {d : D} (ok : c.Ok) (h : ρ.lookup x = some d) (hd : (x == ("__debug__" : Str)) = false := by decide) (hn : (x == ("__classdict__" : Str)) = false := by decide) :
    Ev c ρ ω (.Name x pos) d := .mk fun Y s F Q E k => by
  obtain ⟨v, H, r⟩ := F.vars x d h
  rcases H with ⟨hk, m, hm, hv⟩ | ⟨hk, a, hl, hc⟩
  · exact wpAny_Name (wpAny_loadName_local ok.kind hk hm hv (k v s (Grow.refl s) r)) hd
  · rcases hk with hk | hk
    · exact wpAny_Name (wpAny_loadName_cell ok.kind hk hl hc (k v s (Grow.refl s) r)) hd
    · exact wpAny_Name (wpAny_loadName_free ok.kind hk hl hc (k v s (Grow.refl s) r) hn) hd

theorem Ev.int {i : Int} {k : Nat} {pos : Pos} : Ev c ρ ω (.Constant (.int i) k pos) (.sol i) := .mk fun Y s F Q E h =>
  wpAny_Constant_int (h _ _ (Grow.int s i F.pos F.sane) (.sol i _ (Gs.int_τ s i)))
theorem Ev.cbool {b : Bool} {k : Nat} {pos : Pos} : Ev c ρ ω (.Constant (.bool b) k pos) (.bool b) := .mk fun Y s _ Q E h =>
  wpAny_Constant_bool (h _ _ (Grow.refl s) (.bool b))
theorem Ev.cstr {x : Str} {k : Nat} {pos : Pos} : Ev c ρ ω (.Constant (.str x) k pos) (.str x) := .mk fun Y s _ Q E h =>
  wpAny_Constant_str (h _ _ (Grow.tok s (Nat.le_succ _)) (.str x _))
theorem Ev.cbytes {x : List UInt8} {k : Nat} {pos : Pos} : Ev c ρ ω (.Constant (.bytes x) k pos) (.bytes x.toArray) := .mk fun Y s _ Q E h => by
  show wpAny _ _ (mkTextBytes x.toArray) _ _ _
  exact fun Γ p _ => h (.bytes x.toArray s.toks) (s.on s.heap (s.toks + 1)) (Grow.tok s (Nat.le_succ _)) (.bytes _ _)

/-- a name of the text's own -/
theorem global_val {x : Str} {pos : Pos} {v : Value} (ok : c.Ok) (F : Fs c Y ρ ω s) (e : nsIn c.W.K mainGlobals x = some (some v)) (hx : c.env.kindOf x = some .globalImplicit)
    {Q : Value → Shared → Prop} {E : Value → Shared → Prop} (h : Q v s) (hd : (x == ("__debug__" : Str)) = false := by decide) : wpAny (model c.prog c.w) c.A (eval (.Name x pos) c.env) Q E s := by
  have wd := F.wd ok
  refine Name_function_global ok.kind hx (loadGlobal_global (mg := c.W.mg) (by rw [ok.glob]; exact wd.t.g) (mg_of wd.k wd.t.g e) h) hd
/-- a name of the interpreter's own -/
theorem builtin_val {x : Str} {pos : Pos} {v : Value} (ok : c.Ok) (F : Fs c Y ρ ω s) (e : nsIn c.W.K mainGlobals x = some none) (hv : bootBuiltins x = some v) (hx : c.env.kindOf x = some .globalImplicit) (hn : x ≠ "__name__")
    {Q : Value → Shared → Prop} {E : Value → Shared → Prop} (h : Q v s) (hd : (x == ("__debug__" : Str)) = false := by decide) : wpAny (model c.prog c.w) c.A (eval (.Name x pos) c.env) Q E s := by
  have wd := F.wd ok
  refine Name_function_global ok.kind hx (loadGlobal_builtin (mg := c.W.mg) (mb := c.W.mb) (by rw [ok.glob]; exact wd.t.g) (mg_none_of wd.k wd.t.g e) (by rw [ok.bi]; exact wd.t.b) ((wd.t.builtins x hn).trans hv) h) hd
theorem Ev.gint {x : Str} {pos : Pos} {i : Int} {t : Tok} (ok : c.Ok) (e : nsIn c.W.K mainGlobals x = some (some (.int i t))) (hx : c.env.kindOf x = some .globalImplicit) (hd : (x == ("__debug__" : Str)) = false := by decide) :
    Ev c ρ ω (.Name x pos) (.int i) := .mk fun Y s F Q E k => global_val ok F e hx (k _ s (Grow.refl s) (.int i t)) hd
theorem Ev.gstr {x : Str} {pos : Pos} {i : Str} {t : Tok} (ok : c.Ok) (e : nsIn c.W.K mainGlobals x = some (some (.str i t))) (hx : c.env.kindOf x = some .globalImplicit) (hd : (x == ("__debug__" : Str)) = false := by decide) :
    Ev c ρ ω (.Name x pos) (.str i) := .mk fun Y s F Q E k => global_val ok F e hx (k _ s (Grow.refl s) (.str i t)) hd

theorem Ev.bin {l r : Expr} {op : Operator} {pos : Pos} {a b d : D} (hl : Ev c ρ ω l a) (hr : Ev c ρ ω r b) (h : Op2 c (binaryOp op) a b d) : Ev c ρ ω (.BinOp l op r pos) d := .mk fun Y s F Q E k =>
  wpAny_BinOp (hl.run Y s F _ E fun v s₁ g₁ r₁ => hr.run Y s₁ (F.grow g₁) _ E fun u s₂ g₂ r₂ =>
    h.run (Xω Y ω) s₂ v u ((F.grow g₁).grow g₂).good (r₁.grow g₂) r₂ _ E fun x s₃ g₃ r₃ => k x s₃ ((g₁.trans g₂).trans g₃) r₃)
theorem Ev.un {x : Expr} {op : UnaryOp} {pos : Pos} {a d : D} (hl : Ev c ρ ω x a) (h : Op1 c (unaryOp op) a d) : Ev c ρ ω (.UnaryOp op x pos) d := .mk fun Y s F Q E k =>
  wpAny_UnaryOp (hl.run Y s F _ E fun v s₁ g₁ r₁ => h.run (Xω Y ω) s₁ v (F.grow g₁).good r₁ _ E fun x s₃ g₃ r₃ => k x s₃ (g₁.trans g₃) r₃)
theorem Ev.cmp {l r : Expr} {op : CmpOp} {pos : Pos} {a b d : D} (hl : Ev c ρ ω l a) (hr : Ev c ρ ω r b) (h : Op2 c (compareOp op) a b d) (hm : behindInMarks op r = false := by with_unfolding_all rfl) :
    Ev c ρ ω (.Compare l [op] [r] pos) d := .mk fun Y s F Q E k =>
  wpAny_Compare1 (hl.run Y s F _ E fun v s₁ g₁ r₁ => hr.run Y s₁ (F.grow g₁) _ E fun u s₂ g₂ r₂ =>
    h.run (Xω Y ω) s₂ v u ((F.grow g₁).grow g₂).good (r₁.grow g₂) r₂ _ E fun x s₃ g₃ r₃ => k x s₃ ((g₁.trans g₂).trans g₃) r₃) hm
theorem Tr.cmp {l r : Expr} {op : CmpOp} {pos : Pos} {a b : D} {t : Bool} (hl : Ev c ρ ω l a) (hr : Ev c ρ ω r b) (h : Op2 c (compareOp op) a b (.bool t)) (hm : behindInMarks op r = false := by with_unfolding_all rfl) :
    Tr c ρ ω (.Compare l [op] [r] pos) t := .mk fun Y s F Q E k =>
  wpAny_isTrue_Compare1 (hl.run Y s F _ E fun v s₁ g₁ r₁ => hr.run Y s₁ (F.grow g₁) _ E fun u s₂ g₂ r₂ =>
    h.run (Xω Y ω) s₂ v u ((F.grow g₁).grow g₂).good (r₁.grow g₂) r₂ _ E fun x s₃ g₃ r₃ => by
      cases r₃
      exact wpAny_truthy_bool (k s₃ ((g₁.trans g₂).trans g₃))) hm
theorem Tr.of {e : Expr} {d : D} {b : Bool} (h : Ev c ρ ω e d) (ht : Truth c d b) (he : isTrue e c.env (eval e c.env) = (do let v ← eval e c.env; standAt e.pos; holding [v] (truthy v)) := by rfl) : Tr c ρ ω e b := .mk fun Y s F Q E k =>
  wpAny_isTrue_value (h.run Y s F _ E fun v s₁ g₁ r₁ => ht.run _ s₁ v (F.grow g₁).good r₁ _ E fun s' g => k s' (g₁.trans g)) he
theorem Tr.not {x : Expr} {pos : Pos} {b : Bool} (h : Tr c ρ ω x b) : Tr c ρ ω (.UnaryOp .Not x pos) (!b) := .mk fun Y s F Q E k =>
  wpAny_isTrue_Not (h.run Y s F _ E fun s' g => k s' g)
theorem Tr.and2 {x y : Expr} {pos : Pos} {a b : Bool} (h : Tr c ρ ω x a) (h2 : a = true → Tr c ρ ω y b) : Tr c ρ ω (.BoolOp .And [x, y] pos) (a && b) := .mk fun Y s F Q E k =>
  wpAny_isTrue_BoolOp (wpAny_allTrue_And_cons (h.run Y s F _ E fun s₁ g₁ => by
    cases a with
    | false => exact k s₁ g₁
    | true => exact wpAny_allTrue_And_cons ((h2 rfl).run Y s₁ (F.grow g₁) _ E fun s₂ g₂ => by
        cases b with
        | false => exact k s₂ (g₁.trans g₂)
        | true => exact wpAny_allTrue_And_nil (k s₂ (g₁.trans g₂)))))
theorem Tr.or2 {x y : Expr} {pos : Pos} {a b : Bool} (h : Tr c ρ ω x a) (h2 : a = false → Tr c ρ ω y b) : Tr c ρ ω (.BoolOp .Or [x, y] pos) (a || b) := .mk fun Y s F Q E k =>
  wpAny_isTrue_BoolOp (wpAny_allTrue_Or_cons (h.run Y s F _ E fun s₁ g₁ => by
    cases a with
    | true => exact k s₁ g₁
    | false => exact wpAny_allTrue_Or_cons ((h2 rfl).run Y s₁ (F.grow g₁) _ E fun s₂ g₂ => by
        cases b with
        | true => exact k s₂ (g₁.trans g₂)
        | false => exact wpAny_allTrue_Or_nil (k s₂ (g₁.trans g₂)))))
theorem Ev.and2 {x y : Expr} {pos : Pos} {a b : Bool} (h : Ev c ρ ω x (.bool a)) (h2 : a = true → Ev c ρ ω y (.bool b)) : Ev c ρ ω (.BoolOp .And [x, y] pos) (.bool (a && b)) := .mk fun Y s F Q E k =>
  wpAny_And2 (h.run Y s F _ E fun v s₁ g₁ r₁ => by
    cases r₁
    refine wpAny_truthy_bool ?_
    cases a with
    | false => exact k _ s₁ g₁ (.bool _)
    | true => exact (h2 rfl).run Y s₁ (F.grow g₁) _ E fun v s₂ g₂ r₂ => k v s₂ (g₁.trans g₂) r₂)
theorem Ev.or2 {x y : Expr} {pos : Pos} {a b : Bool} (h : Ev c ρ ω x (.bool a)) (h2 : a = false → Ev c ρ ω y (.bool b)) : Ev c ρ ω (.BoolOp .Or [x, y] pos) (.bool (a || b)) := .mk fun Y s F Q E k =>
  wpAny_Or2 (h.run Y s F _ E fun v s₁ g₁ r₁ => by
    cases r₁
    refine wpAny_truthy_bool ?_
    cases a with
    | true => exact k _ s₁ g₁ (.bool _)
    | false => exact (h2 rfl).run Y s₁ (F.grow g₁) _ E fun v s₂ g₂ r₂ => k v s₂ (g₁.trans g₂) r₂)
theorem Ev.ifexp {t b o : Expr} {pos : Pos} {q : Bool} {d : D} (h : Tr c ρ ω t q) (h1 : q = true → Ev c ρ ω b d) (h2 : q = false → Ev c ρ ω o d) : Ev c ρ ω (.IfExp t b o pos) d := .mk fun Y s F Q E k =>
  wpAny_IfExp (h.run Y s F _ E fun s₁ g₁ => by
    cases q with
    | true => exact (h1 rfl).run Y s₁ (F.grow g₁) _ E fun v s₂ g₂ r₂ => k v s₂ (g₁.trans g₂) r₂
    | false => exact (h2 rfl).run Y s₁ (F.grow g₁) _ E fun v s₂ g₂ r₂ => k v s₂ (g₁.trans g₂) r₂)

theorem Truth.bool {b : Bool} : Truth c (.bool b) b := .mk fun X s v _ r Q E k => by cases r; exact wpAny_truthy_bool (k s (Grow.refl s))

theorem Evs.nil : Evs c ρ ω [] [] := .mk fun pos Y s _ Q E k => args_nil (k [] s (Grow.refl s) .nil)
theorem Evs.cons {e : Expr} {es : List Expr} {d : D} {ds : List D} (h : Ev c ρ ω e d) (hs : Evs c ρ ω es ds) (he : starEach (e :: es) c.env = (false, eval e c.env) :: starEach es c.env := by rfl) :
    Evs c ρ ω (e :: es) (d :: ds) := .mk fun pos Y s F Q E k =>
  args_cons (h.run Y s F _ E fun v s₁ g₁ r₁ => hs.run pos Y s₁ (F.grow g₁) _ E fun vs s₂ g₂ r₂ => k (v :: vs) s₂ (g₁.trans g₂) (.cons (r₁.grow g₂) r₂)) he

theorem newSeq_at {X : Addr → Prop} (hX : ∀ a, X a → ∃ o, s.heap.get? a = some o) : ¬ X s.heap.objs.size := fun q => by
  obtain ⟨o, e⟩ := hX _ q; exact absurd (Heap.lt_size e) (Nat.lt_irrefl _)

theorem Ev.tuple {es : List Expr} {n : Nat} {pos : Pos} {ds : List D} (h : Evs c ρ ω es ds) (hsz : ds.length ≤ 1000) : Ev c ρ ω (.Tuple es n pos) (.tup ds) := .mk fun Y s F Q E k =>
  wpAny_Tuple (h.run pos Y s F _ E fun vs s₁ g₁ r₁ => ⟨by rw [r₁.length]; exact Nat.le_trans hsz (by decide), k _ _ (g₁.trans (Grow.push s₁ _))
    (.tup ⟨_, Heap.get?_push_size _ rfl⟩ (newSeq_at (F.grow g₁).xlive) (by simpa using r₁.grow (Grow.push s₁ _)))⟩)
theorem Ev.list {es : List Expr} {pos : Pos} {ds : List D} (h : Evs c ρ ω es ds) (hsz : ds.length ≤ 1000) : Ev c ρ ω (.List es pos) (.lst ds) := .mk fun Y s F Q E k =>
  wpAny_List (h.run pos Y s F _ E fun vs s₁ g₁ r₁ => ⟨by rw [r₁.length]; exact Nat.le_trans hsz (by decide), k _ _ (g₁.trans (Grow.push s₁ _))
    (.lst ⟨_, Heap.get?_push_size _ rfl⟩ (newSeq_at (F.grow g₁).xlive) (by simpa using r₁.grow (Grow.push s₁ _)))⟩)
end

/-! ## Calls -/
/-- what a call of a value with these data gives, where n more frames fit -/
structure CallTo (prog : Program) (w : World) (W : Wld) (n : Nat) (f : Value) (ds : List D) (d : D) : Prop where
  run : ∀ A, Room A n → ∀ X s vs, W.In s → Good s X → Reps s X vs ds → ∀ (Q : Value → Shared → Prop) (E : Value → Shared → Prop),
    (∀ v s', Grow s s' → Rep s' X v d → Q v s') → wpAny (model prog w) A (call f vs) Q E s

theorem Room.less {A : Around} {n m : Nat} (r : Room A n) (h : m ≤ n) : Room A m := ⟨r.handled, by have := r.depth; omega, by have := r.units; omega⟩
theorem CallTo.more {prog : Program} {w : World} {W : Wld} {n m : Nat} {f : Value} {ds : List D} {d : D} (h : CallTo prog w W n f ds d) (hm : n ≤ m) : CallTo prog w W m f ds d :=
  .mk fun A r => h.run A (r.less hm)

section
variable {c : Cx} {ρ : Vars} {ω : Owns} {Y : Addr → Prop} {s : Gs}
theorem Ev.callG {x : Str} {p1 pos : Pos} {e : Expr} {es : List Expr} {f : Addr} {ds : List D} {d : D} {oc : Value} {od : Option Addr} {fd : FuncData} {osl : Array (Option Value)} (ok : c.Ok)
    (hf : nsIn c.W.K mainGlobals x = some (some (.ref f))) (hK : c.W.K.lookup f = some ⟨oc, od, .func fd, osl⟩) (hx : c.env.kindOf x = some .globalImplicit)
    (ha : Evs c ρ ω (e :: es) ds) (hc : CallTo c.prog c.w c.W c.n (.ref f) ds d) (hd : (x == ("__debug__" : Str)) = false := by decide)
    (he : starEach (e :: es) c.env = (false, eval e c.env) :: starEach es c.env := by rfl) :
    Ev c ρ ω (.Call (.Name x p1) (e :: es) [] pos) d := .mk fun Y s F Q E k =>
  Call_ (global_val ok F hf hx (callWith_def (o := ⟨oc, od, .func fd, osl⟩) rfl (ha.run pos Y s F _ E fun vs s₁ g₁ r₁ =>
    ⟨(F.wd ok).k.keeps g₁.keep _ _ hK, hc.run c.A ok.room (Xω Y ω) s₁ vs ((F.grow g₁).wd ok) (F.grow g₁).good r₁ _ E fun v s₂ g₂ r₂ => k v s₂ (g₁.trans g₂) r₂⟩) he) hd)
end
end Mine
end

section
open PySem PySem.W PyProof.Rows PySem.Calls
namespace Mine

/-! ## Stores -/
theorem ns_unique {h : Heap} {a : Addr} {m m' : Str → Option Value} (x : h.Ns a m) (y : h.Ns a m') : m = m' := by
  obtain ⟨o, es, ep, e, d, _, f⟩ := x
  obtain ⟨o', es', ep', e', d', _, f'⟩ := y
  rw [e] at e'; cases e'
  rw [d] at d'; cases d'
  funext n
  rw [← f, ← f']
theorem ns_ne_cell {h : Heap} {a b : Addr} {m : Str → Option Value} {v : Option Value} (x : h.Ns a m) (y : h.IsCell b v) : a ≠ b := by
  rintro rfl
  obtain ⟨o, es, ep, e, d, _⟩ := x
  obtain ⟨o', e', d'⟩ := y
  rw [e] at e'; cases e'
  rw [d] at d'; cases d'
theorem ns_ne_plain {h : Heap} {a b : Addr} {m : Str → Option Value} {v : Array Value} (x : h.Ns a m) (y : h.PlainList b v) : a ≠ b := by
  rintro rfl
  obtain ⟨o, es, ep, e, d, _⟩ := x
  obtain ⟨n, e'⟩ := y
  rw [e] at e'; cases e'
  cases d
theorem cell_ne_plain {h : Heap} {a b : Addr} {c : Option Value} {v : Array Value} (x : h.IsCell a c) (y : h.PlainList b v) : a ≠ b := by
  rintro rfl
  obtain ⟨o', e', d'⟩ := x
  obtain ⟨n, e⟩ := y
  rw [e'] at e; cases e
  cases d'

/-- from one state of the frame to a later one -/
structure Mv (c : Cx) (ω ω' : Owns) (s s' : Gs) : Prop where
  keep : ∀ b o, ¬ c.Ow ω b → s.heap.get? b = some o → s'.heap.get? b = some o
  lv : ∀ b o, s.heap.get? b = some o → ∃ o', s'.heap.get? b = some o'
  fresh : ∀ q ∈ ω', (∃ p ∈ ω, p.2.1 = q.2.1) ∨ s.heap.get? q.2.1 = none
  ext : ∀ t i, s.τ t = some i → s'.τ t = some i
  toks : s.toks ≤ s'.toks

theorem Mv.refl (c : Cx) (ω : Owns) (s : Gs) : Mv c ω ω s s := ⟨fun _ _ _ e => e, fun _ o e => ⟨o, e⟩, fun q hq => .inl ⟨q, hq, rfl⟩, fun _ _ e => e, Nat.le_refl _⟩
theorem Mv.of_grow {c : Cx} {ω : Owns} {s s' : Gs} (g : Grow s s') : Mv c ω ω s s' := ⟨fun b o _ e => g.keep b o e, fun b o e => ⟨o, g.keep b o e⟩, fun q hq => .inl ⟨q, hq, rfl⟩, g.ext, g.toks⟩
theorem Mv.trans {c : Cx} {ω ω' ω'' : Owns} {s s' s'' : Gs} (x : Mv c ω ω' s s') (y : Mv c ω' ω'' s' s'') : Mv c ω ω'' s s'' := by
  refine ⟨fun b o hb e => y.keep b o (fun q => ?_) (x.keep b o hb e), fun b o e => ?_, fun q hq => ?_, fun t i e => y.ext t i (x.ext t i e), Nat.le_trans x.toks y.toks⟩
  · rcases q with q | q | ⟨p, hp, rfl⟩
    · exact hb (.inl q)
    · exact hb (.inr (.inl q))
    · rcases x.fresh p hp with ⟨p', hp', e'⟩ | e'
      · exact hb (.inr (.inr ⟨p', hp', e'⟩))
      · rw [e] at e'; cases e'
  · obtain ⟨o', e'⟩ := x.lv b o e; exact y.lv b o' e'
  · rcases y.fresh q hq with ⟨p, hp, e⟩ | e
    · rcases x.fresh p hp with ⟨p', hp', e'⟩ | e'
      · exact .inl ⟨p', hp', e'.trans e⟩
      · exact .inr (by rw [← e]; exact e')
    · refine .inr ?_
      cases h : s.heap.get? q.2.1 with
      | none => rfl
      | some o => obtain ⟨o', e'⟩ := x.lv _ o h; rw [e] at e'; cases e'

/-- a write at one place of the frame's own, which keeps what the frame knows -/
theorem Fs.write {c : Cx} {Y : Addr → Prop} {ρ ρ' : Vars} {ω ω' : Owns} {s : Gs} {a : Addr} {h' : Heap} {tk : Tok} (ok : c.Ok) (F : Fs c Y ρ ω s) (hs : Heap.SameBut a s.heap h') (ha : Xω Y ω a) (hw : c.Ow ω a)
    (hω : ω'.map (·.2.1) = ω.map (·.2.1)) (hω1 : ω'.map (·.1) = ω.map (·.1))
    (ns : ∃ m, h'.Ns c.env.locals m) (cell : ∀ x a, c.env.cells.lookup x = some a → ∃ v, h'.IsCell a v)
    (live : ∃ o, h'.get? a = some o)
    (vars : ∀ x d, ρ'.lookup x = some d → ∃ v, Has c.env h' x v ∧ Rep (s.on h' tk) (Xω Y ω) v d)
    (owns : ∀ q ∈ ω', Has c.env h' q.1 (.ref q.2.1) ∧ ∃ vs : Array Value, h'.PlainList q.2.1 vs ∧ Reps (s.on h' tk) (Xω Y ω) vs.toList q.2.2) (ht : s.toks ≤ tk := by exact Nat.le_refl _) : Fs c Y ρ' ω' (s.on h' tk) := by
  obtain ⟨h₀, t₀, e₀⟩ := F.same
  have mem : ∀ q ∈ ω', ∃ p ∈ ω, p.2.1 = q.2.1 := fun q hq => by
    have : q.2.1 ∈ ω'.map (·.2.1) := List.mem_map.mpr ⟨q, hq, rfl⟩
    rw [hω] at this
    obtain ⟨p, hp, e⟩ := List.mem_map.mp this
    exact ⟨p, hp, e⟩
  have hX : ∀ b, Xω Y ω' b → Xω Y ω b := fun b q => q.imp id fun ⟨p, hp, e⟩ => let ⟨p', hp', e'⟩ := mem p hp; ⟨p', hp', e'.trans e⟩
  have ha₀ : c.s₀.heap.get? a = none ∨ False := by
    rcases hw with rfl | ⟨ho, x, hx⟩ | ⟨p, hp, rfl⟩
    · exact .inl ok.newL
    · exact .inl ((ok.cells x a hx).1 ho)
    · exact .inl (F.owns p hp).2.1
  have hk₀ : ∀ b o, c.s₀.heap.get? b = some o → h'.get? b = some o := fun b o e => by
    have hb : b ≠ a := by
      rintro rfl
      rcases ha₀ with q | q
      · rw [e] at q; cases q
      · exact q
    exact (hs.2 b hb).trans (F.keep b o e)
  refine ⟨⟨h', tk, by show ({ s.sh with heap := h', toks := tk } : Shared) = _; rw [e₀]⟩, Nat.lt_of_lt_of_le F.pos ht, fun t i e => ⟨(F.sane t i e).1, Nat.lt_of_lt_of_le (F.sane t i e).2 ht⟩, F.ext, Nat.le_trans F.mono ht, hk₀, F.x₀, F.yl, F.yc, fun b hb => ?_, ns, cell, fun x d e => ?_, fun q hq => ?_, ?_, ?_⟩
  · by_cases hba : b = a
    · rw [hba]; exact live
    · obtain ⟨o, e⟩ := F.ylive b hb; exact ⟨o, (hs.2 b hba).trans e⟩
  · obtain ⟨v, H, r⟩ := vars x d e
    exact ⟨v, H, r.less hX⟩
  · obtain ⟨H, vs, p, r⟩ := owns q hq
    obtain ⟨p', hp', e'⟩ := mem q hq
    obtain ⟨_, f, y, _⟩ := F.owns p' hp'
    exact ⟨H, e' ▸ f, e' ▸ y, vs, p, r.less hX⟩
  · rw [hω]; exact F.nodup
  · rw [hω1]; exact F.names

theorem Mv.write {c : Cx} {ω ω' : Owns} {s : Gs} {a : Addr} {h' : Heap} {tk : Tok} (hs : Heap.SameBut a s.heap h') (hw : c.Ow ω a) (live : ∃ o, h'.get? a = some o) (hω : ω'.map (·.2.1) = ω.map (·.2.1)) (ht : s.toks ≤ tk := by exact Nat.le_refl _) :
    Mv c ω ω' s (s.on h' tk) := by
  refine ⟨fun b o hb e => (hs.2 b (fun q => hb (q ▸ hw))).trans e, fun b o e => ?_, fun q hq => ?_, fun _ _ e => e, ht⟩
  · by_cases hba : b = a
    · rw [hba]; exact live
    · exact ⟨o, (hs.2 b hba).trans e⟩
  · have : q.2.1 ∈ ω'.map (·.2.1) := List.mem_map.mpr ⟨q, hq, rfl⟩
    rw [hω] at this
    obtain ⟨p, hp, e⟩ := List.mem_map.mp this
    exact .inl ⟨p, hp, e⟩

/-- may the frame store the name? -/
noncomputable def Cx.stores (c : Cx) (x : Str) : Prop := c.env.kindOf x = some .local ∨ (c.own = true ∧ c.env.kindOf x = some .cell ∧ (c.env.cells.lookup x).isSome = true)

theorem has_other {c : Cx} {h h' : Heap} {x y : Str} {v u : Value} {m : Str → Option Value} (hm : h.Ns c.env.locals m) (hm' : h'.Ns c.env.locals (fun z => if z = x then some u else m z))
    (hs : Heap.SameBut c.env.locals h h') (hxy : y ≠ x) (H : Has c.env h y v) : Has c.env h' y v := by
  rcases H with ⟨k, m₁, hm₁, hv⟩ | ⟨k, a, hl, hc⟩
  · exact .inl ⟨k, _, hm', by rw [if_neg hxy, ns_unique hm hm₁]; exact hv⟩
  · exact .inr ⟨k, a, hl, hc.sameBut hs (Ne.symm (ns_ne_cell hm hc))⟩

theorem store_any {c : Cx} {Y : Addr → Prop} {ρ : Vars} {ω : Owns} {s : Gs} {x : Str} {v : Value} (ok : c.Ok) (F : Fs c Y ρ ω s) (hx : c.stores x) (hω : x ∉ ω.map (·.1))
    {Q : Unit → Shared → Prop} {E : Value → Shared → Prop}
    (k : ∀ s', (∀ ρ' : Vars, (∀ y d, ρ'.lookup y = some d → (y = x ∧ Rep s (Xω Y ω) v d) ∨ (y ≠ x ∧ ρ.lookup y = some d)) → Fs c Y ρ' ω s') → Has c.env s'.heap x v → Mv c ω ω s s' →
      (∀ b, ¬ Xω Y ω b → s'.heap.get? b = s.heap.get? b) → Q () s') : wpAny (model c.prog c.w) c.A (storeName c.env x v) Q E s := by
  obtain ⟨m, hm⟩ := F.ns
  have nx : ∀ q ∈ ω, q.1 ≠ x := fun q hq e => hω (e ▸ List.mem_map.mpr ⟨q, hq, rfl⟩)
  rcases hx with hx | ⟨ho, hx, hl⟩
  · refine wpAny_storeName_local hx hm (fun h' hm' hs => ?_) (by rw [ok.kind]; rfl)
    have hout : ∀ b, ¬ Xω Y ω b → h'.get? b = s.heap.get? b := fun b hb => hs.2 b fun e => hb (.inl (e ▸ F.yl))
    have mv : ∀ {v d}, Rep s (Xω Y ω) v d → Rep (s.on h' (s.toks + 1)) (Xω Y ω) v d := fun r => r.move (s := s) (s' := s.on h' (s.toks + 1)) (fun _ _ e => e) (fun b o hb e => (hout b hb).trans e) fun _ _ q _ => q
    have mvs : ∀ {v d}, Reps s (Xω Y ω) v d → Reps (s.on h' (s.toks + 1)) (Xω Y ω) v d := fun r => r.move (s := s) (s' := s.on h' (s.toks + 1)) (fun _ _ e => e) (fun b o hb e => (hout b hb).trans e) fun _ _ q _ => q
    have live : ∃ o, h'.get? c.env.locals = some o := let ⟨o, _, _, e, _⟩ := hm'; ⟨o, e⟩
    refine k (s.on h' (s.toks + 1)) (fun ρ' hρ' => F.write ok hs (.inl F.yl) (.inl rfl) rfl rfl ⟨_, hm'⟩ (fun y a ha => ?_) live (fun y d e => ?_) (fun q hq => ?_) (Nat.le_succ _)) (.inl ⟨hx, _, hm', if_pos rfl⟩) (Mv.write hs (.inl rfl) live rfl (Nat.le_succ _)) hout
    · obtain ⟨v, hc⟩ := F.cell y a ha
      exact ⟨v, hc.sameBut hs (Ne.symm (ns_ne_cell hm hc))⟩
    · rcases hρ' y d e with ⟨rfl, r⟩ | ⟨hy, e'⟩
      · exact ⟨v, .inl ⟨hx, _, hm', if_pos rfl⟩, mv r⟩
      · obtain ⟨u, H, r⟩ := F.vars y d e'
        exact ⟨u, has_other hm hm' hs hy H, mv r⟩
    · obtain ⟨H, f, y, vs, p, r⟩ := F.owns q hq
      refine ⟨has_other hm hm' hs (nx q hq) H, vs, plain_keep p fun o e => (hs.2 _ (Ne.symm (ns_ne_plain hm p))).trans e, mvs r⟩
  · obtain ⟨a, hl⟩ := Option.isSome_iff_exists.mp hl
    obtain ⟨v₀, hc⟩ := F.cell x a hl
    refine wpAny_storeName_cell ok.kind hx hl hc fun h' hc' hs => ?_
    have hout : ∀ b, ¬ Xω Y ω b → h'.get? b = s.heap.get? b := fun b hb => hs.2 b fun e => hb (.inl (e ▸ F.yc x a hl))
    have mv : ∀ {v d}, Rep s (Xω Y ω) v d → Rep (s.on h' s.toks) (Xω Y ω) v d := fun r => r.move (s := s) (s' := s.on h' s.toks) (fun _ _ e => e) (fun b o hb e => (hout b hb).trans e) fun _ _ q _ => q
    have mvs : ∀ {v d}, Reps s (Xω Y ω) v d → Reps (s.on h' s.toks) (Xω Y ω) v d := fun r => r.move (s := s) (s' := s.on h' s.toks) (fun _ _ e => e) (fun b o hb e => (hout b hb).trans e) fun _ _ q _ => q
    have live : ∃ o, h'.get? a = some o := let ⟨o, e, _⟩ := hc'; ⟨o, e⟩
    have hm' : h'.Ns c.env.locals m := hm.sameBut hs (ns_ne_cell hm hc)
    have oth : ∀ {y u}, y ≠ x → Has c.env s.heap y u → Has c.env h' y u := fun {y u} hy H => by
      rcases H with ⟨k, m₁, hm₁, hv⟩ | ⟨k, b, hb, hcb⟩
      · exact .inl ⟨k, _, hm₁.sameBut hs (ns_ne_cell hm₁ hc), hv⟩
      · exact .inr ⟨k, b, hb, hcb.sameBut hs fun e => hy (ok.apart y x a (e ▸ hb) hl)⟩
    have Hx : Has c.env h' x v := .inr ⟨.inl hx, a, hl, hc'⟩
    refine k (s.on h' s.toks) (fun ρ' hρ' => F.write (tk := s.toks) ok hs (.inl (F.yc x a hl)) (.inr (.inl ⟨ho, x, hl⟩)) rfl rfl ⟨_, hm'⟩ (fun y b hb => ?_) live (fun y d e => ?_) fun q hq => ?_) Hx (Mv.write (tk := s.toks) hs (.inr (.inl ⟨ho, x, hl⟩)) live rfl) hout
    · by_cases hba : b = a
      · exact ⟨_, hba ▸ hc'⟩
      · obtain ⟨u, hcb⟩ := F.cell y b hb
        exact ⟨u, hcb.sameBut hs hba⟩
    · rcases hρ' y d e with ⟨rfl, r⟩ | ⟨hy, e'⟩
      · exact ⟨v, Hx, mv r⟩
      · obtain ⟨u, H, r⟩ := F.vars y d e'
        exact ⟨u, oth hy H, mv r⟩
    · obtain ⟨H, f, y, vs, p, r⟩ := F.owns q hq
      exact ⟨oth (nx q hq) H, vs, plain_keep p fun o e => (hs.2 _ (Ne.symm (cell_ne_plain hc p))).trans e, mvs r⟩

/-- a name gets plain data -/
theorem store_dat {c : Cx} {Y : Addr → Prop} {ρ : Vars} {ω : Owns} {s : Gs} {x : Str} {v : Value} {d : D} (ok : c.Ok) (F : Fs c Y ρ ω s) (hx : c.stores x) (hω : x ∉ ω.map (·.1)) (r : Rep s (Xω Y ω) v d)
    {Q : Unit → Shared → Prop} {E : Value → Shared → Prop}
    (k : ∀ s', Fs c Y ((x, d) :: ρ) ω s' → Mv c ω ω s s' → (∀ b, ¬ Xω Y ω b → s'.heap.get? b = s.heap.get? b) → Q () s') : wpAny (model c.prog c.w) c.A (storeName c.env x v) Q E s :=
  store_any ok F hx hω fun s' h _ mv ho => k s' (h _ fun y e q => by
    rw [List.lookup_cons] at q
    cases hy : y == x with
    | true => rw [hy] at q; cases q; exact .inl ⟨beq_iff_eq.mp hy, r⟩
    | false => rw [hy] at q; exact .inr ⟨fun h => by rw [h] at hy; simp at hy, q⟩) mv ho

/-- fresh objects are put out of reach -/
theorem Fs.hide {c : Cx} {Y Z : Addr → Prop} {ρ : Vars} {ω : Owns} {s₁ s : Gs} (F : Fs c Y ρ ω s₁) (g : Grow s₁ s) (hz : ∀ b, Z b → s₁.heap.get? b = none) (hl : ∀ b, Z b → ∃ o, s.heap.get? b = some o) :
    Fs c (fun b => Y b ∨ Z b) ρ ω s := by
  have G := F.grow g
  have hX : ∀ b o, Xω (fun b => Y b ∨ Z b) ω b → s₁.heap.get? b = some o → Xω Y ω b := fun b o q e => by
    rcases q with (q | q) | q
    · exact .inl q
    · rw [hz b q] at e; cases e
    · exact .inr q
  refine ⟨G.same, G.pos, G.sane, G.ext, G.mono, G.keep, fun a q => .inl (G.x₀ a q), .inl G.yl, fun x a q => .inl (G.yc x a q), fun a q => q.elim (G.ylive a) (hl a), G.ns, G.cell, fun x d e => ?_, fun q hq => ?_, G.nodup, G.names⟩
  · obtain ⟨v, H, r⟩ := F.vars x d e
    exact ⟨v, H.keep g.keep, r.move g.ext (fun b o _ e => g.keep b o e) hX⟩
  · obtain ⟨H, f, y, vs, p, r⟩ := F.owns q hq
    refine ⟨H.keep g.keep, f, fun h => h.elim y fun z => ?_, vs, plain_keep p (g.keep _), r.move g.ext (fun b o _ e => g.keep b o e) hX⟩
    obtain ⟨n, e⟩ := p
    rw [hz _ z] at e; cases e
theorem Fs.show {c : Cx} {Y Y' : Addr → Prop} {ρ : Vars} {ω : Owns} {s s₀ : Gs} {ρ₀ : Vars} {ω₀ : Owns} (F₀ : Fs c Y ρ₀ ω₀ s₀) (F : Fs c Y' ρ ω s) (h : ∀ b, Y b → Y' b) : Fs c Y ρ ω s := by
  have hX : ∀ b, Xω Y ω b → Xω Y' ω b := fun b q => q.imp (h b) id
  refine ⟨F.same, F.pos, F.sane, F.ext, F.mono, F.keep, F₀.x₀, F₀.yl, F₀.yc, fun a q => F.ylive a (h a q), F.ns, F.cell, fun x d e => ?_, fun q hq => ?_, F.nodup, F.names⟩
  · obtain ⟨v, H, r⟩ := F.vars x d e
    exact ⟨v, H, r.less hX⟩
  · obtain ⟨H, f, y, vs, p, r⟩ := F.owns q hq
    exact ⟨H, f, fun z => y (h _ z), vs, p, r.less hX⟩

/-- a name gets a fresh list of the frame's own -/
theorem store_own {c : Cx} {Y : Addr → Prop} {ρ : Vars} {ω : Owns} {s₁ s : Gs} {x : Str} {a : Addr} {vs : Array Value} {ds : List D} (ok : c.Ok) (F₁ : Fs c Y ρ ω s₁) (g : Grow s₁ s) (hx : c.stores x) (hω : x ∉ ω.map (·.1)) (hρ : ρ.lookup x = none)
    (hf : s₁.heap.get? a = none) (hp : s.heap.PlainList a vs) (r : Reps s (fun b => Xω Y ω b ∨ b = a) vs.toList ds)
    {Q : Unit → Shared → Prop} {E : Value → Shared → Prop}
    (k : ∀ s', Fs c Y ρ ((x, a, ds) :: ω) s' → Mv c ω ((x, a, ds) :: ω) s₁ s' → Q () s') : wpAny (model c.prog c.w) c.A (storeName c.env x (.ref a)) Q E s := by
  have hnX : ¬ Xω Y ω a := fun q => by obtain ⟨o, e⟩ := F₁.xlive a q; rw [e] at hf; cases hf
  have hf₀ : c.s₀.heap.get? a = none := by
    cases h : c.s₀.heap.get? a with
    | none => rfl
    | some o => have := F₁.keep _ _ h; rw [this] at hf; cases hf
  have F := F₁.hide (Z := fun b => b = a) g (fun b e => by rw [e]; exact hf) fun b e => by obtain ⟨n, q⟩ := hp; exact ⟨_, by rw [e]; exact q⟩
  refine store_any ok F hx hω fun s' h H mv ho => ?_
  have F' := h ρ fun y d e => .inr ⟨fun q => by (rw [q, hρ] at e; cases e), e⟩
  have X1 : ∀ b, Xω Y ((x, a, ds) :: ω) b → Xω (fun b => Y b ∨ b = a) ω b := fun b q => by
    rcases q with q | ⟨p, hp, e⟩
    · exact .inl (.inl q)
    · cases hp with
      | head => exact .inl (.inr e.symm)
      | tail _ hp => exact .inr ⟨p, hp, e⟩
  have X2 : ∀ b, Xω (fun b => Y b ∨ b = a) ω b → Xω Y ω b ∨ b = a := fun b q => by
    rcases q with (q | q) | q
    · exact .inl (.inl q)
    · exact .inr q
    · exact .inl (.inr q)
  have pa : s'.heap.get? a = s.heap.get? a := by
    obtain ⟨n, e⟩ := hp
    refine (mv.keep a _ (fun q => ?_) e).trans e.symm
    rcases q with q | ⟨_, y, q⟩ | ⟨p, hp, q⟩
    · rw [q] at hnX; exact hnX (.inl F₁.yl)
    · exact hnX (.inl (F₁.yc y a q))
    · exact hnX (.inr ⟨p, hp, q⟩)
  refine k s' ⟨F'.same, F'.pos, F'.sane, F'.ext, F'.mono, F'.keep, F₁.x₀, F₁.yl, F₁.yc, fun b q => F'.ylive b (.inl q), F'.ns, F'.cell, fun y d e => ?_, fun q hq => ?_, ?_, ?_⟩ ⟨fun b o hb e => ?_, fun b o e => ?_, fun q hq => ?_, fun t i e => mv.ext t i (g.ext t i e), Nat.le_trans g.toks mv.toks⟩
  · obtain ⟨v, H, r'⟩ := F'.vars y d e
    exact ⟨v, H, r'.less X1⟩
  · cases hq with
    | head =>
      refine ⟨H, hf₀, fun q => hnX (.inl q), vs, plain_keep hp fun o e => pa.trans e, r.move mv.ext (fun b o hb e => ?_) fun b o q e => X2 b (X1 b q)⟩
      exact (ho b fun q => hb (X2 b q)).trans e
    | tail _ hq =>
      obtain ⟨H, f, y, vs, p, r⟩ := F'.owns q hq
      exact ⟨H, f, fun z => y (.inl z), vs, p, r.less X1⟩
  · rw [List.map_cons, List.nodup_cons]
    refine ⟨fun q => ?_, F₁.nodup⟩
    obtain ⟨p, hp, e⟩ := List.mem_map.mp q
    exact hnX (.inr ⟨p, hp, e⟩)
  · rw [List.map_cons, List.nodup_cons]
    exact ⟨hω, F₁.names⟩
  · exact mv.keep b o hb (g.keep b o e)
  · exact mv.lv b o (g.keep b o e)
  · cases hq with
    | head => exact .inr hf
    | tail _ hq => exact .inl ⟨q, hq, rfl⟩

/-! ## Statements -/
structure Fn (c : Cx) (s : Gs) : Prop where
  grow : Grow c.s₀ s
theorem Fs.fn {c : Cx} {Y : Addr → Prop} {ρ : Vars} {ω : Owns} {s : Gs} (F : Fs c Y ρ ω s) : Fn c s := ⟨⟨F.same, F.keep, F.mono, F.ext, fun _ => F.sane⟩⟩

/-- statements: behind them P holds of what is known, or a value of Rt was returned -/
structure Xq (c : Cx) (st : List Stmt) (ρ : Vars) (ω : Owns) (P : Vars → Owns → Prop) (Rt : D → Prop) : Prop where
  run : ∀ Y s, Fs c Y ρ ω s → ∀ (Q : Flow → Shared → Prop) (E : Value → Shared → Prop),
    (∀ s' ρ' ω', Fs c Y ρ' ω' s' → Mv c ω ω' s s' → P ρ' ω' → Q .next s') →
    (∀ v s' d, Fn c s' → Rep s' c.X₀ v d → Rt d → Q (.ret v) s') → wpAny (model c.prog c.w) c.A (execs st c.env) Q E s
/-- one statement -/
structure Xs (c : Cx) (st : Stmt) (ρ : Vars) (ω : Owns) (P : Vars → Owns → Prop) (Rt : D → Prop) : Prop where
  run : ∀ Y s, Fs c Y ρ ω s → ∀ (Q : Flow → Shared → Prop) (E : Value → Shared → Prop),
    (∀ s' ρ' ω', Fs c Y ρ' ω' s' → Mv c ω ω' s s' → P ρ' ω' → Q .next s') →
    (∀ v s' d, Fn c s' → Rep s' c.X₀ v d → Rt d → Q (.ret v) s') → wpAny (model c.prog c.w) c.A (exec st c.env) Q E s

/-- just this is known -/
noncomputable def At (ρ₀ : Vars) (ω₀ : Owns) (ρ : Vars) (ω : Owns) : Prop := Sub ρ₀ ρ ∧ ω = ω₀

section
variable {c : Cx} {ρ ρ' : Vars} {ω ω' : Owns} {P P' : Vars → Owns → Prop} {Rt : D → Prop} {sts : List Stmt} {st1 : Stmt}

theorem Xq.nil (h : P ρ ω) : Xq c [] ρ ω P Rt := .mk fun Y s F Q E k1 k2 => wpAny_execs_nil (k1 s ρ ω F (Mv.refl c ω s) h)
theorem Xq.cons {st : Stmt} {rest : List Stmt} (h : Xs c st ρ ω P' Rt) (hr : ∀ ρ' ω', P' ρ' ω' → Xq c rest ρ' ω' P Rt) : Xq c (st :: rest) ρ ω P Rt := .mk fun Y s F Q E k1 k2 =>
  wpAny_execs_cons (h.run Y s F _ E (fun s' ρ' ω' F' mv p => (hr ρ' ω' p).run Y s' F' _ E (fun s'' ρ'' ω'' F'' mv' p' => k1 s'' ρ'' ω'' F'' (mv.trans mv') p') k2) fun v s' d fn r q => k2 v s' d fn r q)
theorem Xq.consAt {st : Stmt} {rest : List Stmt} (h : Xs c st ρ ω (fun a b => a = ρ' ∧ b = ω') Rt) (hr : Xq c rest ρ' ω' P Rt) : Xq c (st :: rest) ρ ω P Rt :=
  Xq.cons h fun _ _ ⟨a, b⟩ => by subst a; subst b; exact hr
theorem Xq.less (h : Xq c sts ρ' ω P Rt) (hs : Sub ρ' ρ) : Xq c sts ρ ω P Rt := .mk fun Y s F => h.run Y s (F.less hs)
theorem Xs.less (h : Xs c st1 ρ' ω P Rt) (hs : Sub ρ' ρ) : Xs c st1 ρ ω P Rt := .mk fun Y s F => h.run Y s (F.less hs)
theorem Xq.mono {Rt' : D → Prop} (h : Xq c sts ρ ω P' Rt') (hp : ∀ ρ ω, P' ρ ω → P ρ ω) (hr : ∀ d, Rt' d → Rt d) : Xq c sts ρ ω P Rt := .mk fun Y s F Q E k1 k2 =>
  h.run Y s F Q E (fun s' a b F' mv p => k1 s' a b F' mv (hp _ _ p)) fun v s' d fn r q => k2 v s' d fn r (hr _ q)

theorem Xs.assign {x : Str} {p1 pos : Pos} {e : Expr} {d : D} (ok : c.Ok) (h : Ev c ρ ω e d) (hx : c.stores x) (hω : x ∉ ω.map (·.1)) (hs : swapsWith e (some (.Name x p1)) pos.line c.env = pure false) :
    Xs c (.Assign [.Name x p1] e pos) ρ ω (fun a b => a = (x, d) :: ρ ∧ b = ω) Rt := .mk fun Y s F Q E k1 k2 =>
  wpAny_Assign_Name (h.run Y s F _ E fun v s₁ g₁ r₁ => store_dat ok (F.grow g₁) hx hω r₁ fun s' F' mv _ => k1 s' _ _ F' ((Mv.of_grow g₁).trans mv) ⟨rfl, rfl⟩) hs

theorem Xs.ret {pos : Pos} {e : Expr} {d : D} (h : Ev c ρ ω e d) (hd : Rt d) : Xs c (.Return (some e) pos) ρ ω P Rt := .mk fun Y s F Q E k1 k2 =>
  wpAny_Return_some (h.run Y s F _ E fun v s₁ g₁ r₁ => k2 v s₁ d (F.grow g₁).fn (r₁.less fun b q => .inl (F.x₀ b q)) hd)
theorem Xq.ret {pos : Pos} {e : Expr} {d : D} {rest : List Stmt} (h : Ev c ρ ω e d) (hd : Rt d) : Xq c (.Return (some e) pos :: rest) ρ ω P Rt :=
  Xq.cons (P' := fun _ _ => False) (Xs.ret h hd) fun _ _ q => q.elim

theorem Xs.ite {t : Expr} {pos : Pos} {body orelse : List Stmt} {b : Bool} (h : Tr c ρ ω t b) (h1 : b = true → Xq c body ρ ω P Rt) (h2 : b = false → Xq c orelse ρ ω P Rt) : Xs c (.If t body orelse pos) ρ ω P Rt := .mk fun Y s F Q E k1 k2 =>
  wpAny_If (h.run Y s F _ E fun s₁ g₁ => by
    cases b with
    | true => exact (h1 rfl).run Y s₁ (F.grow g₁) Q E (fun s' a b F' mv p => k1 s' a b F' ((Mv.of_grow g₁).trans mv) p) k2
    | false => exact (h2 rfl).run Y s₁ (F.grow g₁) Q E (fun s' a b F' mv p => k1 s' a b F' ((Mv.of_grow g₁).trans mv) p) k2)
/-- a test that fails, nothing else to do -/
theorem Xq.skip {t : Expr} {pos : Pos} {body rest : List Stmt} (h : Tr c ρ ω t false) (hr : Xq c rest ρ ω P Rt) : Xq c (.If t body [] pos :: rest) ρ ω P Rt :=
  Xq.consAt (ρ' := ρ) (ω' := ω) (Xs.ite h (fun q => by cases q) fun _ => Xq.nil ⟨rfl, rfl⟩) hr
/-- a test that holds, and its body returns -/
theorem Xq.taken {t : Expr} {pos : Pos} {body orelse rest : List Stmt} (h : Tr c ρ ω t true) (hr : Xq c body ρ ω (fun _ _ => False) Rt) : Xq c (.If t body orelse pos :: rest) ρ ω P Rt :=
  Xq.cons (P' := fun _ _ => False) (Xs.ite h (fun _ => hr) fun q => by cases q) fun _ _ q => q.elim
end
end Mine
end

section
open PySem PySem.W PyProof.Rows PySem.Calls
namespace Mine

/-! ## Entering a def -/
theorem bindL_other {k : Str → Option NameKind} {x : Str} : ∀ (bs : List (Str × Value)) (m : Str → Option Value), x ∉ bs.map (·.1) → bindL k bs m x = m x
  | [], _, _ => rfl
  | (n, v) :: r, m, h => by
    rw [List.map_cons, List.mem_cons, not_or] at h
    rw [bindL, bindL_other r _ h.2]
    split
    · exact if_neg h.1
    · rfl
theorem bindL_get {k : Str → Option NameKind} {x : Str} {v : Value} (hk : k x = some .local) : ∀ (bs : List (Str × Value)) (m : Str → Option Value), (bs.map (·.1)).Nodup → (x, v) ∈ bs → bindL k bs m x = some v
  | (n, u) :: r, m, hn, h => by
    rw [List.map_cons, List.nodup_cons] at hn
    rw [bindL]
    cases h with
    | head => rw [bindL_other r _ hn.1, if_pos hk, if_pos rfl]
    | tail _ h => exact bindL_get hk r _ hn.2 h
theorem bindC_other {k : Str → Option NameKind} {x : Str} : ∀ (bs : List (Str × Value)) (m : Str → Option Value), x ∉ bs.map (·.1) → bindC k bs m x = m x
  | [], _, _ => rfl
  | (n, v) :: r, m, h => by
    rw [List.map_cons, List.mem_cons, not_or] at h
    rw [bindC, bindC_other r _ h.2]
    split
    · rfl
    · exact if_neg h.1
theorem bindC_get {k : Str → Option NameKind} {x : Str} {v : Value} (hk : k x ≠ some .local) : ∀ (bs : List (Str × Value)) (m : Str → Option Value), (bs.map (·.1)).Nodup → (x, v) ∈ bs → bindC k bs m x = some v
  | (n, u) :: r, m, hn, h => by
    rw [List.map_cons, List.nodup_cons] at hn
    rw [bindC]
    cases h with
    | head => rw [bindC_other r _ hn.1, if_neg hk, if_pos rfl]
    | tail _ h => exact bindC_get hk r _ hn.2 h

theorem zip_get {h : Gs} {X : Addr → Prop} {x : Str} {d : D} : ∀ {names : List Str} {vs : List Value} {ds : List D}, Reps h X vs ds → names.length = ds.length → (names.zip ds).lookup x = some d →
    ∃ v, (x, v) ∈ names.zip vs ∧ Rep h X v d
  | [], _, _, _, _, e => by cases e
  | n :: names, _, _, .cons a b, hl, e => by
    rw [List.zip_cons_cons, List.lookup_cons] at e
    cases hx : x == n with
    | true => rw [hx] at e; cases e; rw [beq_iff_eq.mp hx]; exact ⟨_, by rw [List.zip_cons_cons]; exact .head _, a⟩
    | false =>
      rw [hx] at e
      obtain ⟨v, hv, r⟩ := zip_get b (by simpa using hl) e
      exact ⟨v, by rw [List.zip_cons_cons]; exact .tail _ hv, r⟩

theorem Room.deeper {A : Around} {n : Nat} {env : Env} (r : Room A (n + 1)) : Room (A.deeper env) n :=
  ⟨r.handled, by show A.depth + 1 + n < _; have := r.depth; omega, by show A.units + 3 + 40 * n + 2000 < _; have := r.units; omega⟩

theorem cellsFrom_apart {h : Heap} {names : List (Str × NameKind)} : ∀ x y a, (cellsFrom h.objs.size names []).lookup x = some a → (cellsFrom h.objs.size names []).lookup y = some a → x = y := fun x y a hx hy =>
  name_of_addr (cellsFrom_ok names h h.objs.size [] ⟨fun _ _ q => (by cases q), .nil⟩ (Nat.le_refl _)).apart (mem_of_lookup hx) (mem_of_lookup hy)

noncomputable def envD (scope : Scope) (L f : Addr) (qual : Str) (code : Value) : Env :=
  { scope := scope, locals := L, globals := mainGlobals, cells := cellsFrom (L + 1) scope.names [], qual := qual, func := some f, code := code, frame := some L, builtins := builtinsNs }

section
variable {prog : Program} {w : World} {A : Around} {s : Shared}
theorem call_cells {R : Result → Shared → Prop} {a : Addr} {o : Obj} {fd : FuncData} {body : List Stmt} {vals : List Value} {binds : List (Str × Value)}
    (hroom : A.depth < recursionLimit) (ho : s.heap.get? a = some o) (hdata : o.data = .func fd) (hlim : s.heap.NoLimit) (hcd : s.heap.CodeRec fd.code fd.qualname)
    (hbody : fd.body = .stmts body) (hbind : bindArgs fd ⟨vals, []⟩ = pure binds) (hclo : fd.closure = [])
    (hkind : ∀ x ∈ binds, fd.scope.names.lookup x.1 = some .local ∨ (fd.scope.names.lookup x.1 = some .cell ∧ ((cellsFrom (s.heap.objs.size + 1) fd.scope.names []).lookup x.1).isSome = true))
    (h : ∀ s₁, s.toks ≤ s₁.toks → InCallC s (callEnvC fd s.heap.objs.size a).locals (bindL (callEnvC fd s.heap.objs.size a).kindOf binds fun _ => none) (callEnvC fd s.heap.objs.size a).cells
        (bindC (callEnvC fd s.heap.objs.size a).kindOf binds fun _ => none) s₁ →
      wpAny (model prog w) (A.deeper (callEnvC fd s.heap.objs.size a)) (execs body (callEnvC fd s.heap.objs.size a)) (fun f s' => R (.ok (.ret (match f with | .ret v => v | _ => .none))) s')
        (fun e s' => wpAny (model prog w) (A.deeper (callEnvC fd s.heap.objs.size a)) (leaving (callEnvC fd s.heap.objs.size a) e) (fun _ s'' => R (.error e) s'') (fun e' s'' => R (.error e') s'') s') s₁)
    (hco : fd.scope.isCoroutine = false) (hgen : fd.scope.isGenerator = false) (hk : fd.scope.kind = .function) :
    codeAny (model prog w) A (.call (.ref a) ⟨vals, []⟩) R s := by
  refine codeAny_call_function hroom ho hdata hco hgen hbody hcd ?_
  rw [hbind, hclo]
  refine wpAny_pure (wpAny_with_toks (Nat.le_refl s.toks) (wpAny_newFunctionEnv_cells hk hkind fun env he s' x => ?_))
  intro ht
  subst he
  exact ⟨hlim.keeps x.toInCall.keep, codeAny_func (h s' ht x)⟩
end

theorem callTo_def {prog : Program} {w : World} {W : Wld} {n : Nat} {f : Addr} {oc : Value} {od : Option Addr} {osl : Array (Option Value)} {fd : FuncData} {body : List Stmt} {scope : Scope} {names : List Str} {ds : List D} {d : D}
    (hK : W.K.lookup f = some ⟨oc, od, .func fd, osl⟩) (hcd : codeIn W.K fd.code fd.qualname = true)
    (hbody : fd.body = .stmts body) (hsc : fd.scope = scope) (hclo : fd.closure = []) (hg : fd.globals = mainGlobals) (hb : fd.builtins = builtinsNs)
    (hbind : ∀ vs : List Value, vs.length = names.length → bindArgs fd ⟨vs, []⟩ = pure (names.zip vs)) (hl : names.length = ds.length) (hnd : names.Nodup)
    (hkind : ∀ x ∈ names, scope.names.lookup x = some .local ∨ scope.names.lookup x = some .cell)
    (hco : scope.isCoroutine = false) (hgen : scope.isGenerator = false) (hk : scope.kind = .function)
    (h : ∀ A L s₀ X₀ qual code, Cx.Ok ⟨prog, w, W, A, n, envD scope L f qual code, s₀, X₀, true⟩ → Xq ⟨prog, w, W, A, n, envD scope L f qual code, s₀, X₀, true⟩ body (names.zip ds) [] (fun _ _ => False) (· = d)) :
    CallTo prog w W (n + 1) (.ref f) ds d := .mk fun A room X s vs wd hX r Q E k => by
  subst hsc
  have hlen : vs.length = names.length := r.length.trans hl.symm
  have hroom : A.depth < recursionLimit := by have := room.depth; omega
  refine wpAny_call ?_
  have cl : ∀ {x : Str}, fd.scope.names.lookup x = some .cell → ((cellsFrom (s.heap.objs.size + 1) fd.scope.names []).lookup x).isSome = true := fun {x} q => cellsFrom_some _ _ _ (.inl q)
  have fst : (names.zip vs).map (·.1) = names := by rw [List.map_fst_zip]; omega
  have env₀ : (callEnvC fd s.heap.objs.size f).kindOf = fun x => fd.scope.names.lookup x := rfl
  refine call_cells (o := ⟨oc, od, .func fd, osl⟩) hroom (wd.k _ _ hK) rfl wd.t.nolimit (codeRec_of wd.k hcd) hbody (hbind vs hlen) hclo (fun x hx => ?_) (fun s₁ ht I => ?_) hco hgen hk
  · have hxn : x.1 ∈ names := by rw [← fst]; exact List.mem_map.mpr ⟨x, hx, rfl⟩
    exact (hkind x.1 hxn).imp id fun q => ⟨q, cl q⟩
  · let c : Cx := ⟨prog, w, W, A.deeper (callEnvC fd s.heap.objs.size f), n, callEnvC fd s.heap.objs.size f, s, X, true⟩
    have hcells : ∀ x a, c.env.cells.lookup x = some a → s.heap.objs.size < a := fun x a q => I.above x a (mem_of_lookup q)
    have dead : ∀ a, s.heap.objs.size ≤ a → s.heap.get? a = none := fun a ha => by
      cases q : s.heap.get? a with
      | none => rfl
      | some o => exact absurd (Heap.lt_size q) (Nat.not_lt.mpr ha)
    have ok : c.Ok := by
      refine ⟨hk, hg, hb, room.deeper, wd, hX.live, dead _ (Nat.le_refl _), fun x a q => ⟨fun _ => dead a (Nat.le_of_lt (hcells x a q)), fun e => by cases e⟩, fun x y a hx hy => ?_⟩
      exact name_of_addr I.apart (mem_of_lookup hx) (mem_of_lookup hy)
    have keep := I.toInCall.keep
    let Y : Addr → Prop := fun a => X a ∨ a = s.heap.objs.size ∨ ∃ x, c.env.cells.lookup x = some a
    let G₁ : Gs := ⟨s₁, s.τ⟩
    have F : Fs c Y (names.zip ds) [] G₁ := by
      have hY : ∀ b o, Xω Y [] b → s.heap.get? b = some o → X b := fun b o q e => by
        rcases q with (q | q | ⟨x, q⟩) | ⟨_, q, _⟩
        · exact q
        · rw [q, dead _ (Nat.le_refl _)] at e; cases e
        · rw [dead _ (Nat.le_of_lt (hcells x b q))] at e; cases e
        · cases q
      refine ⟨I.toInCall.same, Nat.lt_of_lt_of_le hX.pos ht, fun t i e => ⟨(hX.sane t i e).1, Nat.lt_of_lt_of_le (hX.sane t i e).2 ht⟩, fun _ _ e => e, ht, keep, fun a q => .inl q, .inr (.inl rfl), fun x a q => .inr (.inr ⟨x, q⟩), fun a q => ?_, ⟨_, I.toInCall.ns⟩, fun x a q => ⟨_, I.cell x a q⟩, fun x d' e => ?_, fun q hq => (by cases hq), .nil, .nil⟩
      · rcases q with q | q | ⟨x, q⟩
        · obtain ⟨o, e⟩ := hX.live a q; exact ⟨o, keep _ _ e⟩
        · obtain ⟨o, _, _, e, _⟩ := I.toInCall.ns; exact ⟨o, q ▸ e⟩
        · obtain ⟨o, e, _⟩ := I.cell x a q; exact ⟨o, e⟩
      · obtain ⟨v, hv, rv⟩ := zip_get r hl e
        have hxn : x ∈ names := by rw [← fst]; exact List.mem_map.mpr ⟨_, hv, rfl⟩
        have nd : ((names.zip vs).map (·.1)).Nodup := by rw [fst]; exact hnd
        refine ⟨v, ?_, Rep.move (s := s) (s' := G₁) (fun _ _ e => e) (fun b o _ e => keep b o e) hY rv⟩
        rcases hkind x hxn with q | q
        · exact .inl ⟨q, _, I.toInCall.ns, bindL_get q _ _ nd hv⟩
        · obtain ⟨a, ha⟩ := Option.isSome_iff_exists.mp (cl q)
          refine .inr ⟨.inl q, a, ha, ?_⟩
          have := I.cell x a ha
          rwa [bindC_get (by show fd.scope.names.lookup x ≠ _; rw [q]; intro e; cases e) _ _ nd hv] at this
    have envE : callEnvC fd s.heap.objs.size f = envD fd.scope s.heap.objs.size f (fd.qualname ++ ".<locals>.") fd.code := by
      unfold callEnvC newEnv envD; rw [hg, hb]
    have hh := h (A.deeper (callEnvC fd s.heap.objs.size f)) s.heap.objs.size s X (fd.qualname ++ ".<locals>.") fd.code
    rw [← envE] at hh
    refine (hh ok).run Y G₁ F _ _ (fun _ _ _ _ _ q => q.elim) fun v s' d' fn rv e => ?_
    subst e
    exact k v s' fn.grow rv
end Mine
end

section
open PySem PySem.W PyProof.Rows PySem.Calls
namespace Mine

section
variable {c : Cx} {ρ : Vars} {ω : Owns} {Y : Addr → Prop} {s : Gs} {a b : Int}

theorem sol_at {X : Addr → Prop} {r : Int} {Q : Value → Shared → Prop} (hX : Good s X) (k : ∀ x s', Grow s s' → Rep s' X x (.sol r) → Q x s'.sh) : Q (.int r s.sh.toks) { s.sh with toks := s.sh.toks + 1 } :=
  k _ (s.int r) (Grow.int s r hX.pos hX.sane) (.sol _ _ (Gs.int_τ s r))
/-! ## Ints and bools -/
theorem Op2.add {d e : D} [hd : IntD d a] [he : IntD e b] : Op2 c (binaryOp .Add) d e (.sol (a + b)) := .mk fun X s v u hX rv ru Q E k => by
  obtain ⟨_, rfl⟩ := hd.val rv; obtain ⟨_, rfl⟩ := he.val ru; with_reducible exact PyProof.Rows.add_int (sol_at hX k)
theorem Op2.sub {d e : D} [hd : IntD d a] [he : IntD e b] : Op2 c (binaryOp .Sub) d e (.sol (a - b)) := .mk fun X s v u hX rv ru Q E k => by
  obtain ⟨_, rfl⟩ := hd.val rv; obtain ⟨_, rfl⟩ := he.val ru; with_reducible exact PyProof.Rows.sub_int (sol_at hX k)
theorem Op2.mul {d e : D} [hd : IntD d a] [he : IntD e b] (h : IntMulOk a b) : Op2 c (binaryOp .Mult) d e (.sol (a * b)) := .mk fun X s v u hX rv ru Q E k => by
  obtain ⟨_, rfl⟩ := hd.val rv; obtain ⟨_, rfl⟩ := he.val ru; with_reducible exact PyProof.Rows.mul_int (sol_at hX k) h
theorem Op2.mod {d e : D} [hd : IntD d a] [he : IntD e b] (h : b ≠ 0) : Op2 c (binaryOp .Mod) d e (.sol (a.fmod b)) := .mk fun X s v u hX rv ru Q E k => by
  obtain ⟨_, rfl⟩ := hd.val rv; obtain ⟨_, rfl⟩ := he.val ru; with_reducible exact PyProof.Rows.mod_int' h (sol_at hX k)
theorem Op2.fdiv {d e : D} [hd : IntD d a] [he : IntD e b] (h : b ≠ 0) (hp : Builtin.divisionGoesByPylong a b = false) : Op2 c (binaryOp .FloorDiv) d e (.sol (a.fdiv b)) := .mk fun X s v u hX rv ru Q E k => by
  obtain ⟨_, rfl⟩ := hd.val rv; obtain ⟨_, rfl⟩ := he.val ru; with_reducible exact PyProof.Rows.floordiv_int h (sol_at hX k) (.inl hp)
theorem Op2.pow {d e : D} [hd : IntD d a] [he : IntD e b] (h0 : 0 ≤ b) (h1 : b ≤ 1000000) (h2 : a.natAbs < 2 ^ 64) : Op2 c (binaryOp .Pow) d e (.sol (a ^ b.toNat)) := .mk fun X s v u hX rv ru Q E k => by
  obtain ⟨_, rfl⟩ := hd.val rv; obtain ⟨_, rfl⟩ := he.val ru; with_reducible exact pow_int_small h0 h1 h2 (sol_at hX k)
theorem Op2.shl {d e : D} [hd : IntD d a] [he : IntD e b] (h0 : 0 ≤ b) (h1 : b ≤ 1000000) (h2 : a.natAbs < 2 ^ 64) : Op2 c (binaryOp .LShift) d e (.sol (a * 2 ^ b.toNat)) := .mk fun X s v u hX rv ru Q E k => by
  obtain ⟨_, rfl⟩ := hd.val rv; obtain ⟨_, rfl⟩ := he.val ru; with_reducible exact lshift_int_small h0 h1 h2 (sol_at hX k)
theorem Op2.and {d e : D} [hd : IntD d a] [he : IntD e b] : Op2 c (binaryOp .BitAnd) d e (.sol (Builtin.bitAnd a b)) := .mk fun X s v u hX rv ru Q E k => by
  obtain ⟨_, rfl⟩ := hd.val rv; obtain ⟨_, rfl⟩ := he.val ru; with_reducible exact PyProof.Rows.and_int (sol_at hX k)
theorem Op2.ior {d e : D} [hd : IntD d a] [he : IntD e b] : Op2 c (inplaceOp .BitOr) d e (.sol (Builtin.bitOr a b)) := .mk fun X s v u hX rv ru Q E k => by
  obtain ⟨_, rfl⟩ := hd.val rv; obtain ⟨_, rfl⟩ := he.val ru; with_reducible exact PyProof.Rows.ior_int (sol_at hX k)
theorem Op2.iadd {d e : D} [hd : IntD d a] [he : IntD e b] : Op2 c (inplaceOp .Add) d e (.sol (a + b)) := .mk fun X s v u hX rv ru Q E k => by
  obtain ⟨_, rfl⟩ := hd.val rv; obtain ⟨_, rfl⟩ := he.val ru; with_reducible exact PyProof.Rows.iadd_int (sol_at hX k)
theorem Op2.eq {d e : D} [hd : IntD d a] [he : IntD e b] : Op2 c (compareOp .Eq) d e (.bool (a == b)) := .mk fun X s v u hX rv ru Q E k => by
  obtain ⟨_, rfl⟩ := hd.val rv; obtain ⟨_, rfl⟩ := he.val ru; with_reducible exact PyProof.Rows.eq_int (k _ _ (Grow.refl _) (.bool _))
theorem Op2.ne {d e : D} [hd : IntD d a] [he : IntD e b] : Op2 c (compareOp .NotEq) d e (.bool (a != b)) := .mk fun X s v u hX rv ru Q E k => by
  obtain ⟨_, rfl⟩ := hd.val rv; obtain ⟨_, rfl⟩ := he.val ru; with_reducible exact PyProof.Rows.ne_int (k _ _ (Grow.refl _) (.bool _))
theorem Op2.lt {d e : D} [hd : IntD d a] [he : IntD e b] : Op2 c (compareOp .Lt) d e (.bool (decide (a < b))) := .mk fun X s v u hX rv ru Q E k => by
  obtain ⟨_, rfl⟩ := hd.val rv; obtain ⟨_, rfl⟩ := he.val ru; with_reducible exact PyProof.Rows.lt_int (k _ _ (Grow.refl _) (.bool _))
theorem Op2.ge {d e : D} [hd : IntD d a] [he : IntD e b] : Op2 c (compareOp .GtE) d e (.bool (decide (b ≤ a))) := .mk fun X s v u hX rv ru Q E k => by
  obtain ⟨_, rfl⟩ := hd.val rv; obtain ⟨_, rfl⟩ := he.val ru; with_reducible exact PyProof.Rows.ge_int (k _ _ (Grow.refl _) (.bool _))
theorem Op1.neg {d : D} [hd : IntD d a] : Op1 c (unaryOp .USub) d (.sol (-a)) := .mk fun X s v hX rv Q E k => by
  obtain ⟨_, rfl⟩ := hd.val rv; with_reducible exact PyProof.Rows.neg_int (sol_at hX k)
theorem Op1.notb {t : Bool} : Op1 c (unaryOp .Not) (.bool t) (.bool (!t)) := .mk fun X s v _ rv Q E k => by
  cases rv; with_reducible exact PyProof.Rows.not_of (wpAny_truthy_bool (k _ _ (Grow.refl _) (.bool _)))
theorem Truth.int {d : D} [hd : IntD d a] : Truth c d (a != 0) := .mk fun X s v _ r Q E k => by
  obtain ⟨_, rfl⟩ := hd.val r; with_reducible exact PyProof.Rows.truthy_int (k _ (Grow.refl _))

/-! ## Items -/
theorem seqIndex_nat {i : Int} {n : Nat} (h0 : 0 ≤ i) (h : i.toNat < n) : seqIndex? i n = some i.toNat := by
  have h1 : ¬ i < 0 := by omega
  have h2 : i < n := by omega
  simp [seqIndex?, h1, h0, h2]
theorem Ev.item_lst {value slice : Expr} {pos : Pos} {ds : List D} {i : Int} {d di : D} [hdi : IntD di i] (hv : Ev c ρ ω value (.lst ds)) (hi : Ev c ρ ω slice di) (h0 : 0 ≤ i) (hx : ds[i.toNat]? = some d) (hf : i < 2 ^ 63)
    (hs : ∀ l u, subscripted slice false (.ref l) (.int i u) = operate [.ref l, .int i u] (getItem (.ref l) (.int i u)) := by intro _ _; rfl) : Ev c ρ ω (.Subscript value slice pos) d := .mk fun Y s F Q E k =>
  Subscript_ (hv.run Y s F _ E fun v s₁ g₁ r₁ => hi.run Y s₁ (F.grow g₁) _ E fun u s₂ g₂ r₂ => by
    obtain ⟨_, rfl⟩ := hdi.val r₂
    have r₁' := r₁.grow g₂
    cases r₁' with
    | lst p hn rs =>
      obtain ⟨v, hv, rv⟩ := rs.get hx
      with_reducible exact tail_any p.isList.typeIs PySem.slot_list_getitem.lookup (wpAny_getItem_list p.isList h0 hf (by simpa using hv) (k _ _ (g₁.trans g₂) rv)) (hs _ _))
theorem Ev.item_tup {value slice : Expr} {pos : Pos} {ds : List D} {i : Int} {d di : D} [hdi : IntD di i] (hv : Ev c ρ ω value (.tup ds)) (hi : Ev c ρ ω slice di) (h0 : 0 ≤ i) (hx : ds[i.toNat]? = some d) (hf : i < 2 ^ 63)
    (hs : ∀ l u, subscripted slice false (.ref l) (.int i u) = operate [.ref l, .int i u] (getItem (.ref l) (.int i u)) := by intro _ _; rfl) : Ev c ρ ω (.Subscript value slice pos) d := .mk fun Y s F Q E k =>
  Subscript_ (hv.run Y s F _ E fun v s₁ g₁ r₁ => hi.run Y s₁ (F.grow g₁) _ E fun u s₂ g₂ r₂ => by
    obtain ⟨_, rfl⟩ := hdi.val r₂
    have r₁' := r₁.grow g₂
    cases r₁' with
    | @tup a vs ds p hn rs =>
      obtain ⟨v, hv, rv⟩ := rs.get hx
      obtain ⟨n, e⟩ := p
      have hlt : i.toNat < vs.toList.length := (List.getElem?_eq_some_iff.mp hv).1
      have hT : s₂.sh.TypeIs (.ref a) "tuple" := ⟨_, e, rfl⟩
      with_reducible refine tail_any (T := "tuple") hT PyProof.Rows.slot_tuple_getitem.lookup (PySem.P.getItem_tuple (n := n) e (by omega) hf (seqIndex_nat h0 (by simpa using hlt)) (by simpa using hv) (k _ _ (g₁.trans g₂) rv)) (hs _ _))

/-! ## Slices -/
noncomputable def pickD {α : Type} (ds : List α) (lo hi : Option Int) : List α := (ds.drop (lo.elim 0 (clipAt ds.length))).take (hi.elim ds.length (clipAt ds.length) - lo.elim 0 (clipAt ds.length))
inductive EvO (c : Cx) (ρ : Vars) (ω : Owns) : Option Expr → Option Int → Prop
  | none : EvO c ρ ω none none
  | some {e : Expr} {i : Int} {d : D} [h : IntD d i] : Ev c ρ ω e d → EvO c ρ ω (some e) (some i)
theorem EvO.run {e : Option Expr} {i : Option Int} (h : EvO c ρ ω e i) {s : Gs} (F : Fs c Y ρ ω s) {Q : Value → Shared → Prop} {E : Value → Shared → Prop} (k : ∀ v s', Grow s s' → IsPart v i → Q v s') :
    wpAny (model c.prog c.w) c.A (evalPart e c.env) Q E s := by
  cases h with
  | none => rw [evalPart_none]; exact wpAny_pure (k _ _ (Grow.refl s) .none)
  | @some _ _ _ hd h => rw [evalPart_some]; exact h.run Y s F Q E fun v s' g r => by obtain ⟨_, rfl⟩ := hd.val r; exact k _ _ g (.int _ _)

theorem Grow.push2 (s : Gs) (o o' : Obj) : Grow s (s.on ((s.heap.push o).push o') s.toks) := Grow.of (fun _ _ e => Heap.get?_push_of_some _ (Heap.get?_push_of_some _ e)) (Nat.le_refl _)

theorem Ev.slice {value : Expr} {lower upper : Option Expr} {p pos : Pos} {ds : List D} {lo hi : Option Int} (hv : Ev c ρ ω value (.lst ds)) (hl : EvO c ρ ω lower lo) (hu : EvO c ρ ω upper hi) (hsz : ds.length ≤ 100000) :
    Ev c ρ ω (.Subscript value (.Slice lower upper none p) pos) (.lst (pickD ds lo hi)) := .mk fun Y s F Q E k => by
  refine Subscript_ (hv.run Y s F _ E fun v s₁ g₁ r₁ => wpAny_Slice (hl.run (F.grow g₁) fun vl s₂ g₂ pl => hu.run ((F.grow g₁).grow g₂) fun vu s₃ g₃ pu => ?_))
  have F₃ := ((F.grow g₁).grow g₂).grow g₃
  have r := (r₁.grow g₂).grow g₃
  cases r with
  | @lst a vs ds pl' hn rs =>
    rw [evalPart_none]
    have hlen : vs.size = ds.length := by have := rs.length; simpa using this
    have hsz' : vs.size ≤ sizeLine := by rw [hlen]; exact Nat.le_trans hsz (by decide)
    refine wpAny_pure (tail_any (T := "list") (pl'.isList.push _).typeIs PySem.slot_list_getitem.lookup (wpAny_getItem_list_slice (pl'.isList.push _) (Heap.IsSliceOf.new ..) pl pu .none (by simp) ?_ hsz') (by rfl))
    refine k _ _ (((g₁.trans g₂).trans g₃).trans (Grow.push2 s₃ _ _)) (.lst ⟨_, Heap.get?_push_size _ rfl⟩ (fun q => ?_) ?_)
    · obtain ⟨o, e⟩ := F₃.xlive _ q
      have := Heap.lt_size e
      rw [Heap.size_push] at this; exact Nat.lt_irrefl _ (Nat.lt_of_succ_lt this)
    · rw [slicePick_plain]
      show Reps _ _ ((vs.toList.drop _).take _) _
      rw [hlen]
      exact ((rs.drop _).take _).grow (Grow.push2 s₃ _ _)

theorem Ev.slice_rev {value e : Expr} {p pos : Pos} {ds : List D} (hv : Ev c ρ ω value (.lst ds)) {de : D} [hde : IntD de (-1)] (he : Ev c ρ ω e de) (hsz : ds.length ≤ 100000) :
    Ev c ρ ω (.Subscript value (.Slice none none (some e) p) pos) (.lst ds.reverse) := .mk fun Y s F Q E k => by
  refine Subscript_ (hv.run Y s F _ E fun v s₁ g₁ r₁ => wpAny_Slice ?_)
  rw [evalPart_none, evalPart_some]
  refine wpAny_pure (wpAny_pure (he.run Y s₁ (F.grow g₁) _ E fun u s₃ g₃ r₃ => ?_))
  have F₃ := (F.grow g₁).grow g₃
  have r := r₁.grow g₃
  obtain ⟨_, rfl⟩ := hde.val r₃
  cases r with
  | @lst a vs ds pl' hn rs =>
    have hlen : vs.size = ds.length := by have := rs.length; simpa using this
    have hsz' : vs.size ≤ sizeLine := by rw [hlen]; exact Nat.le_trans hsz (by decide)
    refine tail_any (T := "list") (pl'.isList.push _).typeIs PySem.slot_list_getitem.lookup (wpAny_getItem_list_slice (pl'.isList.push _) (Heap.IsSliceOf.new ..) .none .none (.int _ _) (by simp) ?_ hsz') (by rfl)
    refine k _ _ ((g₁.trans g₃).trans (Grow.push2 s₃ _ _)) (.lst ⟨_, Heap.get?_push_size _ rfl⟩ (fun q => ?_) ?_)
    · obtain ⟨o, e⟩ := F₃.xlive _ q
      have := Heap.lt_size e
      rw [Heap.size_push] at this; exact Nat.lt_irrefl _ (Nat.lt_of_succ_lt this)
    · rw [krv_pick]
      show Reps _ _ vs.toList.reverse _
      exact rs.reverse.grow (Grow.push2 s₃ _ _)

theorem Ev.slice_bytes {value : Expr} {lower upper : Option Expr} {p pos : Pos} {b : Array UInt8} {lo hi : Option Int} (hv : Ev c ρ ω value (.bytes b)) (hl : EvO c ρ ω lower lo) (hu : EvO c ρ ω upper hi) (hsz : b.size ≤ 100000) :
    Ev c ρ ω (.Subscript value (.Slice lower upper none p) pos) (.bytes (pickD b.toList lo hi).toArray) := .mk fun Y s F Q E k => by
  refine Subscript_ (hv.run Y s F _ E fun v s₁ g₁ r₁ => wpAny_Slice (hl.run (F.grow g₁) fun vl s₂ g₂ pl => hu.run ((F.grow g₁).grow g₂) fun vu s₃ g₃ pu => ?_))
  cases r₁ with
  | bytes b t =>
    rw [evalPart_none]
    have hsz' : (KBy.picked b lo hi).size ≤ sizeLine := Nat.le_trans (KBc.size_picked_le b lo hi) (Nat.le_trans hsz (by decide))
    refine wpAny_pure (wpAny_with_toks (Nat.le_refl s₃.toks) (tail_any (T := "bytes") (typeIs_bytes _ _ _) FB.slot_bytes_getitem.lookup (getItem_meets (typeIs_bytes _ _ _) (by decide) FB.slot_bytes_getitem FB.entry_bytes_getitem (FB.args_bytes_getitem_2 _ _) (KBc.meets_slice2 b t _ pl pu)
      ⟨Heap.IsSliceOf.new _ _ _ _, hsz', fun t' tk hle => ?_⟩) (by rfl)))
    refine k _ _ (((g₁.trans g₂).trans g₃).trans (Grow.of (h := s₃.heap.push _) (fun b o e => Heap.get?_push_of_some _ e) hle)) ?_
    rw [KBc.picked_eq]
    have : pickD b.toList lo hi = (b.toList.drop (lo.elim 0 (clipAt b.size))).take (hi.elim b.size (clipAt b.size) - lo.elim 0 (clipAt b.size)) := by
      unfold pickD; rw [Array.length_toList]
    rw [← this]
    exact .bytes _ _

/-! ## Lists, bytes, texts joined -/
theorem Op2.cat {xs ys : List D} (h : xs.length + ys.length ≤ 100000) : Op2 c (binaryOp .Add) (.lst xs) (.lst ys) (.lst (xs ++ ys)) := .mk fun X s v u hX rv ru Q E k => by
  cases rv with
  | @lst a vs _ p hn rs =>
    cases ru with
    | @lst b us _ q hm rt =>
      obtain ⟨n, e⟩ := p
      obtain ⟨n2, e2⟩ := q
      have l1 := rs.length
      have l2 := rt.length
      rw [Array.length_toList] at l1 l2
      with_reducible refine PySem.P.add_list (n := n) (n2 := n2) e e2 ?_ (by rw [l1, l2]; exact Nat.le_trans h (by decide))
      refine k _ _ (Grow.push s _) (.lst ⟨_, Heap.get?_push_size _ rfl⟩ (newSeq_at hX.live) ?_)
      rw [Array.toList_append]
      exact (rs.append rt).grow (Grow.push s _)
theorem Op2.catB {x y : Array UInt8} (h : x.size + y.size ≤ 100000) : Op2 c (binaryOp .Add) (.bytes x) (.bytes y) (.bytes (x ++ y)) := .mk fun X s v u hX rv ru Q E k => by
  cases rv; cases ru
  refine wpAny_with_toks (Nat.le_refl s.toks) ?_
  with_reducible exact KBy.add_bytes (Nat.le_trans h (by decide)) fun t' tk hle => k _ (s.on s.heap tk) (Grow.tok s hle) (.bytes _ _)
theorem Op2.catS {x y : PySem.Str} (h : x.length + y.length ≤ 100000) : Op2 c (binaryOp .Add) (.str x) (.str y) (.str (x ++ y)) := .mk fun X s v u hX rv ru Q E k => by
  cases rv; cases ru
  refine wpAny_with_toks (Nat.le_refl s.toks) ?_
  with_reducible exact KOpn.add (Nat.le_trans h (by decide)) fun t' tk _ hle => k _ (s.on s.heap tk) (Grow.tok s hle) (.str _ _)
end
end Mine
end

section
open PySem PySem.W PyProof.Rows PySem.Calls
namespace Mine

/-! ## Iterators -/
structure KeepW (wr : Addr → Prop) (s s' : Gs) : Prop where
  same : ∃ h tk, s'.sh = { s.sh with heap := h, toks := tk }
  ghost : s'.τ = s.τ
  toks : s.toks ≤ s'.toks
  keep : ∀ b o, ¬ wr b → s.heap.get? b = some o → s'.heap.get? b = some o

noncomputable def Got (pair : Bool) (v : Value) (d : D) (X : Addr → Prop) (h : Gs) : Prop :=
  if pair then ∃ T v1 v2 d1 d2, v = .ref T ∧ d = .tup [d1, d2] ∧ h.heap.IsTuple T #[v1, v2] ∧ Rep h X v1 d1 ∧ Rep h X v2 d2 else Rep h X v d

noncomputable def Tgt (pair : Bool) (tgt : Expr) : Prop := if pair then ∃ es n p, tgt = .Tuple es n p else ∃ x p, tgt = .Name x p

structure Src (prog : Program) (w : World) (A : Around) (pair : Bool) (it : Value) (wr : Addr → Prop) (its : List D) (X : Addr → Prop) (h₀ : Heap) (J : Nat → Gs → Prop) : Prop where
  frame : ∀ i (s s' : Gs), J i s → (∀ t i, s.τ t = some i → s'.τ t = some i) → (∀ b o, (wr b ∨ (¬ X b ∧ ∃ o', h₀.get? b = some o')) → s.heap.get? b = some o → s'.heap.get? b = some o) → J i s'
  live : ∀ i (s : Gs), J i s → ∀ b, wr b → ∃ o, s.heap.get? b = some o
  next : ∀ i d tgt (s : Gs) X', its[i]? = some d → J i s → (∀ b, X' b → X b ∨ wr b ∨ h₀.get? b = none) → Tgt pair tgt →
    ∀ (Q : Option Value → Shared → Prop) (E : Value → Shared → Prop), (∀ v s₁,
      (∀ (Q' : Unit → Shared → Prop) (E' : Value → Shared → Prop), (∀ s₂ : Gs, Got pair v d X' s₂ → J (i + 1) s₂ → KeepW wr s s₂ → Q' () s₂) → wpAny (model prog w) A (letOwnedTupleGo tgt it v) Q' E' s₁) → Q (some v) s₁) →
      wpAny (model prog w) A (pyNext it) Q E s
  self : ∀ i (s : Gs), J i s → ∀ (Q : Value → Shared → Prop) (E : Value → Shared → Prop), Q it s → wpAny (model prog w) A (pyIter it) Q E s
  done : ∀ i (s : Gs), its[i]? = none → J i s → ∀ (Q : Option Value → Shared → Prop) (E : Value → Shared → Prop), (∀ s₁ : Gs, KeepW wr s s₁ → Q none s₁) → wpAny (model prog w) A (pyNext it) Q E s

structure It (c : Cx) (ρ : Vars) (ω : Owns) (iter : Expr) (pair : Bool) (its : List D) : Prop where
  run : ∀ Y s, Fs c Y ρ ω s → ∀ (Q : Value → Shared → Prop) (E : Value → Shared → Prop),
    (∀ it (s' : Gs) wr J, Grow s s' → (∀ b, wr b → s.heap.get? b = none ∧ ∃ o, s'.heap.get? b = some o) → Src c.prog c.w c.A pair it wr its (Xω Y ω) s'.heap J → J 0 s' → Q it s') →
    wpAny (model c.prog c.w) c.A (eval iter c.env) (fun x s₁ => wpAny (model c.prog c.w) c.A (pyIter x) Q E s₁) E s

/-- what a target binds -/
noncomputable def binds : Expr → D → Vars
  | .Name x _, d => [(x, d)]
  | .Tuple [.Name a _, .Name b _] _ _, .tup [d1, d2] => [(b, d2), (a, d1)]
  | _, _ => []
/-- the target fits -/
noncomputable def TgtOk (c : Cx) (ω : Owns) (pair : Bool) (tgt : Expr) : Prop :=
  if pair then ∃ a b p q n r, tgt = .Tuple [.Name a p, .Name b q] n r ∧ c.stores a ∧ c.stores b ∧ a ∉ ω.map (·.1) ∧ b ∉ ω.map (·.1)
  else ∃ x p, tgt = .Name x p ∧ c.stores x ∧ x ∉ ω.map (·.1)
theorem TgtOk.tgt {c : Cx} {ω : Owns} {pair : Bool} {tgt : Expr} (h : TgtOk c ω pair tgt) : Tgt pair tgt := by
  cases pair with
  | true => obtain ⟨a, b, p, q, n, r, e, _⟩ := h; exact ⟨_, _, _, e⟩
  | false => obtain ⟨x, p, e, _⟩ := h; exact ⟨_, _, e⟩

theorem Fs.thru {c : Cx} {Y : Addr → Prop} {ρ : Vars} {ω : Owns} {wr : Addr → Prop} {s s' : Gs} (n₀ : ∀ b, wr b → c.s₀.heap.get? b = none) (nL : ¬ wr c.env.locals) (nC : ∀ x a, c.env.cells.lookup x = some a → ¬ wr a)
    (F : Fs c (fun b => Y b ∨ wr b) ρ ω s) (Y' : Addr → Prop) (hY' : ∀ b, Y' b → Y b ∨ wr b) (hY₂ : ∀ b, Y b → Y' b) (hx : ∀ a, c.X₀ a → Y a) (hyL : Y c.env.locals) (hyc : ∀ x a, c.env.cells.lookup x = some a → Y a)
    (k : KeepW wr s s') (hl : ∀ b, Y' b → wr b → ∃ o, s'.heap.get? b = some o) : Fs c Y' ρ ω s' := by
  obtain ⟨⟨h, t, ek⟩, gh, tk, kp⟩ := k
  have eh : s'.heap = h := by show s'.sh.heap = h; rw [ek]
  subst eh
  obtain ⟨h₀, t₀, e₀⟩ := F.same
  have nw : ∀ {b o}, c.s₀.heap.get? b = some o → ¬ wr b := fun e q => by rw [n₀ _ q] at e; cases e
  have kX : ∀ b o, ¬ Xω (fun b => Y b ∨ wr b) ω b → s.heap.get? b = some o → s'.heap.get? b = some o := fun b o hb e => kp b o (fun q => hb (.inl (.inr q))) e
  have hX : ∀ b o, Xω Y' ω b → s.heap.get? b = some o → Xω (fun b => Y b ∨ wr b) ω b := fun b o q _ => q.imp (hY' b) id
  have kH : ∀ {x v}, Has c.env s.heap x v → Has c.env s'.heap x v := fun H => by
    rcases H with ⟨a, m, b, d⟩ | ⟨k, a, l, ce⟩
    · exact .inl ⟨a, m, ns_keep b fun o e => kp _ o nL e, d⟩
    · exact .inr ⟨k, a, l, cell_keep ce fun o e => kp _ o (nC _ _ l) e⟩
  refine ⟨⟨s'.heap, t, by rw [ek, e₀]⟩, Nat.lt_of_lt_of_le F.pos tk, fun t i e => by rw [gh] at e; exact ⟨(F.sane t i e).1, Nat.lt_of_lt_of_le (F.sane t i e).2 tk⟩, fun t i e => by rw [gh]; exact F.ext t i e, Nat.le_trans F.mono tk, fun b o q => kp b o (nw q) (F.keep b o q), fun a q => hY₂ a (hx a q), hY₂ _ hyL, fun x a q => hY₂ a (hyc x a q), fun a q => ?_, ?_, fun x a q => ?_, fun x d q => ?_, fun q hq => ?_, F.nodup, F.names⟩
  · by_cases hw : wr a
    · exact hl a q hw
    · obtain ⟨o, e⟩ := F.ylive a (hY' a q); exact ⟨o, kp a o hw e⟩
  · obtain ⟨m, e⟩ := F.ns; exact ⟨m, ns_keep e fun o e => kp _ o nL e⟩
  · obtain ⟨v, e⟩ := F.cell x a q; exact ⟨v, cell_keep e fun o e => kp _ o (nC x a q) e⟩
  · obtain ⟨v, H, r⟩ := F.vars x d q; exact ⟨v, kH H, r.move (fun t i e => by rw [gh]; exact e) kX hX⟩
  · obtain ⟨H, f, y, vs, p, r⟩ := F.owns q hq
    exact ⟨kH H, f, fun z => y (hY' _ z), vs, plain_keep p fun o e => kp _ o (fun z => y (.inr z)) e, r.move (fun t i e => by rw [gh]; exact e) kX hX⟩
theorem Fs.through {c : Cx} {Y : Addr → Prop} {ρ ρ₀ : Vars} {ω ω₀ : Owns} {wr : Addr → Prop} {Y₀ : Addr → Prop} {s₀ s s' : Gs} (F₀ : Fs c Y₀ ρ₀ ω₀ s₀) (hd : ∀ b, wr b → s₀.heap.get? b = none)
    (F : Fs c (fun b => Y b ∨ wr b) ρ ω s) (Y' : Addr → Prop) (hY' : ∀ b, Y' b → Y b ∨ wr b) (hY₂ : ∀ b, Y b → Y' b) (hyl : ∀ b, Y b → ¬ wr b) (hx : ∀ a, c.X₀ a → Y a) (hyL : Y c.env.locals) (hyc : ∀ x a, c.env.cells.lookup x = some a → Y a)
    (k : KeepW wr s s') (hl : ∀ b, Y' b → wr b → ∃ o, s'.heap.get? b = some o) : Fs c Y' ρ ω s' := by
  have nw : ∀ {b o}, s₀.heap.get? b = some o → ¬ wr b := fun e q => by rw [hd _ q] at e; cases e
  refine F.thru (fun b q => ?_) (by obtain ⟨m, o, _, _, e, _⟩ := F₀.ns; exact nw e) (fun x a q => by obtain ⟨v, o, e, _⟩ := F₀.cell x a q; exact nw e) Y' hY' hY₂ hx hyL hyc k hl
  cases e : c.s₀.heap.get? b with
  | none => rfl
  | some o => exact absurd q (nw (F₀.keep _ _ e))

/-- a target takes what came -/
theorem assign_got {c : Cx} {Y : Addr → Prop} {ρ : Vars} {ω : Owns} {s : Gs} {pair : Bool} {tgt : Expr} {v : Value} {d : D} (ok : c.Ok) (F : Fs c Y ρ ω s) (ht : TgtOk c ω pair tgt) (g : Got pair v d (Xω Y ω) s)
    {Q : Unit → Shared → Prop} {E : Value → Shared → Prop} (k : ∀ s', Fs c Y (binds tgt d ++ ρ) ω s' → Mv c ω ω s s' → (∀ b o, ¬ Xω Y ω b → s.heap.get? b = some o → s'.heap.get? b = some o) → Q () s') :
    wpAny (model c.prog c.w) c.A (assign tgt c.env v) Q E s := by
  cases pair with
  | false =>
    obtain ⟨x, p, rfl, hx, hω⟩ := ht
    exact wpAny_assign_Name (store_dat ok F hx hω g fun s' F' mv ho => k s' F' mv fun b o hb e => (ho b hb).trans e)
  | true =>
    obtain ⟨a, b, p, q, n, r, rfl, ha, hb, hωa, hωb⟩ := ht
    obtain ⟨T, v1, v2, d1, d2, rfl, rfl, hT, r1, r2⟩ := g
    refine wpAny_assign_Tuple ok.room.handled hT (by rfl) (by rfl) fun h' hx => ?_
    have g0 : Grow s (s.on h' s.toks) := Grow.of (fun b o e => hx b o (Nat.ne_of_lt (Heap.lt_size e)) e) (Nat.le_refl _)
    show wpAny _ _ (holding [v2] (assign (.Name a p) c.env v1) >>= fun _ => holding [] (assign (.Name b q) c.env v2) >>= fun _ => pure ()) _ _ _
    refine wpAny_bind (wpAny_holding (wpAny_assign_Name (store_dat ok (F.grow g0) ha hωa (r1.grow g0) fun s1 F1 m1 o1 => ?_)))
    refine wpAny_bind (wpAny_holding (wpAny_assign_Name (store_dat ok F1 hb hωb ((r2.grow g0).move m1.ext (fun b o hb e => (o1 b hb).trans e) fun _ _ q _ => q) fun s2 F2 m2 o2 => wpAny_pure ?_)))
    exact k s2 F2 (((Mv.of_grow g0).trans m1).trans m2) fun b o hb e => (o2 b hb).trans ((o1 b hb).trans (g0.keep b o e))

/-! ## A for -/
theorem Xs.for {c : Cx} {ρ : Vars} {ω : Owns} {tgt iter : Expr} {body orelse : List Stmt} {pos : Pos} {pair : Bool} {its : List D} {P : Vars → Owns → Prop} {Rt : D → Prop} (ok : c.Ok) (hit : It c ρ ω iter pair its) (Inv : Nat → Vars → Owns → Prop)
    (htgt : ∀ i ρ' ω', Inv i ρ' ω' → TgtOk c ω' pair tgt) (h0 : Inv 0 ρ ω)
    (turn : ∀ i d ρ' ω', its[i]? = some d → Inv i ρ' ω' → Xq c body (binds tgt d ++ ρ') ω' (Inv (i + 1)) Rt)
    (hend : ∀ ρ' ω', Inv its.length ρ' ω' → Xq c orelse ρ' ω' P Rt)
    (hs : ∀ x, foldedSetIterable iter c.env x = pure x := by intro _; rfl) :
    Xs c (.For tgt iter body orelse pos) ρ ω P Rt := .mk fun Y s F Q E k1 k2 => by
  rw [exec_For]
  refine wpAny_bind (wpAny_standAt (wpAny_bind ?_))
  refine wpAny_mono (hit.run Y s F (fun it s' => wpAny (model c.prog c.w) c.A (runOwn (.forLoop tgt it body orelse c.env) c.env) Q E s') E fun it s₂ wr J g hwr src hJ => ?_) (fun x s₁ h₁ => ?_) fun _ _ x => x
  rotate_left
  · exact wpAny_bind (wpAny_of_eq (hs x) (wpAny_bind (wpAny_standAt (wpAny_bind (wpAny_holding h₁)))))
  · have hd : ∀ b, wr b → s.heap.get? b = none := fun b q => (hwr b q).1
    have F₂ := F.hide (Z := wr) g hd fun b q => (hwr b q).2
    have nw : ∀ {b o}, s.heap.get? b = some o → ¬ wr b := fun e q => by rw [hd _ q] at e; cases e
    have nL : ¬ wr c.env.locals := by obtain ⟨m, o, _, _, e, _⟩ := F.ns; exact nw e
    have nC : ∀ x a, c.env.cells.lookup x = some a → ¬ wr a := fun x a q => by obtain ⟨v, o, e, _⟩ := F.cell x a q; exact nw e
    have yw : ∀ b, Y b → ¬ wr b := fun b q => by obtain ⟨o, e⟩ := F.ylive b q; exact nw e
    refine wpAny_runOwn ?_
    refine codeAny_forLoop_any (fun n sh' => ∃ (s' : Gs) (i : Nat) (ρ' : Vars) (ω' : Owns), sh' = s'.sh ∧ i ≤ its.length ∧ n = its.length - i ∧ Fs c (fun b => Y b ∨ wr b) ρ' ω' s' ∧ Inv i ρ' ω' ∧ J i s' ∧ Mv c ω ω' s s' ∧ (∀ q ∈ ω', (∃ p ∈ ω, p.2.1 = q.2.1) ∨ s₂.heap.get? q.2.1 = none) ∧
        (∀ b o, s₂.heap.get? b = some o → ∃ o', s'.heap.get? b = some o')) ?_ (its.length - 0)
      ⟨s₂, 0, ρ, ω, rfl, Nat.zero_le _, rfl, F₂, h0, hJ, Mv.of_grow g, fun q hq => .inl ⟨q, hq, rfl⟩, fun _ o e => ⟨o, e⟩⟩
    rintro n _ ⟨s', i, ρ', ω', rfl, hi, rfl, F', inv, hJ', mv, fr, lv2⟩
    have hto := htgt i ρ' ω' inv
    cases hd' : its[i]? with
    | none =>
      have hlen : i = its.length := by
        have := List.getElem?_eq_none_iff.mp hd'; omega
      subst hlen
      refine src.done its.length s' hd' hJ' _ _ fun s₁ kw => ?_
      have F₁ := F.through hd F' Y (fun b q => .inl q) (fun b q => q) yw F.x₀ F.yl F.yc kw fun b q z => absurd z (yw b q)
      have mv₁ : Mv c ω ω' s s₁ := ⟨fun b o hb e => kw.keep b o (nw e) (mv.keep b o hb e), fun b o e => let ⟨o', e'⟩ := mv.lv b o e; ⟨o', kw.keep b o' (nw e) e'⟩, mv.fresh, fun t i e => by rw [kw.ghost]; exact mv.ext t i e, Nat.le_trans mv.toks kw.toks⟩
      exact (hend ρ' ω' inv).run Y s₁ F₁ _ _ (fun s₃ ρ₃ ω₃ F₃ mv₃ p₃ => k1 s₃ ρ₃ ω₃ F₃ (mv₁.trans mv₃) p₃) k2
    | some d =>
      have hlt : i < its.length := (List.getElem?_eq_some_iff.mp hd').1
      have hX' : ∀ b, Xω (fun b => Y b ∨ wr b) ω' b → Xω Y ω b ∨ wr b ∨ s₂.heap.get? b = none := fun b q => by
        rcases q with (q | q) | ⟨p, hp, rfl⟩
        · exact .inl (.inl q)
        · exact .inr (.inl q)
        · rcases fr p hp with ⟨p', hp', e⟩ | e
          · exact .inl (.inr ⟨p', hp', e⟩)
          · exact .inr (.inr e)
      have hOw : ∀ b, c.Ow ω' b → ¬ wr b ∧ (Xω Y ω b ∨ s₂.heap.get? b = none) := fun b q => by
        rcases q with rfl | ⟨ho, x, hx⟩ | ⟨p, hp, rfl⟩
        · exact ⟨nL, .inl (.inl F.yl)⟩
        · exact ⟨nC x b hx, .inl (.inl (F.yc x b hx))⟩
        · refine ⟨fun z => (F'.owns p hp).2.2.1 (.inr z), ?_⟩
          rcases fr p hp with ⟨p', hp', e⟩ | e
          · exact .inl (.inr ⟨p', hp', e⟩)
          · exact .inr e
      refine src.next i d tgt s' _ hd' hJ' hX' hto.tgt _ _ fun v s₁ hgo => ?_
      refine hgo _ _ fun s₁' got hJ₁ kw => ?_
      have F₁ := F.through hd F' (fun b => Y b ∨ wr b) (fun b q => q) (fun b q => .inl q) yw F.x₀ F.yl F.yc kw fun b _ z => src.live _ _ hJ₁ b z
      have mv₁ : Mv c ω ω' s s₁' := ⟨fun b o hb e => kw.keep b o (nw e) (mv.keep b o hb e), fun b o e => let ⟨o', e'⟩ := mv.lv b o e; ⟨o', kw.keep b o' (nw e) e'⟩, mv.fresh, fun t i e => by rw [kw.ghost]; exact mv.ext t i e, Nat.le_trans mv.toks kw.toks⟩
      have lv3 : ∀ b o, s₂.heap.get? b = some o → ∃ o', s₁'.heap.get? b = some o' := fun b o e => by
        by_cases z : wr b
        · exact src.live _ _ hJ₁ b z
        · obtain ⟨o', e'⟩ := lv2 b o e; exact ⟨o', kw.keep b o' z e'⟩
      refine assign_got ok F₁ hto got fun s₃ F₃ mv₃ ho₃ => ?_
      have J₃ : J (i + 1) s₃ := src.frame _ _ _ hJ₁ mv₃.ext fun b o hb e => mv₃.keep b o (fun q => by
        obtain ⟨h1, h2⟩ := hOw b q
        rcases hb with hb | ⟨hb, o', hb'⟩
        · exact h1 hb
        · rcases h2 with h2 | h2
          · exact hb h2
          · rw [h2] at hb'; cases hb') e
      refine (turn i d ρ' ω' hd' inv).run _ s₃ F₃ _ _ (fun s₄ ρ'' ω'' F₄ mv₄ inv₄ => ?_) fun v s₄ d' fn r q => k2 v s₄ d' fn r q
      refine ⟨its.length - (i + 1), by omega, s₄, i + 1, ρ'', ω'', rfl, hlt, rfl, F₄, inv₄, ?_, (mv₁.trans mv₃).trans mv₄, fun q hq => ?_, fun b o e => ?_⟩
      · exact src.frame _ _ _ J₃ mv₄.ext fun b o hb e => mv₄.keep b o (fun q => by
          obtain ⟨h1, h2⟩ := hOw b q
          rcases hb with hb | ⟨hb, o', hb'⟩
          · exact h1 hb
          · rcases h2 with h2 | h2
            · exact hb h2
            · rw [h2] at hb'; cases hb') e
      · rcases mv₄.fresh q hq with ⟨p, hp, e⟩ | e
        · rw [← e]; exact fr p hp
        · refine .inr ?_
          cases h : s₂.heap.get? q.2.1 with
          | none => rfl
          | some o =>
            obtain ⟨o', e'⟩ := lv3 _ o h
            obtain ⟨o'', e''⟩ := mv₃.lv _ o' e'
            rw [e] at e''; cases e''
      · obtain ⟨o', e'⟩ := lv3 b o e
        obtain ⟨o'', e''⟩ := mv₃.lv _ o' e'
        exact mv₄.lv _ _ e''
end Mine
end

section
open PySem PySem.W PyProof.Rows PySem.Calls
namespace Mine

section
variable {prog : Program} {w : World} {A : Around} {its : List D} {X : Addr → Prop} {hp : Gs} {h₀ : Heap} {I : Addr} {fp wr : List Addr} {n : Nat} {P : Nat → Value → Prop} {Pt : Nat → Array Value → Prop} {St : Nat → Heap → Prop} {Mid : Nat → Addr → Heap → Prop}

theorem src_move {X' : Addr → Prop} {h : Gs} (hτ : ∀ t i, hp.τ t = some i → h.τ t = some i) (hpre : ∀ b o, hp.heap.get? b = some o → h₀.get? b = some o) (hwr : ∀ b ∈ wr, hp.heap.get? b = none) (hk : ∀ b o, ¬ X b → hp.heap.get? b = some o → h.heap.get? b = some o)
    (hX : ∀ b, X' b → X b ∨ b ∈ wr ∨ h₀.get? b = none) {v : Value} {d : D} (r : Rep hp X v d) : Rep h X' v d :=
  r.move hτ hk fun b o q e => by
    rcases hX b q with q | q | q
    · exact q
    · rw [hwr b q] at e; cases e
    · rw [hpre b o e] at q; cases q

theorem Src.ofWalks (W : Walks prog w A I fp wr n P St) (hn : n = its.length) (hpre : ∀ b o, hp.heap.get? b = some o → h₀.get? b = some o) (hwr : ∀ b ∈ wr, hp.heap.get? b = none)
    (hfp : ∀ b ∈ fp, b ∈ wr ∨ (¬ X b ∧ ∃ o, h₀.get? b = some o)) (hlive : ∀ i h, St i h → ∀ b ∈ wr, ∃ o, h.get? b = some o) (hrep : ∀ i v d, its[i]? = some d → P i v → Rep hp X v d) :
    Src prog w A false (.ref I) (· ∈ wr) its X h₀ (fun i s => i ≤ its.length ∧ St i s.heap ∧ (∀ b o, ¬ X b → hp.heap.get? b = some o → s.heap.get? b = some o) ∧ ∀ t i, hp.τ t = some i → s.τ t = some i) where
  frame := fun i s s' J hτ hk => ⟨J.1, W.frame i s.heap s'.heap J.2.1 fun b hb o e => hk b o (hfp b hb) e, fun b o hb e => hk b o (.inr ⟨hb, o, hpre b o e⟩) (J.2.2.1 b o hb e), fun t i e => hτ t i (J.2.2.2 t i e)⟩
  live := fun i s J b hb => hlive i s.heap J.2.1 b hb
  next := fun i d tgt s X' hd J hX ht Q E k => by
    obtain ⟨x, p, rfl⟩ := ht
    have hi : i < its.length := (List.getElem?_eq_some_iff.mp hd).1
    refine wpAny_with_toks (Nat.le_refl s.toks) (W.item i s _ _ (hn ▸ hi) J.2.1 fun v h' tk hv st hk hle => k v _ fun Q' E' k' => ?_)
    have hk2 : ∀ b o, ¬ X b → hp.heap.get? b = some o → h'.get? b = some o := fun b o hb e => hk b o (fun q => by rw [hwr b q] at e; cases e) (J.2.2.1 b o hb e)
    show wpAny _ _ (pure ()) _ _ _
    exact wpAny_pure (k' (s.on h' tk) (src_move (h := s.on h' tk) J.2.2.2 hpre hwr hk2 hX (hrep i v d hd hv)) ⟨hi, st, hk2, J.2.2.2⟩ ⟨⟨h', tk, rfl⟩, rfl, hle, hk⟩)
  self := fun i s J Q E k => W.self i s Q E J.2.1 k
  done := fun i s hd J Q E k => by
    have hi : i = n := by rw [hn]; exact Nat.le_antisymm J.1 (List.getElem?_eq_none_iff.mp hd)
    subst hi
    exact wpAny_with_toks (Nat.le_refl s.toks) (W.done s _ _ J.2.1 fun h' tk hk hle => k (s.on h' tk) ⟨⟨h', tk, rfl⟩, rfl, hle, hk⟩)

theorem Src.ofWalksU (W : WalksU prog w A I fp wr n Pt St Mid) (hn : n = its.length) (hpre : ∀ b o, hp.heap.get? b = some o → h₀.get? b = some o) (hwr : ∀ b ∈ wr, hp.heap.get? b = none)
    (hfp : ∀ b ∈ fp, b ∈ wr ∨ (¬ X b ∧ ∃ o, h₀.get? b = some o)) (hlive : ∀ i h, St i h → ∀ b ∈ wr, ∃ o, h.get? b = some o)
    (hrep : ∀ i vals d, its[i]? = some d → Pt i vals → ∃ v1 v2 d1 d2, vals = #[v1, v2] ∧ d = .tup [d1, d2] ∧ Rep hp X v1 d1 ∧ Rep hp X v2 d2) :
    Src prog w A true (.ref I) (· ∈ wr) its X h₀ (fun i s => i ≤ its.length ∧ St i s.heap ∧ (∀ b o, ¬ X b → hp.heap.get? b = some o → s.heap.get? b = some o) ∧ ∀ t i, hp.τ t = some i → s.τ t = some i) where
  frame := fun i s s' J hτ hk => ⟨J.1, W.frame i s.heap s'.heap J.2.1 fun b hb o e => hk b o (hfp b hb) e, fun b o hb e => hk b o (.inr ⟨hb, o, hpre b o e⟩) (J.2.2.1 b o hb e), fun t i e => hτ t i (J.2.2.2 t i e)⟩
  live := fun i s J b hb => hlive i s.heap J.2.1 b hb
  next := fun i d tgt s X' hd J hX ht Q E k => by
    obtain ⟨es, m, p, rfl⟩ := ht
    have hi : i < its.length := (List.getElem?_eq_some_iff.mp hd).1
    refine wpAny_with_toks (Nat.le_refl s.toks) (W.item i s _ _ (hn ▸ hi) J.2.1 fun T vals h' tk hv hT mid hk hle => k _ _ fun Q' E' k' => ?_)
    refine W.go es m p i T _ Q' E' mid fun h'' st hk' => ?_
    have hkk : ∀ b o, b ∉ wr → s.heap.get? b = some o → h''.get? b = some o := fun b o hb e => hk' b o hb (hk b o hb e)
    have hk2 : ∀ b o, ¬ X b → hp.heap.get? b = some o → h''.get? b = some o := fun b o hb e => hkk b o (fun q => by rw [hwr b q] at e; cases e) (J.2.2.1 b o hb e)
    obtain ⟨v1, v2, d1, d2, rfl, rfl, r1, r2⟩ := hrep i vals d hd hv
    refine k' (s.on h'' tk) ⟨T, v1, v2, d1, d2, rfl, rfl, ?_, src_move (h := s.on h'' tk) J.2.2.2 hpre hwr hk2 hX r1, src_move (h := s.on h'' tk) J.2.2.2 hpre hwr hk2 hX r2⟩ ⟨hi, st, hk2, J.2.2.2⟩ ⟨⟨h'', tk, rfl⟩, rfl, hle, hkk⟩
    exact hT.at fun o e => hk' T o (W.apart i T h' mid) e
  self := fun i s J Q E k => W.self i s Q E J.2.1 k
  done := fun i s hd J Q E k => by
    have hi : i = n := by rw [hn]; exact Nat.le_antisymm J.1 (List.getElem?_eq_none_iff.mp hd)
    subst hi
    exact wpAny_with_toks (Nat.le_refl s.toks) (W.done s _ _ J.2.1 fun h' tk hk hle => k (s.on h' tk) ⟨⟨h', tk, rfl⟩, rfl, hle, hk⟩)
end

section
variable {c : Cx} {ρ : Vars} {ω : Owns} {iter : Expr} {ds : List D}

theorem Reps.at {h : Gs} {X : Addr → Prop} : ∀ {vs : List Value} {ds : List D}, Reps h X vs ds → ∀ {i : Nat} {v : Value} {d : D}, vs[i]? = some v → ds[i]? = some d → Rep h X v d
  | _, _, .nil, _, _, _, e, _ => by simp at e
  | _, _, .cons a b, i, v, d, e, e' => by
    cases i with
    | zero => simp at e e'; subst e; subst e'; exact a
    | succ i => simp at e e'; exact b.at e e'

theorem Reps.two {h : Gs} {X : Addr → Prop} {us : Array Value} {d1 d2 : D} (r : Reps h X us.toList [d1, d2]) : ∃ v1 v2, us = #[v1, v2] ∧ Rep h X v1 d1 ∧ Rep h X v2 d2 := by
  obtain ⟨l⟩ := us
  change Reps h X l _ at r
  cases r with
  | cons r1 rT => cases rT with
    | cons r2 rT => cases rT; exact ⟨_, _, rfl, r1, r2⟩

theorem It.list (ok : c.Ok) (h : Ev c ρ ω iter (.lst ds)) : It c ρ ω iter false ds := .mk fun Y s F Q E k => h.run Y s F _ E fun v s₁ g₁ r₁ => by
  cases r₁ with
  | @lst a vs _ p hn rs =>
    have F₁ := F.grow g₁
    have g₂ := Grow.push s₁ { cls := .type "list_iterator", data := .fields #[.ref a, .int 0 0] }
    obtain ⟨n, e⟩ := id p
    have ane : a ≠ s₁.heap.objs.size := Nat.ne_of_lt (Heap.lt_size e)
    have dead : s₁.heap.get? s₁.heap.objs.size = none := by
      cases q : s₁.heap.get? s₁.heap.objs.size with
      | none => rfl
      | some o => exact absurd (Heap.lt_size q) (Nat.lt_irrefl _)
    have hit : (s₁.heap.push { cls := .type "list_iterator", data := .fields #[.ref a, .int 0 0] }).IsListIter s₁.heap.objs.size a 0 := ⟨_, Heap.get?_push_size _ rfl, rfl, rfl⟩
    have W := Walks.list (prog := c.prog) (w := c.w) (A := c.A) ok.room.handled s₁.heap.objs.size a ane vs
    have hlen : vs.size = ds.length := by have := rs.length; simpa using this
    have S := Src.ofWalks (hp := s₁) (X := Xω Y ω) W hlen g₂.keep (fun b hb => by simp at hb; rw [hb]; exact dead)
      (fun b hb => by
        simp at hb
        rcases hb with rfl | rfl
        · exact .inl (by simp)
        · exact .inr ⟨hn, _, g₂.keep _ _ e⟩) (fun i h st b hb => by
        simp at hb
        obtain ⟨⟨o, e, _⟩, _⟩ := st
        exact ⟨o, hb ▸ e⟩) (fun i v d hd hv => rs.at (by simpa using hv) hd)
    refine wpAny_pyIter_list p.isList (k _ _ _ _ (g₁.trans g₂) (fun b hb => ?_) S ⟨Nat.zero_le _, ⟨hit, ?_⟩, fun b o _ e => g₂.keep b o e, g₂.ext⟩)
    · simp at hb
      rw [hb]
      refine ⟨?_, _, Heap.get?_push_size _ rfl⟩
      cases q : s.heap.get? s₁.heap.objs.size with
      | none => rfl
      | some o => rw [g₁.keep _ _ q] at dead; cases dead
    · exact (plain_keep p (g₂.keep a)).isList

theorem It.pairs (ok : c.Ok) (h : Ev c ρ ω iter (.lst ds)) (hp : ∀ d ∈ ds, ∃ a b, d = .tup [a, b]) : It c ρ ω iter true ds := .mk fun Y s F Q E k => h.run Y s F _ E fun v s₁ g₁ r₁ => by
  cases r₁ with
  | @lst a vs _ p hn rs =>
    have F₁ := F.grow g₁
    have g₂ := Grow.push s₁ { cls := .type "list_iterator", data := .fields #[.ref a, .int 0 0] }
    obtain ⟨n, e⟩ := id p
    have ane : a ≠ s₁.heap.objs.size := Nat.ne_of_lt (Heap.lt_size e)
    have dead : s₁.heap.get? s₁.heap.objs.size = none := by
      cases q : s₁.heap.get? s₁.heap.objs.size with
      | none => rfl
      | some o => exact absurd (Heap.lt_size q) (Nat.lt_irrefl _)
    have hit : (s₁.heap.push { cls := .type "list_iterator", data := .fields #[.ref a, .int 0 0] }).IsListIter s₁.heap.objs.size a 0 := ⟨_, Heap.get?_push_size _ rfl, rfl, rfl⟩
    have W := Walks.list (prog := c.prog) (w := c.w) (A := c.A) ok.room.handled s₁.heap.objs.size a ane vs
    have hlen : vs.size = ds.length := by have := rs.length; simpa using this
    refine wpAny_pyIter_list p.isList (k _ _ (· = s₁.heap.objs.size) (fun i s => i ≤ ds.length ∧ (s.heap.IsListIter s₁.heap.objs.size a i ∧ s.heap.IsList a vs) ∧ (∀ b o, ¬ Xω Y ω b → s₁.heap.get? b = some o → s.heap.get? b = some o) ∧ ∀ t i, s₁.τ t = some i → s.τ t = some i) (g₁.trans g₂) (fun b hb => ?_)
      ⟨fun i s s' J hτ hk => ⟨J.1, W.frame i s.heap s'.heap J.2.1 fun b hb o q => hk b o ?_ q, fun b o hb e => hk b o (.inr ⟨hb, o, g₂.keep b o e⟩) (J.2.2.1 b o hb e), fun t i e => hτ t i (J.2.2.2 t i e)⟩, fun i h J b hb => ?_, fun i d tgt s' X' hd J hX ht Q E k' => ?_, fun i s' J Q E k' => W.self i s' Q E J.2.1 k', fun i s' hd J Q E k' => ?_⟩
      ⟨Nat.zero_le _, ⟨hit, ?_⟩, fun b o _ e => g₂.keep b o e, g₂.ext⟩)
    · rw [hb]
      refine ⟨?_, _, Heap.get?_push_size _ rfl⟩
      cases q : s.heap.get? s₁.heap.objs.size with
      | none => rfl
      | some o => rw [g₁.keep _ _ q] at dead; cases dead
    · simp at hb
      rcases hb with rfl | rfl
      · exact .inl rfl
      · exact .inr ⟨hn, _, g₂.keep _ _ e⟩
    · obtain ⟨_, ⟨⟨o, e, _⟩, _⟩, _⟩ := J
      exact ⟨o, hb ▸ e⟩
    · obtain ⟨es, m, p', rfl⟩ := ht
      have hi : i < ds.length := (List.getElem?_eq_some_iff.mp hd).1
      refine wpAny_with_toks (Nat.le_refl s'.toks) (W.item i s' _ _ (hlen ▸ hi) J.2.1 fun v h' tk hv st hk hle => k' v _ fun Q' E' k2 => ?_)
      have hk2 : ∀ b o, ¬ Xω Y ω b → s₁.heap.get? b = some o → h'.get? b = some o := fun b o hb e => hk b o (fun q => by simp at q; rw [q, dead] at e; cases e) (J.2.2.1 b o hb e)
      obtain ⟨d1, d2, rfl⟩ := hp d (List.mem_of_getElem? hd)
      have r := rs.at (by simpa using hv) hd
      have r' : Rep (s'.on h' tk) X' v (.tup [d1, d2]) := Rep.move (s := s₁) (s' := s'.on h' tk) J.2.2.2 hk2 (fun b o q e => by
        rcases hX b q with q | q | q
        · exact q
        · rw [q, dead] at e; cases e
        · rw [g₂.keep b o e] at q; cases q) r
      cases r' with
      | @tup T us _ pT hT rT =>
        obtain ⟨v1, v2, rfl, r1, r2⟩ := rT.two
        exact wpAny_letOwnedTupleGo_listiter st.1 (k2 (s'.on h' tk) ⟨T, v1, v2, d1, d2, rfl, rfl, pT.isTuple, r1, r2⟩ ⟨hi, st, hk2, J.2.2.2⟩ ⟨⟨h', tk, rfl⟩, rfl, hle, fun b o hb e => hk b o (by simpa using hb) e⟩)
    · have hi : i = vs.size := by rw [hlen]; exact Nat.le_antisymm J.1 (List.getElem?_eq_none_iff.mp hd)
      subst hi
      exact wpAny_with_toks (Nat.le_refl s'.toks) (W.done s' _ _ J.2.1 fun h' tk hk hle => k' (s'.on h' tk) ⟨⟨h', tk, rfl⟩, rfl, hle, fun b o hb e => hk b o (by simpa using hb) e⟩)
    · exact (plain_keep p (g₂.keep a)).isList
end
end Mine
end

section
open PySem PySem.W PyProof.Rows PySem.Calls
namespace Mine

section
variable {c : Cx} {ρ : Vars} {ω : Owns} {iter : Expr} {ds : List D}

theorem dead_at (h : Heap) {a : Addr} (ha : h.objs.size ≤ a) : h.get? a = none := by
  cases q : h.get? a with
  | none => rfl
  | some o => exact absurd (Heap.lt_size q) (Nat.not_lt.mpr ha)
theorem dead_back {s s' : Gs} (g : Grow s s') {a : Addr} (h : s'.heap.get? a = none) : s.heap.get? a = none := by
  cases q : s.heap.get? a with
  | none => rfl
  | some o => rw [g.keep _ _ q] at h; cases h

/-- the name of an interpreter's type -/
structure TyName (c : Cx) (x : Str) (T : String) : Prop where
  e : nsIn c.W.K mainGlobals x = some none
  hv : bootBuiltins x = some (.type T)
  hx : c.env.kindOf x = some .globalImplicit
  hn : x ≠ "__name__"
  hd : (x == ("__debug__" : Str)) = false
/-- the name of an interpreter's function -/
structure FnName (c : Cx) (x : Str) (f : String) : Prop where
  e : nsIn c.W.K mainGlobals x = some none
  hv : bootBuiltins x = some (.builtin f)
  hx : c.env.kindOf x = some .globalImplicit
  hn : x ≠ "__name__"
  hd : (x == ("__debug__" : Str)) = false

theorem callType {x : Str} {T : String} {p1 pos : Pos} {e : Expr} {es : List Expr} {ds : List D} (ok : c.Ok) (hx : TyName c x T) (ha : Evs c ρ ω (e :: es) ds) {Y : Addr → Prop} {s : Gs} (F : Fs c Y ρ ω s)
    {Q : Value → Shared → Prop} {E : Value → Shared → Prop} (k : ∀ vs (s' : Gs), Grow s s' → Reps s' (Xω Y ω) vs ds → wpAny (model c.prog c.w) c.A (call (.type T) vs) Q E s')
    (he : starEach (e :: es) c.env = (false, eval e c.env) :: starEach es c.env := by rfl) (hpl : (backTo pos (starEach es c.env)).any (·.1) = false := by rfl) :
    wpAny (model c.prog c.w) c.A (eval (.Call (.Name x p1) (e :: es) [] pos) c.env) Q E s :=
  Call_ (builtin_val ok F hx.e hx.hv hx.hx hx.hn (PyProof.Rows.callWith_type1 (ha.run pos Y s F _ E k) he hpl) hx.hd)
theorem callFn {x : Str} {f : String} {p1 pos : Pos} {e : Expr} {es : List Expr} {ds : List D} (ok : c.Ok) (hx : FnName c x f) (ha : Evs c ρ ω (e :: es) ds) {Y : Addr → Prop} {s : Gs} (F : Fs c Y ρ ω s)
    {Q : Value → Shared → Prop} {E : Value → Shared → Prop} (k : ∀ vs (s' : Gs), Grow s s' → Reps s' (Xω Y ω) vs ds → wpAny (model c.prog c.w) c.A (call (.builtin f) vs) Q E s')
    (he : starEach (e :: es) c.env = (false, eval e c.env) :: starEach es c.env := by rfl) (hpl : (backTo pos (starEach es c.env)).any (·.1) = false := by rfl) :
    wpAny (model c.prog c.w) c.A (eval (.Call (.Name x p1) (e :: es) [] pos) c.env) Q E s :=
  Call_ (builtin_val ok F hx.e hx.hv hx.hx hx.hn (PyProof.Rows.callWith_builtin1 (ha.run pos Y s F _ E k) he hpl) hx.hd)

noncomputable def enumD (ds : List D) : List D := ds.zipIdx.map fun p => .tup [.int (p.2 : Nat), p.1]
theorem enumD_get {ds : List D} {i : Nat} {d : D} (h : (enumD ds)[i]? = some d) : ∃ x, ds[i]? = some x ∧ d = .tup [.int i, x] := by
  unfold enumD at h
  rw [List.getElem?_map, List.getElem?_zipIdx] at h
  cases e : ds[i]? with
  | none => rw [e] at h; cases h
  | some x => rw [e] at h; simp at h; exact ⟨x, rfl, h.symm⟩
theorem enumD_length (ds : List D) : (enumD ds).length = ds.length := by unfold enumD; simp

theorem It.enum {x : Str} {p1 pos : Pos} {e : Expr} (ok : c.Ok) (hx : TyName c x "enumerate") (h : Ev c ρ ω e (.lst ds)) (he : starEach [e] c.env = [(false, eval e c.env)] := by rfl) :
    It c ρ ω (.Call (.Name x p1) [e] [] pos) true (enumD ds) := .mk fun Y s F Q E k => callType ok hx (Evs.cons h Evs.nil he) F (fun vs s₁ g₁ rs => by
  cases rs with
  | cons r rs => cases rs; cases r with
    | @lst a vs _ p hn rs =>
      obtain ⟨n, e⟩ := id p
      have alt : a < s₁.heap.objs.size := Heap.lt_size e
      refine call_enumerate_list p.isList fun h' he hit hsz hk => ?_
      have g₂ : Grow s₁ (s₁.on h' s₁.toks) := Grow.of hk (Nat.le_refl _)
      refine wpAny_pyIter_enum he ?_
      have W := (WalksT.enumerate (prog := c.prog) (w := c.w) (A := c.A) ok.room.handled (s₁.heap.objs.size + 1) s₁.heap.objs.size a (Nat.succ_ne_self _) (Nat.ne_of_lt (Nat.lt_succ_of_lt alt)) (Nat.ne_of_lt alt) vs).toU
      have hlen : vs.size = ds.length := by have := rs.length; simpa using this
      have hd : ∀ b ∈ [s₁.heap.objs.size + 1, s₁.heap.objs.size], s₁.heap.get? b = none := fun b hb => by
        simp at hb; rcases hb with rfl | rfl
        · exact dead_at _ (Nat.le_succ _)
        · exact dead_at _ (Nat.le_refl _)
      have hl : ∀ b ∈ [s₁.heap.objs.size + 1, s₁.heap.objs.size], ∃ o, h'.get? b = some o := fun b hb => by
        simp at hb; rcases hb with rfl | rfl
        · exact ⟨_, he⟩
        · obtain ⟨o, q, _⟩ := hit; exact ⟨o, q⟩
      have S := Src.ofWalksU (its := enumD ds) (hp := s₁) (h₀ := h') (X := Xω Y ω) W (hlen.trans (enumD_length ds).symm) hk hd
        (fun b hb => by
          simp at hb
          rcases hb with rfl | rfl | rfl
          · exact .inl (by simp)
          · exact .inl (by simp)
          · exact .inr ⟨hn, _, hk _ _ e⟩) (fun i h st b hb => by
          simp at hb
          obtain ⟨⟨old, q⟩, ⟨o, q', _⟩, _⟩ := st
          rcases hb with rfl | rfl
          · exact ⟨_, q⟩
          · exact ⟨_, q'⟩) (fun i vals d hd hv => by
          obtain ⟨t, v, hv, rfl⟩ := hv
          obtain ⟨x, hx, rfl⟩ := enumD_get hd
          exact ⟨_, _, _, _, rfl, rfl, .int _ _, rs.at (by simpa using hv) hx⟩)
      exact k _ _ _ _ (g₁.trans g₂) (fun b hb => ⟨dead_back g₁ (hd b hb), hl b hb⟩) S ⟨Nat.zero_le _, ⟨⟨_, he⟩, hit, (plain_keep p (hk a)).isList⟩, fun b o _ e => hk b o e, g₂.ext⟩) he rfl

noncomputable def rangeD (n : Nat) : List D := (List.range n).map fun i => .int (i : Nat)
theorem rangeD_get {n i : Nat} {d : D} (h : (rangeD n)[i]? = some d) : i < n ∧ d = .int i := by
  unfold rangeD at h
  rw [List.getElem?_map] at h
  by_cases hi : i < n
  · rw [List.getElem?_range hi] at h; simp at h; exact ⟨hi, h.symm⟩
  · rw [List.getElem?_eq_none (by simpa using hi)] at h; cases h
theorem rangeD_length (n : Nat) : (rangeD n).length = n := by unfold rangeD; simp

theorem It.range {x : Str} {p1 pos : Pos} {e : Expr} {m : Int} {n : Nat} {dm : D} [hdm : IntD dm m] (ok : c.Ok) (hx : TyName c x "range") (h : Ev c ρ ω e dm) (hm : m = n) (hs : n < 1000000) (he : starEach [e] c.env = [(false, eval e c.env)] := by rfl) :
    It c ρ ω (.Call (.Name x p1) [e] [] pos) false (rangeD n) := .mk fun Y s F Q E k => callType ok hx (Evs.cons h Evs.nil he) F (fun vs s₁ g₁ rs => by
  subst hm
  cases rs with
  | cons r rs =>
      cases rs
      obtain ⟨t, rfl⟩ := hdm.val r
      refine call_range_1 ?_
      have hsz : Builtin.Range.rangeSize 0 n 1 = n := by
        unfold Builtin.Range.rangeSize
        rw [if_pos (by decide)]
        by_cases h0 : (0 : Int) < n
        · rw [if_pos h0, Int.ediv_one]; omega
        · rw [if_neg h0]; omega
      have hlt : n < 1000000 := hs
      have hr : IsRange ({ s₁.sh with heap := s₁.heap.push { cls := .type "range", data := .fields #[.int 0 s₁.toks, .int n t, .int 1 (s₁.toks + 1)] }, toks := s₁.toks + 1 + 1 } : Shared).heap s₁.heap.objs.size 0 n 1 s₁.toks t (s₁.toks + 1) := IsRange.new _ _ _ _ _ _ _
      refine wpAny_pyIter_range hr (by
        unfold Builtin.Range.small
        have f : ∀ i : Int, 0 ≤ i → i ≤ 1000000 → Builtin.Range.rangeFitsLong i = true := fun i h0 h1 => by
          unfold Builtin.Range.rangeFitsLong; simp; omega
        have f0 := f 0 (by decide) (by decide)
        have f1 := f 1 (by decide) (by decide)
        have fn := f n (by omega) (by omega)
        rw [hsz]; simp [f0, f1, fn]) ?_
      rw [hsz]
      let s₂ : Gs := s₁.on ((s₁.heap.push { cls := .type "range", data := .fields #[.int 0 s₁.toks, .int n t, .int 1 (s₁.toks + 1)] }).push { cls := .type "range_iterator", data := .fields #[rawInt 0, rawInt n, rawInt 1] }) (s₁.toks + 1 + 1)
      have g₂ : Grow s₁ s₂ := Grow.of (fun _ _ e => Heap.get?_push_of_some _ (Heap.get?_push_of_some _ e)) (Nat.le_succ_of_le (Nat.le_succ _))
      have hI : s₂.heap.get? (s₁.heap.objs.size + 1) = some { cls := .type "range_iterator", data := .fields #[rawInt 0, rawInt n, rawInt 1] } := by
        have := Heap.get?_push_size (s₁.heap.push { cls := .type "range", data := .fields #[.int 0 s₁.toks, .int n t, .int 1 (s₁.toks + 1)] }) (o := { cls := .type "range_iterator", data := .fields #[rawInt 0, rawInt n, rawInt 1] }) rfl
        rw [Heap.size_push] at this
        exact this
      have W := Walks.range (prog := c.prog) (w := c.w) (A := c.A) ok.room.handled (s₁.heap.objs.size + 1) 0 1 n
      have hd : ∀ b ∈ [s₁.heap.objs.size + 1], s₁.heap.get? b = none := fun b hb => by
        simp at hb; subst hb; exact dead_at _ (Nat.le_succ _)
      have S := Src.ofWalks (its := rangeD n) (hp := s₁) (h₀ := s₂.heap) (X := Xω Y ω) W (rangeD_length n).symm g₂.keep hd (fun b hb => .inl hb) (fun i h st b hb => by
          simp at hb; subst hb; exact ⟨_, st⟩) (fun i v d hd hv => by
          obtain ⟨t, rfl⟩ := hv
          obtain ⟨_, rfl⟩ := rangeD_get hd
          rw [Int.zero_add, Int.mul_one]
          exact .int _ _)
      have hJ : s₂.heap.get? (s₁.heap.objs.size + 1) = some { cls := .type "range_iterator", data := .fields #[rawInt (0 + (0 : Nat) * 1), rawInt ((n : Int) - (0 : Nat)), rawInt 1] } := by
        rw [hI]; simp
      have := k _ _ _ _ (g₁.trans g₂) (fun b hb => ⟨dead_back g₁ (hd b hb), by simp at hb; subst hb; exact ⟨_, hI⟩⟩) S ⟨Nat.zero_le _, hJ, fun b o _ e => g₂.keep b o e, g₂.ext⟩
      rw [Heap.size_push]
      exact this) he rfl
end
end Mine
end

section
open PySem PySem.W PyProof.Rows PySem.Calls
namespace Mine

/-! ## Comprehensions -/
/-- a comprehension's turn in general -/
noncomputable def turnOf (e : Expr) (depth : Nat) (itpos : Pos) (tgt : Expr) (ifs : List Expr) (em : Sem Unit) (it acc : Value) (env : Env) : Sem Fin := do
  standAt itpos
  match ← pyNext it with
  | none => pure (.done .next)
  | some v =>
    letOwnedTupleGo tgt it v
    assign tgt env v
    let ok ← forIn ifs true fun c r => if r = true then do let ok ← isTrue c env (eval c env); pure (ForInStep.yield ok) else pure (ForInStep.yield r)
    if ok then em
    again (.compLoop e depth it acc env)

theorem turn_one (elt tgt iter : Expr) (ifs : List Expr) (scope : Scope) (pos : Pos) (it acc : Value) (env : Env) :
    compTurn (.ListComp elt [⟨tgt, iter, ifs, 0⟩] scope pos) 0 it acc env =
      turnOf (.ListComp elt [⟨tgt, iter, ifs, 0⟩] scope pos) 0 iter.pos tgt ifs (do let _ ← call (.builtin "list.append") [acc, ← eval elt env]) it acc env := rfl
theorem turn_two0 (elt tgt iter tgt2 iter2 : Expr) (scope : Scope) (pos : Pos) (it acc : Value) (env : Env) :
    compTurn (.ListComp elt [⟨tgt, iter, [], 0⟩, ⟨tgt2, iter2, [], 0⟩] scope pos) 0 it acc env =
      turnOf (.ListComp elt [⟨tgt, iter, [], 0⟩, ⟨tgt2, iter2, [], 0⟩] scope pos) 0 iter.pos tgt []
        (do let x ← eval iter2 env
            standAt iter2.pos
            let x ← foldedSetIterable iter2 env x
            let _ ← runOwn (.compStart (.ListComp elt [⟨tgt, iter, [], 0⟩, ⟨tgt2, iter2, [], 0⟩] scope pos) 1 (← holding [x] (pyIter x)) acc env) env) it acc env := by
  unfold compTurn turnOf
  have h0 : ((0 : Int) != 0) = false := rfl
  simp only [List.getElem?_cons_zero, List.getElem?_cons_succ, Nat.zero_add, bind_assoc, pure_bind, h0, Bool.false_eq_true, if_false, List.forIn_nil, if_true]
  rfl
theorem turn_two1 (elt tgt iter tgt2 iter2 : Expr) (scope : Scope) (pos : Pos) (it acc : Value) (env : Env) :
    compTurn (.ListComp elt [⟨tgt, iter, [], 0⟩, ⟨tgt2, iter2, [], 0⟩] scope pos) 1 it acc env =
      turnOf (.ListComp elt [⟨tgt, iter, [], 0⟩, ⟨tgt2, iter2, [], 0⟩] scope pos) 1 iter2.pos tgt2 [] (do let _ ← call (.builtin "list.append") [acc, ← eval elt env]) it acc env := rfl

/-- the ghost only grows -/
structure Later (s s' : Gs) : Prop where
  ext : ∀ t i, s.τ t = some i → s'.τ t = some i
  toks : s.toks ≤ s'.toks
theorem Later.refl (s : Gs) : Later s s := ⟨fun _ _ e => e, Nat.le_refl _⟩
theorem Later.trans {s s' s'' : Gs} (x : Later s s') (y : Later s' s'') : Later s s'' := ⟨fun t i e => y.ext t i (x.ext t i e), Nat.le_trans x.toks y.toks⟩
theorem Grow.later {s s' : Gs} (g : Grow s s') : Later s s' := ⟨g.ext, g.toks⟩
theorem Mv.later {c : Cx} {ω ω' : Owns} {s s' : Gs} (g : Mv c ω ω' s s') : Later s s' := ⟨g.ext, g.toks⟩
theorem KeepW.later {wr : Addr → Prop} {s s' : Gs} (g : KeepW wr s s') : Later s s' := ⟨fun t i e => by rw [g.ghost]; exact e, g.toks⟩

/-- the filling list -/
noncomputable def Filled (c : Cx) (Y : Addr → Prop) (Dl : Addr) (out : List D) (s : Gs) : Prop := ∃ vs : Array Value, s.heap.PlainList Dl vs ∧ Reps s (Xω Y []) vs.toList out

structure Tests (c : Cx) (ρ : Vars) (ifs : List Expr) (b : Bool) : Prop where
  run : ∀ Y s, Fs c Y ρ [] s → ∀ (Q : Bool → Shared → Prop) (E : Value → Shared → Prop), (∀ s', Grow s s' → Q b s') →
    wpAny (model c.prog c.w) c.A (forIn ifs true fun e r => if r = true then do let ok ← isTrue e c.env (eval e c.env); pure (ForInStep.yield ok) else pure (ForInStep.yield r)) Q E s
theorem Tests.nil {c : Cx} {ρ : Vars} : Tests c ρ [] true := .mk fun Y s F Q E k => wpAny_tests_nil (k s (Grow.refl s))
theorem Tests.one {c : Cx} {ρ : Vars} {e : Expr} {b : Bool} (h : Tr c ρ [] e b) : Tests c ρ [e] b := .mk fun Y s F Q E k => wpAny_tests_one (h.run Y s F Q E k)

/-- what a turn adds -/
structure Emit (c : Cx) (Dl : Addr) (ρ ρ₁ : Vars) (em : Sem Unit) (os : List D) : Prop where
  run : ∀ Y s out, Fs c Y ρ [] s → Y Dl → Filled c Y Dl out s → out.length + os.length ≤ 100000 → ∀ (Q : Unit → Shared → Prop) (E : Value → Shared → Prop),
    (∀ s', Fs c Y ρ₁ [] s' → Filled c Y Dl (out ++ os) s' → (∀ b o, b ≠ c.env.locals → b ≠ Dl → s.heap.get? b = some o → s'.heap.get? b = some o) → (∀ b o, s.heap.get? b = some o → ∃ o', s'.heap.get? b = some o') → Later s s' → Q () s') →
    wpAny (model c.prog c.w) c.A em Q E s

structure Item (c : Cx) (Dl : Addr) (ρ : Vars) (tgt : Expr) (ifs : List Expr) (em : Sem Unit) (d : D) (os : List D) : Prop where
  run : ∃ b, Tests c (binds tgt d ++ ρ) ifs b ∧ (b = true → Emit c Dl (binds tgt d ++ ρ) ρ em os) ∧ (b = false → os = []) ∧ Sub ρ (binds tgt d ++ ρ)

theorem Filled.grow {c : Cx} {Y : Addr → Prop} {Dl : Addr} {out : List D} {s s' : Gs} (f : Filled c Y Dl out s) (g : Grow s s') : Filled c Y Dl out s' :=
  let ⟨vs, p, r⟩ := f; ⟨vs, plain_keep p (g.keep _), r.grow g⟩
theorem Filled.ne {c : Cx} {Y : Addr → Prop} {ρ : Vars} {Dl : Addr} {out : List D} {s : Gs} (F : Fs c Y ρ [] s) (f : Filled c Y Dl out s) : c.env.locals ≠ Dl ∧ ∀ x a, c.env.cells.lookup x = some a → a ≠ Dl := by
  obtain ⟨vs, p, _⟩ := f
  obtain ⟨m, hm⟩ := F.ns
  exact ⟨ns_ne_plain hm p, fun x a q => let ⟨v, hc⟩ := F.cell x a q; cell_ne_plain hc p⟩

theorem upto_succ (os : Nat → List D) (i : Nat) : (List.range (i + 1)).flatMap os = (List.range i).flatMap os ++ os i := by
  rw [List.range_succ, List.flatMap_append]; simp

theorem comp_loop {c : Cx} (ok : c.Ok) (hown : c.own = false) {elt : Expr} {gens : List Comprehension} {scope : Scope} {epos : Pos} {depth : Nat} {it acc : Value} {tgt : Expr} {ifs : List Expr} {em : Sem Unit} {itpos : Pos} {pair : Bool} {wr X : Addr → Prop} {its : List D} {h₀ : Heap} {J : Nat → Gs → Prop}
    {Dl : Addr} {ρ : Vars} {os : Nat → List D} {Y : Addr → Prop} {s : Gs} {out : List D} {R : Result → Shared → Prop}
    (hturn : compTurn (.ListComp elt gens scope epos) depth it acc c.env = turnOf (.ListComp elt gens scope epos) depth itpos tgt ifs em it acc c.env)
    (src : Src c.prog c.w c.A pair it wr its X h₀ J) (htgt : TgtOk c [] pair tgt) (hitem : ∀ i d, its[i]? = some d → Item c Dl ρ tgt ifs em d (os i))
    (n₀ : ∀ b, wr b → c.s₀.heap.get? b = none) (yw : ∀ b, Y b → ¬ wr b) (hX : ∀ b, Y b → X b ∨ h₀.get? b = none) (hx : ∀ a, c.X₀ a → Y a) (hyL : Y c.env.locals) (hyc : ∀ x a, c.env.cells.lookup x = some a → Y a) (yD : Y Dl)
    (F : Fs c (fun b => Y b ∨ wr b) ρ [] s) (hJ : J 0 s) (hD : Filled c (fun b => Y b ∨ wr b) Dl out s) (hsz : out.length + ((List.range its.length).flatMap os).length ≤ 100000)
    (k : ∀ s', Fs c Y ρ [] s' → Filled c Y Dl (out ++ (List.range its.length).flatMap os) s' → (∀ b o, b ≠ c.env.locals → b ≠ Dl → ¬ wr b → s.heap.get? b = some o → s'.heap.get? b = some o) →
      (∀ b o, ¬ wr b → s.heap.get? b = some o → ∃ o', s'.heap.get? b = some o') → Later s s' → R (.ok .next) s') :
    codeAny (model c.prog c.w) c.A (.compLoop (.ListComp elt gens scope epos) depth it acc c.env) R s := by
  have nL : ¬ wr c.env.locals := yw _ hyL
  have nC : ∀ x a, c.env.cells.lookup x = some a → ¬ wr a := fun x a q => yw _ (hyc x a q)
  have nD : ¬ wr Dl := yw _ yD
  refine codeAny_loop rfl (fun n sh' => ∃ (s' : Gs) (i : Nat), sh' = s'.sh ∧ i ≤ its.length ∧ n = its.length - i ∧ Fs c (fun b => Y b ∨ wr b) ρ [] s' ∧ J i s' ∧ Filled c (fun b => Y b ∨ wr b) Dl (out ++ (List.range i).flatMap os) s' ∧
      (∀ b o, b ≠ c.env.locals → b ≠ Dl → ¬ wr b → s.heap.get? b = some o → s'.heap.get? b = some o) ∧ (∀ b o, s.heap.get? b = some o → ∃ o', s'.heap.get? b = some o') ∧ Later s s') ?_ (its.length - 0)
    ⟨s, 0, rfl, Nat.zero_le _, rfl, F, hJ, by simpa using hD, fun _ _ _ _ _ e => e, fun _ o e => ⟨o, e⟩, Later.refl s⟩
  rintro n _ ⟨s', i, rfl, hi, rfl, F', hJ', hD', hk, hlv, hla⟩
  show wpAny _ c.A ((compTurn (.ListComp elt gens scope epos) depth it acc c.env).onRaise (fun x => do noteFrame x c.env; theTreesLotGoes x)) _ _ s'.sh
  refine wpAny_noted ?_
  rw [hturn]
  unfold turnOf
  refine wpAny_bind (wpAny_standAt (wpAny_bind ?_))
  cases hd : its[i]? with
  | none =>
    have hlen : i = its.length := Nat.le_antisymm hi (List.getElem?_eq_none_iff.mp hd)
    subst hlen
    refine src.done its.length s' hd hJ' _ _ fun s₁ kw => wpAny_pure ?_
    have F₁ := F'.thru n₀ nL nC Y (fun b q => .inl q) (fun b q => q) hx hyL hyc kw fun b q z => absurd z (yw b q)
    obtain ⟨vs, p, r⟩ := hD'
    refine k s₁ F₁ ⟨vs, plain_keep p fun o e => kw.keep _ o nD e, r.move kw.later.ext (fun b o hb e => kw.keep b o (fun z => hb (.inl (.inr z))) e) fun b o q _ => ?_⟩ (fun b o h1 h2 h3 e => kw.keep b o h3 (hk b o h1 h2 h3 e)) (fun b o h3 e => ?_) (hla.trans kw.later)
    · rcases q with q | ⟨_, q, _⟩
      · exact .inl (.inl q)
      · cases q
    · obtain ⟨o', e'⟩ := hlv b o e; exact ⟨o', kw.keep b o' h3 e'⟩
  | some d =>
    have hlt : i < its.length := (List.getElem?_eq_some_iff.mp hd).1
    have hXn : ∀ b, Xω (fun b => Y b ∨ wr b) [] b → X b ∨ wr b ∨ h₀.get? b = none := fun b q => by
      rcases q with (q | q) | ⟨_, q, _⟩
      · rcases hX b q with q | q
        · exact .inl q
        · exact .inr (.inr q)
      · exact .inr (.inl q)
      · cases q
    have fk : ∀ {b : Addr}, Y b → ¬ (wr b ∨ (¬ X b ∧ ∃ o', h₀.get? b = some o')) := fun {b} hy q => by
      rcases q with q | ⟨q1, o, q2⟩
      · exact yw b hy q
      · rcases hX b hy with q | q
        · exact q1 q
        · rw [q] at q2; cases q2
    refine src.next i d tgt s' _ hd hJ' hXn htgt.tgt _ _ fun v s₁ hgo => ?_
    refine wpAny_bind (hgo _ _ fun s₁' got hJ₁ kw => ?_)
    have F₁ := F'.thru n₀ nL nC (fun b => Y b ∨ wr b) (fun b q => q) (fun b q => .inl q) hx hyL hyc kw fun b _ z => src.live _ _ hJ₁ b z
    have hD₁ : Filled c (fun b => Y b ∨ wr b) Dl (out ++ (List.range i).flatMap os) s₁' := by
      obtain ⟨vs, p, r⟩ := hD'
      exact ⟨vs, plain_keep p fun o e => kw.keep _ o nD e, r.move kw.later.ext (fun b o hb e => kw.keep b o (fun z => hb (.inl (.inr z))) e) fun _ _ q _ => q⟩
    have lv1 : ∀ b o, s.heap.get? b = some o → ∃ o', s₁'.heap.get? b = some o' := fun b o e => by
      by_cases z : wr b
      · exact src.live _ _ hJ₁ b z
      · obtain ⟨o', e'⟩ := hlv b o e; exact ⟨o', kw.keep b o' z e'⟩
    have hk1 : ∀ b o, b ≠ c.env.locals → b ≠ Dl → ¬ wr b → s.heap.get? b = some o → s₁'.heap.get? b = some o := fun b o h1 h2 h3 e => kw.keep b o h3 (hk b o h1 h2 h3 e)
    refine wpAny_bind (assign_got ok F₁ htgt got fun s₃ F₃ mv₃ ho₃ => ?_)
    have ow : ∀ {b}, b ≠ c.env.locals → ¬ c.Ow [] b := fun hb q => by
      rcases q with q | ⟨q, _⟩ | ⟨_, q, _⟩
      · exact hb q
      · rw [hown] at q; cases q
      · cases q
    have k3 : ∀ b o, b ≠ c.env.locals → s₁'.heap.get? b = some o → s₃.heap.get? b = some o := fun b o hb e => mv₃.keep b o (ow hb) e
    have hD₃ : Filled c (fun b => Y b ∨ wr b) Dl (out ++ (List.range i).flatMap os) s₃ := by
      obtain ⟨h1, _⟩ := hD₁.ne F₁
      obtain ⟨vs, p, r⟩ := hD₁
      exact ⟨vs, plain_keep p fun o e => k3 _ o (Ne.symm h1) e, r.move mv₃.ext (fun b o hb e => ho₃ b o hb e) fun _ _ q _ => q⟩
    obtain ⟨t, ht, he, hf, hs⟩ := (hitem i d hd).run
    refine wpAny_bind (ht.run _ s₃ F₃ _ _ fun s₄ g₄ => ?_)
    have F₄ := F₃.grow g₄
    have hD₄ := hD₃.grow g₄
    have J₄ : J (i + 1) s₄ := src.frame _ _ _ hJ₁ (fun t i e => g₄.ext t i (mv₃.ext t i e)) fun b o hb e => g₄.keep b o (k3 b o (fun q => fk (q ▸ hyL) hb) e)
    have k4 : ∀ b o, b ≠ c.env.locals → b ≠ Dl → ¬ wr b → s.heap.get? b = some o → s₄.heap.get? b = some o := fun b o h1 h2 h3 e => g₄.keep b o (k3 b o h1 (hk1 b o h1 h2 h3 e))
    have lv4 : ∀ b o, s.heap.get? b = some o → ∃ o', s₄.heap.get? b = some o' := fun b o e => by
      obtain ⟨o', e'⟩ := lv1 b o e
      obtain ⟨o'', e''⟩ := mv₃.lv _ o' e'
      exact ⟨o'', g₄.keep _ _ e''⟩
    have la4 : Later s s₄ := hla.trans (kw.later.trans (mv₃.later.trans g₄.later))
    cases t with
    | false =>
      simp only [Bool.false_eq_true, if_false]
      refine wpAny_bind (wpAny_pure (wpAny_pure ⟨rfl, its.length - (i + 1), by omega, s₄, i + 1, rfl, hlt, rfl, F₄.less hs, J₄, ?_, k4, lv4, la4⟩))
      rw [upto_succ, hf rfl, List.append_nil]; exact hD₄
    | true =>
      simp only [if_true]
      have hsz' : (out ++ (List.range i).flatMap os).length + (os i).length ≤ 100000 := by
        have : ((List.range its.length).flatMap os).length ≥ ((List.range (i + 1)).flatMap os).length := by
          have : List.range its.length = List.range (i + 1) ++ (List.range (its.length - (i + 1))).map (· + (i + 1)) := by
            have h := List.range_add (n := i + 1) (m := its.length - (i + 1))
            rw [show i + 1 + (its.length - (i + 1)) = its.length by omega] at h
            rw [h]; congr 1
            apply List.map_congr_left; intro a _; omega
          rw [this, List.flatMap_append, List.length_append]; omega
        rw [upto_succ] at this
        simp only [List.length_append] at this hsz ⊢
        omega
      refine wpAny_bind ((he rfl).run _ s₄ _ F₄ (.inl yD) hD₄ hsz' _ _ fun s₅ F₅ hD₅ k5 lv5 la5 => wpAny_pure ⟨rfl, its.length - (i + 1), by omega, s₅, i + 1, rfl, hlt, rfl, F₅, ?_, ?_, ?_, ?_, la4.trans la5⟩)
      · exact src.frame _ _ _ J₄ la5.ext fun b o hb e => k5 b o (fun q => fk (q ▸ hyL) hb) (fun q => fk (q ▸ yD) hb) e
      · rw [upto_succ, ← List.append_assoc]; exact hD₅
      · exact fun b o h1 h2 h3 e => k5 b o h1 h2 (k4 b o h1 h2 h3 e)
      · intro b o e
        obtain ⟨o', e'⟩ := lv4 b o e
        exact lv5 b o' e'

theorem Emit.append {c : Cx} {Dl : Addr} {ρ ρ₁ : Vars} {elt : Expr} {d : D} (n₀ : c.s₀.heap.get? Dl = none) (h : Ev c ρ [] elt d) (hs : Sub ρ₁ ρ) : Emit c Dl ρ ρ₁ (do let _ ← call (.builtin "list.append") [.ref Dl, ← eval elt c.env]) [d] := .mk fun Y s out F yD hD hsz Q E k => by
  refine wpAny_bind (h.run Y s F _ E fun v s₁ g₁ r₁ => ?_)
  have F₁ := F.grow g₁
  have hD₁ := hD.grow g₁
  obtain ⟨hL, hC⟩ := hD₁.ne F₁
  obtain ⟨vs, p, r⟩ := hD₁
  have hlen : vs.size = out.length := by have := r.length; simpa using this
  refine wpAny_bind (wpAny_list_append_plain p (fun h' p' hs' => wpAny_pure ?_) (by rw [hlen]; simp at hsz; exact Nat.le_trans (by omega : out.length ≤ 100000) (by decide)))
  have hk : ∀ b o, ¬ Xω Y [] b → s₁.heap.get? b = some o → h'.get? b = some o := fun b o hb e => hs'.extBut b o (fun q => hb (.inl (q ▸ yD))) e
  have F' : Fs c Y ρ [] (s₁.on h' s₁.toks) := by
    have FF : Fs c (fun b => Y b ∨ b = Dl) ρ [] s₁ := by
      have hX : ∀ b, Xω (fun b => Y b ∨ b = Dl) [] b → Xω Y [] b := fun b q => by
        rcases q with (q | q) | q
        · exact .inl q
        · exact .inl (q ▸ yD)
        · exact .inr q
      refine ⟨F₁.same, F₁.pos, F₁.sane, F₁.ext, F₁.mono, F₁.keep, fun a q => .inl (F₁.x₀ a q), .inl F₁.yl, fun x a q => .inl (F₁.yc x a q), fun a q => q.elim (F₁.ylive a) fun q => F₁.ylive a (q ▸ yD), F₁.ns, F₁.cell, fun x d e => ?_, fun q hq => (by cases hq), F₁.nodup, F₁.names⟩
      obtain ⟨v, H, r⟩ := F₁.vars x d e; exact ⟨v, H, r.less hX⟩
    exact FF.thru (wr := (· = Dl)) (fun b q => q ▸ n₀) hL hC Y (fun b q => .inl q) (fun b q => q) F₁.x₀ F₁.yl F₁.yc ⟨⟨h', s₁.toks, rfl⟩, rfl, Nat.le_refl _, fun b o hb e => hs'.extBut b o hb e⟩ fun b _ z => by
      obtain ⟨n, e⟩ := p'; exact ⟨_, z ▸ e⟩
  refine k _ (F'.less hs) ⟨vs.push v, p', ?_⟩ (fun b o h1 h2 e => hs'.extBut b o h2 (g₁.keep b o e)) (fun b o e => ?_) ⟨g₁.ext, g₁.toks⟩
  · rw [Array.toList_push]
    exact (Reps.move (s := s₁) (s' := s₁.on h' s₁.toks) (fun _ _ e => e) hk (fun _ _ q _ => q) r).append (.cons (Rep.move (s := s₁) (s' := s₁.on h' s₁.toks) (fun _ _ e => e) hk (fun _ _ q _ => q) r₁) .nil)
  · by_cases hb : b = Dl
    · obtain ⟨n, e⟩ := p'; exact ⟨_, hb ▸ e⟩
    · exact ⟨o, hs'.extBut b o hb (g₁.keep b o e)⟩
end Mine
end

section
open PySem PySem.W PyProof.Rows PySem.Calls
namespace Mine

noncomputable def Cx.comp (c : Cx) (scope : Scope) (cl : List (Str × Addr)) (C : Addr) (s₂ : Gs) (X₀ : Addr → Prop) : Cx := ⟨c.prog, c.w, c.W, c.A, c.n, compEnvC scope cl C c.env, s₂, X₀, false⟩

/-- what a comprehension sees of its frame -/
noncomputable def Captures (c : Cx) (scope : Scope) (cl : List (Str × Addr)) (ρ ρ' : Vars) : Prop :=
  ∀ x d, ρ'.lookup x = some d → ρ.lookup x = some d ∧ c.env.kindOf x ≠ some .local ∧ ((relabel scope c.env).names.lookup x = some .cell ∨ (relabel scope c.env).names.lookup x = some .free) ∧ ∃ a, cl.lookup x = some a ∧ c.env.cells.lookup x = some a
theorem Captures.nil {c : Cx} {scope : Scope} {cl : List (Str × Addr)} {ρ : Vars} : Captures c scope cl ρ [] := fun _ _ e => by cases e
theorem Captures.cons {c : Cx} {scope : Scope} {cl : List (Str × Addr)} {ρ ρ' : Vars} {x : Str} {d : D} {a : Addr} (h1 : ρ.lookup x = some d) (h2 : c.env.kindOf x ≠ some .local) (h3 : (relabel scope c.env).names.lookup x = some .cell ∨ (relabel scope c.env).names.lookup x = some .free)
    (h4 : cl.lookup x = some a) (h5 : c.env.cells.lookup x = some a) (r : Captures c scope cl ρ ρ') : Captures c scope cl ρ ((x, d) :: ρ') := fun y e q => by
  rw [List.lookup_cons] at q
  cases hy : y == x with
  | true => rw [hy] at q; cases q; rw [beq_iff_eq.mp hy]; exact ⟨h1, h2, h3, a, h4, h5⟩
  | false => rw [hy] at q; exact r _ _ q

/-- the parts of a comprehension that only its text says -/
structure CompOk (c : Cx) (scope : Scope) (cl : List (Str × Addr)) : Prop where
  clos : closureFor scope c.env = pure cl
  sub : ∀ x a, cl.lookup x = some a → c.env.cells.lookup x = some a
  nocell : ∀ y ∈ scope.names, y.2 ≠ .cell
  kind : scope.kind = .function
  names : ∀ y ∈ scope.names, y.2 = .local → scope.names.lookup y.1 = some .local

theorem comp_ok {c : Cx} (ok : c.Ok) {scope : Scope} {cl : List (Str × Addr)} (co : CompOk c scope cl) {C : Addr} {s₂ : Gs} {X₀ : Addr → Prop} (wd : c.W.In s₂) (live : ∀ a, X₀ a → ∃ o, s₂.heap.get? a = some o)
    (hC : s₂.heap.get? C = none) (hc : ∀ x a, c.env.cells.lookup x = some a → X₀ a) : (c.comp scope cl C s₂ X₀).Ok where
  kind := co.kind
  glob := ok.glob
  bi := ok.bi
  room := ok.room
  wd := wd
  live := live
  newL := hC
  cells := fun x a q => ⟨fun e => (by cases e), fun _ => hc x a (co.sub x a q)⟩
  apart := fun x y a h1 h2 => ok.apart x y a (co.sub x a h1) (co.sub y a h2)

/-- the items of a comprehension, each by itself -/
structure Body (c : Cx) (scope : Scope) (cl : List (Str × Addr)) (ρ' : Vars) (pair : Bool) (tgt : Expr) (ifs : List Expr) (elt : Expr) (its : List D) (os : Nat → List D) : Prop where
  run : ∀ C s₂ X₀, (c.comp scope cl C s₂ X₀).Ok → TgtOk (c.comp scope cl C s₂ X₀) [] pair tgt ∧
    ∀ i d, its[i]? = some d → ∃ b, Tests (c.comp scope cl C s₂ X₀) (binds tgt d ++ ρ') ifs b ∧ (b = true → ∃ e, os i = [e] ∧ Ev (c.comp scope cl C s₂ X₀) (binds tgt d ++ ρ') [] elt e) ∧ (b = false → os i = []) ∧ Sub ρ' (binds tgt d ++ ρ')

structure BodyG (c : Cx) (scope : Scope) (cl : List (Str × Addr)) (ρ' : Vars) (pair : Bool) (tgt : Expr) (ifs : List Expr) (em : Value → Env → Sem Unit) (its : List D) (os : Nat → List D) : Prop where
  run : ∀ C s₂ X₀ Dl, (c.comp scope cl C s₂ X₀).Ok → s₂.heap.get? Dl = none → TgtOk (c.comp scope cl C s₂ X₀) [] pair tgt ∧
    ∀ i d, its[i]? = some d → Item (c.comp scope cl C s₂ X₀) Dl ρ' tgt ifs (em (.ref Dl) (c.comp scope cl C s₂ X₀).env) d (os i)
noncomputable def emOne (elt : Expr) (acc : Value) (env : Env) : Sem Unit := do let _ ← call (.builtin "list.append") [acc, ← eval elt env]
theorem Body.toG {c : Cx} {scope : Scope} {cl : List (Str × Addr)} {ρ' : Vars} {pair : Bool} {tgt : Expr} {ifs : List Expr} {elt : Expr} {its : List D} {os : Nat → List D} (h : Body c scope cl ρ' pair tgt ifs elt its os) :
    BodyG c scope cl ρ' pair tgt ifs (emOne elt) its os := .mk fun C s₂ X₀ Dl ok hD => ⟨(h.run C s₂ X₀ ok).1, fun i d hd => by
  obtain ⟨b, h1, h2, h3, h4⟩ := (h.run C s₂ X₀ ok).2 i d hd
  refine ⟨b, h1, fun q => ?_, h3, h4⟩
  obtain ⟨e, he, hev⟩ := h2 q
  rw [he]
  exact Emit.append hD hev h4⟩

theorem compStart_any {prog : Program} {w : World} {A : Around} {R : Result → Shared → Prop} {s : Shared} {elt : Expr} {gens : List Comprehension} {scope : Scope} {pos : Pos} {depth : Nat} {it acc : Value} {env : Env} {g : Comprehension} (hg : gens[depth]? = some g) (ha : g.is_async = 0)
    (h0 : codeAny (model prog w) A (.compLoop (.ListComp elt gens scope pos) depth it acc env) R s)
    (h : wpAny (model prog w) A (pyIter it) (fun it' s' => codeAny (model prog w) A (.compLoop (.ListComp elt gens scope pos) depth it' acc env) R s') (notedBy (model prog w) A env fun x s' => R (.error x) s') s) :
    codeAny (model prog w) A (.compStart (.ListComp elt gens scope pos) depth it acc env) R s := by
  refine codeAny_of_tree ?_
  show wpAny _ _ ((compStart (.ListComp elt gens scope pos) depth it acc env).onRaise (fun x => do noteFrame x env; standAt theWindowsPlace)) _ _ s
  refine wpAny_notedAt ?_
  have hc : (clausesOf (.ListComp elt gens scope pos))[depth]? = some g := hg
  unfold compStart
  rw [hc]
  simp only [Option.elim, ha, bne_self_eq_false, Bool.false_eq_true, if_false]
  show wpAny _ _ (ask >>= _) _ _ s
  refine wpAny_bind (wpAny_askSetting (wpAny_ite ?_))
  split
  · first
      | exact wpAny_bind (wpAny_pure (wpAny_pure (And.intro rfl h0)))
      | exact wpAny_pure (And.intro rfl h0)
  · refine wpAny_bind (wpAny_rule ?_)
    first
      | exact wpAny_bind (wpAny_standAt (wpAny_bind (wpAny_mono h (fun it' s' h' => wpAny_pure (And.intro rfl h')) fun _ _ x => x)))
      | (show wpAny _ _ (standAt _ >>= _) _ _ s; exact wpAny_bind (wpAny_standAt (wpAny_bind (wpAny_mono h (fun it' s' h' => wpAny_pure (And.intro rfl h')) fun _ _ x => x))))

theorem same_of {s s' : Shared} (x : ∃ h tk, s' = { s with heap := h, toks := tk }) (h' : Heap) (t' : Tok) : ∃ h tk, ({ s' with heap := h', toks := t' } : Shared) = { s with heap := h, toks := tk } := by
  obtain ⟨h, t, rfl⟩ := x; exact ⟨h', t', rfl⟩

/-- a comprehension of one clause, up to the point where its list is full -/
theorem comp_any {c : Cx} {ρ ρ' : Vars} {ω : Owns} (ok : c.Ok) {scope : Scope} {cl : List (Str × Addr)} {elt tgt iter : Expr} {ifs : List Expr} {pos ppos : Pos} {pair : Bool} {its : List D} {os : Nat → List D} {gs : List Comprehension} {em : Value → Env → Sem Unit} (co : CompOk c scope cl)
    (hit : It c ρ ω iter pair its) (hcap : Captures c scope cl ρ ρ') (body : BodyG c scope cl ρ' pair tgt ifs em its os)
    (hturn : ∀ it acc env, compTurn (.ListComp elt (⟨tgt, iter, ifs, 0⟩ :: gs) scope pos) 0 it acc env = turnOf (.ListComp elt (⟨tgt, iter, ifs, 0⟩ :: gs) scope pos) 0 iter.pos tgt ifs (em acc env) it acc env) (hsz : ((List.range its.length).flatMap os).length ≤ 100000)
    {Y : Addr → Prop} {s : Gs} (F : Fs c Y ρ ω s) {use : Option (Value → Sem Unit)} {Q : Value → Shared → Prop} {E : Value → Shared → Prop}
    (k : ∀ C Dl (s' : Gs) vs m, Grow s s' → s.heap.get? C = none → s.heap.get? Dl = none → C ≠ Dl → s'.heap.Ns C m → s'.heap.PlainList Dl vs → Reps s' (fun b => Xω Y ω b ∨ b = Dl ∨ b = C) vs.toList ((List.range its.length).flatMap os) →
      compPost (model c.prog c.w) c.A E use Q (.ref Dl) C (.ok .next) s')
    (hs : ∀ x, foldedSetIterable iter c.env x = pure x) :
    wpAny (model c.prog c.w) c.A (comprehension (.ListComp elt (⟨tgt, iter, ifs, 0⟩ :: gs) scope pos) scope c.env ppos (newList []) false (eval iter c.env) use) Q E s := by
  refine wpAny_comprehension_free (g := ⟨tgt, iter, ifs, 0⟩) (gs := gs) rfl hs co.clos co.kind co.names ?_
  refine hit.run Y s F _ E fun it s₂ wr J g hwr src hJ => ?_
  have F₂ := F.grow g
  refine wpAny_newObj_type (wpAny_newFunctionEnv co.nocell (by intro y hy; simp at hy) (fun h₁ hns₁ hsb₁ => ?_) co.kind) (Nat.zero_le _)
  dsimp only at hns₁ hsb₁ ⊢
  have hC : (s₂.heap.push { cls := .type "list", dict := none, data := .seq ([] : List Value).toArray }).objs.size = s₂.heap.objs.size + 1 := Heap.size_push ..
  have old1 : ∀ b o, s₂.heap.get? b = some o → h₁.get? b = some o := fun b o e => by
    have := Heap.lt_size e
    refine hsb₁.extBut b o (fun q => ?_) (Heap.get?_push_of_some _ (Heap.get?_push_of_some _ e))
    rw [q, hC] at this; exact Nat.lt_irrefl _ (Nat.lt_of_succ_lt this)
  have hDl : h₁.PlainList s₂.heap.objs.size #[] := ⟨0, hsb₁.extBut _ _ (by rw [hC]; exact (Nat.succ_ne_self _).symm) (Heap.get?_push_of_some _ (Heap.get?_push_size _ rfl))⟩
  rw [hC] at hns₁ ⊢
  generalize hDe : s₂.heap.objs.size = Dl at *
  have deadD : s₂.heap.get? Dl = none := dead_at _ (Nat.le_of_eq hDe)
  have deadC : s₂.heap.get? (Dl + 1) = none := dead_at _ (by rw [hDe]; exact Nat.le_succ _)
  let c' := c.comp scope cl (Dl + 1) s (Xω Y ω)
  have ok' : c'.Ok := comp_ok ok co (F.wd ok) F.xlive (dead_back g deadC) fun x a q => .inl (F.yc x a q)
  obtain ⟨htgt, hitem⟩ := body.run _ _ _ Dl ok' (dead_back g deadD)
  let Yc : Addr → Prop := fun b => Xω Y ω b ∨ b = Dl ∨ b = Dl + 1
  let s₄ : Gs := s₂.on h₁ (s₂.toks + ([] : List (Str × Value)).length)
  have g₄ : Grow s s₄ := g.trans (Grow.of old1 (Nat.le_add_right _ _))
  have lvD : ∃ o, h₁.get? Dl = some o := let ⟨_, e⟩ := hDl; ⟨_, e⟩
  have lvC : ∃ o, h₁.get? (Dl + 1) = some o := let ⟨o, _, _, e, _⟩ := hns₁; ⟨o, e⟩
  have F' : Fs c' (fun b => Yc b ∨ wr b) ρ' [] s₄ := by
    refine ⟨g₄.same, Nat.lt_of_lt_of_le F.pos g₄.toks, g₄.sane F.sane, g₄.ext, g₄.toks, fun b o e => old1 b o (g.keep b o e), fun a q => .inl (.inl q), .inl (.inr (.inr rfl)), fun x a q => .inl (.inl (.inl (F.yc x a (co.sub x a q)))), fun a q => ?_, ⟨_, hns₁⟩, fun x a q => ?_, fun x d e => ?_, fun q hq => (by cases hq), .nil, .nil⟩
    · rcases q with (q | q | q) | q
      · obtain ⟨o, e⟩ := F₂.xlive a q; exact ⟨o, old1 _ _ e⟩
      · exact q ▸ lvD
      · exact q ▸ lvC
      · obtain ⟨o, e⟩ := (hwr a q).2; exact ⟨o, old1 _ _ e⟩
    · obtain ⟨v, hc⟩ := F₂.cell x a (co.sub x a q); exact ⟨v, hc.keeps old1⟩
    · obtain ⟨e', hk, hk', a, h4, h5⟩ := hcap x d e
      obtain ⟨v, H, r⟩ := F.vars x d e'
      refine ⟨v, ?_, r.move g₄.ext (fun b o _ e => old1 b o (g.keep b o e)) fun b o q e => ?_⟩
      · rcases H with ⟨q, _⟩ | ⟨_, a', ha', hc⟩
        · exact absurd q hk
        · rw [h5] at ha'; cases ha'
          exact .inr ⟨hk', a, h4, hc.keeps fun b o e => old1 b o (g.keep b o e)⟩
      · rcases q with ((q | q | q) | q) | ⟨_, q, _⟩
        · exact q
        · rw [q, dead_back g deadD] at e; cases e
        · rw [q, dead_back g deadC] at e; cases e
        · rw [(hwr b q).1] at e; cases e
        · cases q
  have J₄ : J 0 s₄ := src.frame _ s₂ s₄ hJ (fun _ _ e => e) fun b o _ e => old1 b o e
  have hD₄ : Filled c' (fun b => Yc b ∨ wr b) Dl [] s₄ := ⟨#[], hDl, .nil⟩
  have sub : (fun (cenv : Env) => ({ cenv with scope := relabel scope c.env } : Env)) (newEnv scope (Dl + 1) c.env.globals cl c.env.qual none .none (some c.env) 0) = c'.env := rfl
  have yw : ∀ b, Yc b → ¬ wr b := fun b q z => by
    rcases q with q | q | q
    · obtain ⟨o, e⟩ := F.xlive b q; rw [(hwr b z).1] at e; cases e
    · obtain ⟨o, e⟩ := (hwr b z).2; rw [q, deadD] at e; cases e
    · obtain ⟨o, e⟩ := (hwr b z).2; rw [q, deadC] at e; cases e
  have loop : codeAny (model c.prog c.w) c.A (.compLoop (.ListComp elt (⟨tgt, iter, ifs, 0⟩ :: gs) scope pos) 0 it (.ref Dl) c'.env) (compPost (model c.prog c.w) c.A E use Q (.ref Dl) (Dl + 1)) s₄ := by
    refine comp_loop (c := c') ok' rfl (hturn it (.ref Dl) c'.env) src htgt (os := os) hitem (n₀ := fun b q => ?_) (Y := Yc) yw (fun b q => ?_) (fun a q => ?_) (.inr (.inr rfl)) (fun x a q => .inl (.inl (F.yc x a (co.sub x a q)))) (.inr (.inl rfl)) F' J₄ hD₄ (by simpa using hsz) fun s' F₅ hD₅ hk₅ _ la => ?_
    · exact (hwr b q).1
    · rcases q with q | q | q
      · exact .inl q
      · exact .inr (q ▸ deadD)
      · exact .inr (q ▸ deadC)
    · exact .inl q
    · obtain ⟨vs, p, r⟩ := hD₅
      obtain ⟨m, hm⟩ := F₅.ns
      refine k (Dl + 1) Dl s' vs m ⟨F₅.same, F₅.keep, F₅.mono, F₅.ext, fun _ => F₅.sane⟩ (dead_back g deadC) (dead_back g deadD) (Nat.succ_ne_self _) hm p (by
        rw [List.nil_append] at r
        exact r.less fun b q => .inl q)
  refine compStart_any (g := ⟨tgt, iter, ifs, 0⟩) rfl rfl loop (src.self 0 s₄ J₄ _ _ loop)

section
variable {c : Cx} {ρ ρ' : Vars} {ω : Owns} {scope : Scope} {cl : List (Str × Addr)} {elt tgt iter : Expr} {ifs : List Expr} {pos ppos : Pos} {pair : Bool} {its : List D} {os : Nat → List D}

theorem Ev.comp (ok : c.Ok) (co : CompOk c scope cl) (hit : It c ρ ω iter pair its) (hcap : Captures c scope cl ρ ρ') (body : Body c scope cl ρ' pair tgt ifs elt its os) (hsz : ((List.range its.length).flatMap os).length ≤ 100000)
    (hs : ∀ x, foldedSetIterable iter c.env x = pure x := by intro _; rfl) :
    Ev c ρ ω (.ListComp elt [⟨tgt, iter, ifs, 0⟩] scope pos) (.lst ((List.range its.length).flatMap os)) := .mk fun Y s F Q E k => by
  show wpAny _ _ (comprehension (.ListComp elt [⟨tgt, iter, ifs, 0⟩] scope pos) scope c.env iter.pos (newList []) false (eval iter c.env) none) _ _ _
  refine comp_any (gs := []) ok co hit hcap body.toG (fun it acc env => turn_one elt tgt iter ifs scope pos it acc env) hsz F (fun C Dl s' vs m g dC dD hCD hm p r => ?_) hs
  refine ⟨m, hm, fun h' hs' => ?_⟩
  have g' : Grow s (s'.on h' s'.toks) := by
    obtain ⟨⟨h, t, e⟩, kp, tk, ex, sn⟩ := g
    exact ⟨⟨h', t, by show ({ s'.sh with heap := h', toks := s'.sh.toks } : Shared) = _; rw [e]⟩, fun b o e => hs'.extBut b o (fun q => by rw [q, dC] at e; cases e) (kp b o e), tk, ex, sn⟩
  have nX : ¬ Xω Y ω Dl := fun q => by obtain ⟨o, e⟩ := F.xlive _ q; rw [dD] at e; cases e
  refine k _ _ g' (.lst (plain_keep p fun o e => hs'.extBut _ o (Ne.symm hCD) e) nX (Reps.move (s := s') (s' := s'.on h' s'.toks) (fun _ _ e => e) (fun b o hb e => hs'.extBut b o (fun q => hb (.inr (.inr q))) e) (fun b o q _ => .inl q) r))

/-- the target is stored before the comprehension's own variables go -/
theorem Xs.assignComp {x : Str} {p1 spos : Pos} {P : Vars → Owns → Prop} {Rt : D → Prop} (ok : c.Ok) (co : CompOk c scope cl) (hit : It c ρ ω iter pair its) (hcap : Captures c scope cl ρ ρ') (body : Body c scope cl ρ' pair tgt ifs elt its os)
    (hsz : ((List.range its.length).flatMap os).length ≤ 100000) (hx : c.stores x) (hω : x ∉ ω.map (·.1))
    (hsw : swapsWith (.ListComp elt [⟨tgt, iter, ifs, 0⟩] scope pos) (some (.Name x p1)) spos.line c.env = pure true) (hs : ∀ x, foldedSetIterable iter c.env x = pure x := by intro _; rfl) :
    Xs c (.Assign [.Name x p1] (.ListComp elt [⟨tgt, iter, ifs, 0⟩] scope pos) spos) ρ ω (fun a b => a = (x, .lst ((List.range its.length).flatMap os)) :: ρ ∧ b = ω) Rt := .mk fun Y s F Q E k1 k2 => by
  have e0 : exec (.Assign [.Name x p1] (.ListComp elt [⟨tgt, iter, ifs, 0⟩] scope pos) spos) c.env = (do
      standAt spos
      if ← swapsWith (.ListComp elt [⟨tgt, iter, ifs, 0⟩] scope pos) (some (.Name x p1)) spos.line c.env then do
        (do let _ ← comprehension (.ListComp elt [⟨tgt, iter, ifs, 0⟩] scope pos) scope c.env iter.pos (newList []) false (eval iter c.env) (some fun v => PySem.assign (.Name x p1) c.env v))
        pure .next
      else do
        let v ← eval (.ListComp elt [⟨tgt, iter, ifs, 0⟩] scope pos) c.env
        assignStores c.env v (← swappedStores [.Name x p1] (.ListComp elt [⟨tgt, iter, ifs, 0⟩] scope pos) c.env) [PySem.assign (.Name x p1) c.env]) := rfl
  rw [e0, hsw]
  refine wpAny_bind (wpAny_standAt (wpAny_bind (wpAny_pure ?_)))
  simp only [if_true]
  refine wpAny_bind (wpAny_bind (comp_any (gs := []) ok co hit hcap body.toG (fun it acc env => turn_one elt tgt iter ifs scope pos it acc env) hsz F (fun C Dl s' vs m g dC dD hCD hm p r => ?_) hs))
  show wpAny _ _ (PySem.assign (.Name x p1) c.env (.ref Dl)) _ _ _
  have nX : ¬ Xω Y ω Dl := fun q => by obtain ⟨o, e⟩ := F.xlive _ q; rw [dD] at e; cases e
  have F' := F.hide (Z := (· = C)) g (fun b q => q ▸ dC) fun b q => by obtain ⟨o, _, _, e, _⟩ := hm; exact ⟨o, q ▸ e⟩
  have rl : Rep s' (Xω (fun b => Y b ∨ b = C) ω) (.ref Dl) (.lst ((List.range its.length).flatMap os)) := .lst p (fun q => by
    rcases q with (q | q) | q
    · exact nX (.inl q)
    · exact hCD q.symm
    · exact nX (.inr q)) (r.less fun b q => by
      rcases q with (q | q) | q
      · exact .inl (.inl q)
      · exact .inr (.inr q)
      · exact .inl (.inr q))
  refine wpAny_assign_Name (store_dat ok F' hx hω rl fun s₅ F₅ mv₅ ho₅ => ?_)
  have nC : ¬ Y C := fun q => by obtain ⟨o, e⟩ := F.ylive _ q; rw [dC] at e; cases e
  have nL : C ≠ c.env.locals := fun q => nC (q ▸ F.yl)
  have hm₅ : ∃ m', s₅.heap.Ns C m' := by
    obtain ⟨o, es, ep, e, r⟩ := hm
    refine ⟨m, o, es, ep, mv₅.keep C o (fun q => ?_) e, r⟩
    rcases q with q | ⟨_, y, q⟩ | ⟨q, hq, e'⟩
    · exact nL q
    · exact nC (F.yc y C q)
    · obtain ⟨_, _, _, vs, ⟨n, e''⟩, _⟩ := F.owns q hq
      rw [e', dC] at e''; cases e''
  obtain ⟨m', hm'⟩ := hm₅
  refine ⟨m', hm', fun h' hs' => wpAny_pure (wpAny_pure ?_)⟩
  have F₆ := F₅.thru (wr := (· = C)) (s' := s₅.on h' s₅.toks) (fun b q => by
      subst q
      cases e : c.s₀.heap.get? b with
      | none => rfl
      | some o => rw [F.keep _ _ e] at dC; cases dC) (fun q => nL q.symm) (fun y a q z => nC (z ▸ F.yc y a q)) Y (fun b q => .inl q) (fun b q => q) F.x₀ F.yl F.yc ⟨⟨h', s₅.toks, rfl⟩, rfl, Nat.le_refl _, fun b o hb e => hs'.extBut b o hb e⟩ fun b q z => absurd (z ▸ q) nC
  refine k1 _ _ _ F₆ ⟨fun b o hb e => hs'.extBut b o (fun q => by rw [q, dC] at e; cases e) (mv₅.keep b o hb (g.keep b o e)), fun b o e => ?_, fun q hq => .inl ⟨q, hq, rfl⟩, fun t i e => mv₅.ext t i (g.ext t i e), Nat.le_trans g.toks mv₅.toks⟩ ⟨rfl, rfl⟩
  obtain ⟨o', e'⟩ := mv₅.lv b o (g.keep b o e)
  exact ⟨o', hs'.extBut b o' (fun q => by rw [q, dC] at e; cases e) e'⟩
end
end Mine
end

section
open PySem PySem.W PyProof.Rows PySem.Calls
namespace Mine

section
variable {c : Cx} {ρ : Vars} {ω ω' ω₁ ω₂ : Owns} {P : Vars → Owns → Prop} {Rt : D → Prop} {x : Str} {a : Addr} {ds : List D}

theorem interactive_no (ok : c.Ok) : interactive c.env = false := by unfold interactive; rw [ok.kind]; rfl

/-- a fresh list of the frame's own -/
theorem Xq.new {es : List Expr} {p1 lp pos : Pos} {rest : List Stmt} (ok : c.Ok) (h : Evs c ρ ω es ds) (hx : c.stores x) (hω : x ∉ ω.map (·.1)) (hρ : ρ.lookup x = none) (hsz : ds.length ≤ 1000)
    (hr : ∀ a, Xq c rest ρ ((x, a, ds) :: ω) P Rt) : Xq c (.Assign [.Name x p1] (.List es lp) pos :: rest) ρ ω P Rt :=
  Xq.cons (P' := fun ρ' ω' => ρ' = ρ ∧ ∃ a, ω' = (x, a, ds) :: ω) (.mk fun Y s F Q E k1 k2 => by
    refine wpAny_Assign_Name (wpAny_List (h.run lp Y s F _ E fun vs s₁ g₁ r₁ => ⟨by rw [r₁.length]; exact Nat.le_trans hsz (by decide), ?_⟩)) rfl
    have F₁ := F.grow g₁
    refine store_own ok F₁ (Grow.push s₁ _) hx hω hρ (dead_at _ (Nat.le_refl _)) (vs := vs.toArray) ⟨0, Heap.get?_push_size _ rfl⟩ ?_ fun s' F' mv => k1 s' _ _ F' ((Mv.of_grow g₁).trans mv) ⟨rfl, _, rfl⟩
    exact Reps.move (s := s₁) (s' := s₁.on (s₁.heap.push _) s₁.toks) (fun _ _ e => e) (fun b o _ e => Heap.get?_push_of_some _ e) (fun b o q e => q.elim id fun q => absurd (Heap.lt_size e) (by rw [q]; exact Nat.lt_irrefl _)) r₁)
  fun ρ' ω' ⟨e1, a, e2⟩ => by subst e1; subst e2; exact hr a

/-- an expression that turns the frame's own lists -/
structure EvX (c : Cx) (ρ : Vars) (ω : Owns) (e : Expr) (d : D) (ω' : Owns) : Prop where
  addr : ω'.map (·.2.1) = ω.map (·.2.1)
  run : ∀ Y s, Fs c Y ρ ω s → ∀ (Q : Value → Shared → Prop) (E : Value → Shared → Prop),
    (∀ v (s' : Gs), Fs c Y ρ ω' s' → Mv c ω ω' s s' → (∀ b o, ¬ Xω Y ω b → s.heap.get? b = some o → s'.heap.get? b = some o) → Rep s' (Xω Y ω) v d → Q v s') → wpAny (model c.prog c.w) c.A (eval e c.env) Q E s
structure EvsX (c : Cx) (ρ : Vars) (ω : Owns) (es : List Expr) (ds : List D) (ω' : Owns) : Prop where
  addr : ω'.map (·.2.1) = ω.map (·.2.1)
  run : ∀ pos Y s, Fs c Y ρ ω s → ∀ (Q : List Value → Shared → Prop) (E : Value → Shared → Prop),
    (∀ vs (s' : Gs), Fs c Y ρ ω' s' → Mv c ω ω' s s' → (∀ b o, ¬ Xω Y ω b → s.heap.get? b = some o → s'.heap.get? b = some o) → Reps s' (Xω Y ω) vs ds → Q vs s') →
    wpAny (model c.prog c.w) c.A (spliced (backTo pos (starEach es c.env))) Q E s
theorem EvX.pure {e : Expr} {d : D} (h : Ev c ρ ω e d) : EvX c ρ ω e d ω := ⟨rfl, fun Y s F Q E k => h.run Y s F Q E fun v s' g r => k v s' (F.grow g) (Mv.of_grow g) (fun b o _ e => g.keep b o e) r⟩
theorem EvsX.nil : EvsX c ρ ω [] [] ω := ⟨rfl, fun pos Y s F Q E k => args_nil (k [] s F (Mv.refl c ω s) (fun _ _ _ e => e) .nil)⟩
theorem xω_addr {Y : Addr → Prop} (h : ω'.map (·.2.1) = ω.map (·.2.1)) (b : Addr) : Xω Y ω' b ↔ Xω Y ω b := by
  have : (∃ q ∈ ω', q.2.1 = b) ↔ ∃ q ∈ ω, q.2.1 = b := by
    rw [← List.mem_map (f := fun q : Str × Addr × List D => q.2.1), ← List.mem_map (f := fun q : Str × Addr × List D => q.2.1), h]
  exact or_congr Iff.rfl this
theorem EvsX.cons {e : Expr} {es : List Expr} {d : D} {ω'' : Owns} (h : EvX c ρ ω e d ω') (hs : EvsX c ρ ω' es ds ω'') (he : starEach (e :: es) c.env = (false, eval e c.env) :: starEach es c.env := by rfl) :
    EvsX c ρ ω (e :: es) (d :: ds) ω'' := ⟨hs.addr.trans h.addr, fun pos Y s F Q E k =>
  args_cons (h.run Y s F _ E fun v s₁ F₁ m₁ k₁ r₁ => hs.run pos Y s₁ F₁ _ E fun vs s₂ F₂ m₂ k₂ r₂ => by
    have kk : ∀ b o, ¬ Xω Y ω b → s₁.heap.get? b = some o → s₂.heap.get? b = some o := fun b o hb e => k₂ b o (fun q => hb ((xω_addr h.addr b).mp q)) e
    exact k (v :: vs) s₂ F₂ (m₁.trans m₂) (fun b o hb e => kk b o hb (k₁ b o hb e)) (.cons (r₁.move m₂.ext kk fun _ _ q _ => q) (r₂.less fun b q => (xω_addr h.addr b).mpr q))) he⟩
theorem EvX.tuple {es : List Expr} {n : Nat} {pos : Pos} (h : EvsX c ρ ω es ds ω') (hsz : ds.length ≤ 1000) : EvX c ρ ω (.Tuple es n pos) (.tup ds) ω' := ⟨h.addr, fun Y s F Q E k =>
  wpAny_Tuple (h.run pos Y s F _ E fun vs s₁ F₁ m₁ k₁ r₁ => ⟨by rw [r₁.length]; exact Nat.le_trans hsz (by decide), k _ _ (F₁.grow (Grow.push s₁ _)) (m₁.trans (Mv.of_grow (Grow.push s₁ _))) (fun b o hb e => Heap.get?_push_of_some _ (k₁ b o hb e))
    (.tup ⟨_, Heap.get?_push_size _ rfl⟩ (newSeq_at fun b q => F₁.xlive b ((xω_addr h.addr b).mpr q)) (by simpa using r₁.grow (Grow.push s₁ _)))⟩)⟩

/-- the frame's list x gets other items -/
theorem Fs.turn (ok : c.Ok) {Y : Addr → Prop} {s : Gs} {h' : Heap} {ds' : List D} {vs' : Array Value} (F : Fs c Y ρ (ω₁ ++ (x, a, ds) :: ω₂) s) (hs : Heap.SameBut a s.heap h') (hp : h'.PlainList a vs')
    (hr : Reps s (Xω Y (ω₁ ++ (x, a, ds) :: ω₂)) vs'.toList ds') : Fs c Y ρ (ω₁ ++ (x, a, ds') :: ω₂) (s.on h' s.toks) ∧ Mv c (ω₁ ++ (x, a, ds) :: ω₂) (ω₁ ++ (x, a, ds') :: ω₂) s (s.on h' s.toks) := by
  have hmem : (x, a, ds) ∈ ω₁ ++ (x, a, ds) :: ω₂ := List.mem_append_right _ (.head _)
  have hX : Xω Y (ω₁ ++ (x, a, ds) :: ω₂) a := .inr ⟨_, hmem, rfl⟩
  have hw : c.Ow (ω₁ ++ (x, a, ds) :: ω₂) a := .inr (.inr ⟨_, hmem, rfl⟩)
  have lv : ∃ o, h'.get? a = some o := let ⟨n, e⟩ := hp; ⟨_, e⟩
  have e1 : (ω₁ ++ (x, a, ds') :: ω₂).map (·.2.1) = (ω₁ ++ (x, a, ds) :: ω₂).map (·.2.1) := by simp
  have e2 : (ω₁ ++ (x, a, ds') :: ω₂).map (·.1) = (ω₁ ++ (x, a, ds) :: ω₂).map (·.1) := by simp
  have hout : ∀ b o, ¬ Xω Y (ω₁ ++ (x, a, ds) :: ω₂) b → s.heap.get? b = some o → h'.get? b = some o := fun b o hb e => hs.extBut b o (fun q => hb (q ▸ hX)) e
  obtain ⟨m, hm⟩ := F.ns
  obtain ⟨H0, _, _, vs0, p0, _⟩ := F.owns _ hmem
  have hL : c.env.locals ≠ a := ns_ne_plain hm p0
  have hC : ∀ y b, c.env.cells.lookup y = some b → b ≠ a := fun y b q => let ⟨v, hc⟩ := F.cell y b q; cell_ne_plain hc p0
  have kH : ∀ {y v}, Has c.env s.heap y v → Has c.env h' y v := fun H => by
    rcases H with ⟨k, m, hm, hv⟩ | ⟨k, b, hb, hc⟩
    · exact .inl ⟨k, m, hm.sameBut hs hL, hv⟩
    · exact .inr ⟨k, b, hb, hc.sameBut hs (hC _ _ hb)⟩
  refine ⟨F.write (tk := s.toks) ok hs hX hw e1 e2 ⟨m, hm.sameBut hs hL⟩ (fun y b q => let ⟨v, hc⟩ := F.cell y b q; ⟨v, hc.sameBut hs (hC y b q)⟩) lv (fun y d e => ?_) (fun q hq => ?_), Mv.write (tk := s.toks) hs hw lv e1⟩
  · obtain ⟨v, H, r⟩ := F.vars y d e
    exact ⟨v, kH H, Rep.move (s := s) (s' := s.on h' s.toks) (fun _ _ e => e) hout (fun _ _ q _ => q) r⟩
  · have old : ∀ q ∈ ω₁ ++ (x, a, ds) :: ω₂, q.2.1 ≠ a → Has c.env h' q.1 (.ref q.2.1) ∧ ∃ vs : Array Value, h'.PlainList q.2.1 vs ∧ Reps (s.on h' s.toks) (Xω Y (ω₁ ++ (x, a, ds) :: ω₂)) vs.toList q.2.2 := fun q hq hne => by
      obtain ⟨H, _, _, vs, p, r⟩ := F.owns q hq
      exact ⟨kH H, vs, plain_keep p fun o e => hs.extBut _ o hne e, Reps.move (s := s) (s' := s.on h' s.toks) (fun _ _ e => e) hout (fun _ _ q _ => q) r⟩
    have nd := F.nodup
    rw [List.map_append, List.map_cons] at nd
    have nd' := List.nodup_append.mp nd
    rcases List.mem_append.mp hq with hq | hq
    · exact old q (List.mem_append_left _ hq) (nd'.2.2 _ (List.mem_map.mpr ⟨q, hq, rfl⟩) _ (.head _))
    · cases hq with
      | head => exact ⟨kH H0, vs', hp, Reps.move (s := s) (s' := s.on h' s.toks) (fun _ _ e => e) hout (fun _ _ q _ => q) hr⟩
      | tail _ hq =>
        refine old q (List.mem_append_right _ (.tail _ hq)) fun e => ?_
        exact (List.nodup_cons.mp nd'.2.1).1 (e ▸ List.mem_map.mpr ⟨q, hq, rfl⟩)

/-- x.append(e) -/
theorem Xs.append {e : Expr} {d : D} {ds' : List D} {p0 apos cpos pos : Pos} (ok : c.Ok) (h : EvX c ρ (ω₁ ++ (x, a, ds) :: ω₂) e d (ω₁ ++ (x, a, ds') :: ω₂)) (hsz : ds'.length ≤ 1000)
    (hd : (x == ("__debug__" : Str)) = false := by decide) (hn : (x == ("__classdict__" : Str)) = false := by decide)
    (he : starEach [e] c.env = [(false, eval e c.env)] := by rfl)
    (hm : eval (.Call (.Attribute (.Name x p0) (Str.ofString "append") apos) [e] [] cpos) c.env = (do
      let ov ← eval (.Name x p0) c.env
      standAt apos.atName
      let (f, first) ← holding [ov] (getMethod ov (Str.ofString "append") (do return (← importBound (.Name x p0) c.env).getD true))
      callWith cpos f first (backTo cpos (starEach [e] c.env)) []) := by rfl) :
    Xs c (.Expr (.Call (.Attribute (.Name x p0) (Str.ofString "append") apos) [e] [] cpos) pos) ρ (ω₁ ++ (x, a, ds) :: ω₂) (fun r o => r = ρ ∧ o = ω₁ ++ (x, a, ds' ++ [d]) :: ω₂) Rt := .mk fun Y s F Q E k1 k2 => by
  have hmem : (x, a, ds) ∈ ω₁ ++ (x, a, ds) :: ω₂ := List.mem_append_right _ (.head _)
  obtain ⟨H, _, _, vs0, ⟨n0, e0⟩, _⟩ := F.owns _ hmem
  refine wpAny_Expr (MethodCall_ (pl := do return (← importBound (.Name x p0) c.env).getD true) ?_ hm) (interactive_no ok) rfl
  have go : ∀ {Q : Value → Shared → Prop} {E : Value → Shared → Prop}, Q (.ref a) s → wpAny (model c.prog c.w) c.A (eval (.Name x p0) c.env) Q E s := fun {Q E} q => by
    rcases H with ⟨hk, m, hm, hv⟩ | ⟨hk, b, hl, hc⟩
    · exact wpAny_Name (wpAny_loadName_local ok.kind hk hm hv q) hd
    · rcases hk with hk | hk
      · exact wpAny_Name (wpAny_loadName_cell ok.kind hk hl hc q) hd
      · exact wpAny_Name (wpAny_loadName_free ok.kind hk hl hc q hn) hd
  refine go (getMethod_list_append e0 rfl rfl (callWith_method1 (args_cons (h.run Y s F _ E fun v s₁ F₁ m₁ k₁ r₁ => args_nil ?_) he) he rfl))
  have hmem' : (x, a, ds') ∈ ω₁ ++ (x, a, ds') :: ω₂ := List.mem_append_right _ (.head _)
  obtain ⟨_, _, _, vs, p, r⟩ := F₁.owns _ hmem'
  have hlen : vs.size = ds'.length := by have := r.length; simpa using this
  refine wpAny_list_append_plain p (fun h' p' hs' => ?_) (by rw [hlen]; exact Nat.le_trans hsz (by decide))
  obtain ⟨F', mv⟩ := F₁.turn ok hs' p' (ds' := ds' ++ [d]) (by
    rw [Array.toList_push]
    exact r.append (.cons (r₁.less fun b q => (xω_addr h.addr b).mp q) .nil))
  exact k1 _ _ _ F' (m₁.trans mv) ⟨rfl, rfl⟩

theorem own_name {p0 : Pos} (ok : c.Ok) {Y : Addr → Prop} {s : Gs} {v : Value} (H : Has c.env s.heap x v) (hd : (x == ("__debug__" : Str)) = false) (hn : (x == ("__classdict__" : Str)) = false) {Q : Value → Shared → Prop} {E : Value → Shared → Prop} (q : Q v s) :
    wpAny (model c.prog c.w) c.A (eval (.Name x p0) c.env) Q E s := by
  rcases H with ⟨hk, m, hm, hv⟩ | ⟨hk, b, hl, hc⟩
  · exact wpAny_Name (wpAny_loadName_local ok.kind hk hm hv q) hd
  · rcases hk with hk | hk
    · exact wpAny_Name (wpAny_loadName_cell ok.kind hk hl hc q) hd
    · exact wpAny_Name (wpAny_loadName_free ok.kind hk hl hc q hn) hd

/-- x.pop() -/
theorem EvX.pop {d : D} {p0 apos cpos : Pos} (ok : c.Ok) (hsz : ds.length ≤ 1000)
    (hd : (x == ("__debug__" : Str)) = false := by decide) (hn : (x == ("__classdict__" : Str)) = false := by decide)
    (hm : eval (.Call (.Attribute (.Name x p0) (Str.ofString "pop") apos) [] [] cpos) c.env = (do
      let ov ← eval (.Name x p0) c.env
      standAt apos.atName
      let (f, first) ← holding [ov] (getMethod ov (Str.ofString "pop") (do return (← importBound (.Name x p0) c.env).getD true))
      callWith cpos f first (backTo cpos (starEach [] c.env)) []) := by rfl) :
    EvX c ρ (ω₁ ++ (x, a, ds ++ [d]) :: ω₂) (.Call (.Attribute (.Name x p0) (Str.ofString "pop") apos) [] [] cpos) d (ω₁ ++ (x, a, ds) :: ω₂) := ⟨by simp, fun Y s F Q E k => by
  have hmem : (x, a, ds ++ [d]) ∈ ω₁ ++ (x, a, ds ++ [d]) :: ω₂ := List.mem_append_right _ (.head _)
  obtain ⟨H, _, _, vs, ⟨n0, e0⟩, r⟩ := F.owns _ hmem
  have hlen : vs.size = ds.length + 1 := by have := r.length; simpa using this
  refine MethodCall_ (pl := do return (← importBound (.Name x p0) c.env).getD true) (own_name (Y := Y) ok H hd hn ?_) hm
  refine getMethod_list_of PySem.F.slot_list_pop PySem.F.type_list_pop (items := vs) ⟨_, e0, rfl, _, rfl⟩ ?_ ?_
  · exact ⟨_, e0, rfl⟩
  have hlast : (ds ++ [d])[vs.size - 1]? = some d := by rw [hlen]; simp
  obtain ⟨v, hv, rv⟩ := r.get hlast
  show wpAny _ _ (callWith cpos (.builtin "list.pop") [.ref a] [] []) _ _ _
  refine PySem.P.pop_list (items := vs) (n := n0) e0 (y := v) (by simpa using hv) ?_ (by rw [hlen]; exact Nat.le_trans (Nat.succ_le_succ hsz) (by decide))
  have up := PySem.IsL.update e0 (fun xs => xs.eraseIdxIfInBounds (vs.size - 1))
  have hs' : Heap.SameBut a s.heap (s.heap.update a (Obj.mapSeq fun xs => xs.eraseIdxIfInBounds (vs.size - 1))) := Heap.SameBut.update ..
  have htl : (vs.eraseIdxIfInBounds (vs.size - 1)).toList = vs.toList.take ds.length := by
    have hl2 : vs.size - 1 = ds.length := by omega
    rw [hl2]
    have h3 : ds.length < vs.size := by omega
    rw [Array.eraseIdxIfInBounds, dif_pos h3, Array.toList_eraseIdx, List.eraseIdx_eq_take_drop_succ, List.drop_of_length_le (by rw [Array.length_toList]; omega), List.append_nil]
  obtain ⟨F', mv⟩ := F.turn ok hs' (ds' := ds) ⟨_, up⟩ (by
    rw [htl]
    have := r.take ds.length
    rw [List.take_left'] at this
    · exact this
    · rfl)
  have hX : Xω Y (ω₁ ++ (x, a, ds ++ [d]) :: ω₂) a := .inr ⟨_, hmem, rfl⟩
  have hout : ∀ b o, ¬ Xω Y (ω₁ ++ (x, a, ds ++ [d]) :: ω₂) b → s.heap.get? b = some o → (s.heap.update a (Obj.mapSeq fun xs => xs.eraseIdxIfInBounds (vs.size - 1))).get? b = some o := fun b o hb e => hs'.extBut b o (fun q => hb (q ▸ hX)) e
  exact k v _ F' mv hout (Rep.move (s := s) (s' := s.on (s.heap.update a (Obj.mapSeq fun xs => xs.eraseIdxIfInBounds (vs.size - 1))) s.toks) (fun _ _ e => e) hout (fun _ _ q _ => q) rv)⟩

theorem Xs.assignX {e : Expr} {d : D} {y : Str} {p1 pos : Pos} (ok : c.Ok) (h : EvX c ρ ω e d ω') (hx : c.stores y) (hω : y ∉ ω'.map (·.1)) (hs : swapsWith e (some (.Name y p1)) pos.line c.env = pure false) :
    Xs c (.Assign [.Name y p1] e pos) ρ ω (fun a b => a = (y, d) :: ρ ∧ b = ω') Rt := .mk fun Y s F Q E k1 k2 =>
  wpAny_Assign_Name (h.run Y s F _ E fun v s₁ F₁ m₁ k₁ r₁ => store_dat ok F₁ hx hω (r₁.less fun b q => (xω_addr h.addr b).mp q) fun s' F' mv _ => k1 s' _ _ F' (m₁.trans mv) ⟨rfl, rfl⟩) hs

/-- an item of the frame's own list -/
theorem Ev.item_own {slice : Expr} {p0 pos : Pos} {i : Int} {d di : D} [hdi : IntD di i] (ok : c.Ok) (hω : (x, a, ds) ∈ ω) (hi : Ev c ρ ω slice di) (h0 : 0 ≤ i) (hx : ds[i.toNat]? = some d) (hf : i < 2 ^ 63)
    (hd : (x == ("__debug__" : Str)) = false := by decide) (hn : (x == ("__classdict__" : Str)) = false := by decide)
    (hs : ∀ l u, subscripted slice false (.ref l) (.int i u) = operate [.ref l, .int i u] (getItem (.ref l) (.int i u)) := by intro _ _; rfl) : Ev c ρ ω (.Subscript (.Name x p0) slice pos) d := .mk fun Y s F Q E k => by
  obtain ⟨H, _, _, vs, p, r⟩ := F.owns _ hω
  refine Subscript_ (own_name (Y := Y) ok H hd hn (hi.run Y s F _ E fun u s₂ g₂ r₂ => ?_))
  obtain ⟨_, rfl⟩ := hdi.val r₂
  obtain ⟨v, hv, rv⟩ := r.get hx
  have p' := plain_keep p (g₂.keep _)
  with_reducible exact tail_any p'.isList.typeIs PySem.slot_list_getitem.lookup (wpAny_getItem_list p'.isList h0 hf (by simpa using hv) (k _ _ g₂ (rv.grow g₂))) (hs _ _)

/-- data without objects -/
noncomputable def D.flat : D → Bool
  | .none | .bool _ | .int _ | .sol _ | .str _ | .bytes _ => true
  | _ => false
theorem Rep.flat {h : Gs} {X X' : Addr → Prop} {v : Value} {d : D} (r : Rep h X v d) (hf : d.flat = true) : Rep h X' v d := by
  cases r with
  | none => exact .none
  | bool b => exact .bool b
  | int i t => exact .int i t
  | sol i t h => exact .sol i t h
  | str x t => exact .str x t
  | bytes x t => exact .bytes x t
  | tup => cases hf
  | lst => cases hf
  | mat => cases hf
  | dic => cases hf

/-- the frame's own list lent for the time of an expression -/
theorem Ev.borrow {e : Expr} {d : D} (h : Ev c ((x, .lst ds) :: ρ) ω e d) (hf : d.flat = true) : Ev c ρ ((x, a, ds) :: ω) e d := .mk fun Y s F Q E k =>
  h.run Y s F.freeze Q E fun v s' g r => k v s' g (r.flat hf)
theorem Tr.borrow {e : Expr} {b : Bool} (h : Tr c ((x, .lst ds) :: ρ) ω e b) : Tr c ρ ((x, a, ds) :: ω) e b := .mk fun Y s F Q E k =>
  h.run Y s F.freeze Q E k
theorem Fs.swap {Y : Addr → Prop} {s : Gs} {p q : Str × Addr × List D} (F : Fs c Y ρ (p :: q :: ω) s) : Fs c Y ρ (q :: p :: ω) s := by
  have hm : ∀ z, z ∈ q :: p :: ω ↔ z ∈ p :: q :: ω := fun z => by simp only [List.mem_cons]; exact or_left_comm
  have hX : ∀ b, Xω Y (q :: p :: ω) b → Xω Y (p :: q :: ω) b := fun b z => z.imp id fun ⟨y, hy, e⟩ => ⟨y, (hm y).mp hy, e⟩
  refine ⟨F.same, F.pos, F.sane, F.ext, F.mono, F.keep, F.x₀, F.yl, F.yc, F.ylive, F.ns, F.cell, fun y d e => ?_, fun z hz => ?_, ?_, ?_⟩
  · obtain ⟨v, H, r⟩ := F.vars y d e; exact ⟨v, H, r.less hX⟩
  · obtain ⟨H, f, y, vs, p, r⟩ := F.owns z ((hm z).mp hz); exact ⟨H, f, y, vs, p, r.less hX⟩
  · have := F.nodup; simp only [List.map_cons, List.nodup_cons, List.mem_cons, not_or] at this ⊢
    exact ⟨⟨Ne.symm this.1.1, this.2.1⟩, this.1.2, this.2.2⟩
  · have := F.names; simp only [List.map_cons, List.nodup_cons, List.mem_cons, not_or] at this ⊢
    exact ⟨⟨Ne.symm this.1.1, this.2.1⟩, this.1.2, this.2.2⟩
theorem Ev.borrow2 {e : Expr} {d : D} {p : Str × Addr × List D} (h : Ev c ((x, .lst ds) :: ρ) (p :: ω) e d) (hf : d.flat = true) : Ev c ρ (p :: (x, a, ds) :: ω) e d := .mk fun Y s F Q E k =>
  h.run Y s F.swap.freeze Q E fun v s' g r => k v s' g (r.flat hf)
theorem Tr.borrow2 {e : Expr} {b : Bool} {p : Str × Addr × List D} (h : Tr c ((x, .lst ds) :: ρ) (p :: ω) e b) : Tr c ρ (p :: (x, a, ds) :: ω) e b := .mk fun Y s F Q E k =>
  h.run Y s F.swap.freeze Q E k
theorem Mv.less {p : Str × Addr × List D} {s s' : Gs} (h : Mv c ω ω' s s') : Mv c (p :: ω) ω' s s' :=
  ⟨fun b o hb e => h.keep b o (fun q => hb (q.imp id fun q => q.imp id fun ⟨z, hz, e⟩ => ⟨z, .tail _ hz, e⟩)) e, h.lv, fun q hq => (h.fresh q hq).imp (fun ⟨z, hz, e⟩ => ⟨z, .tail _ hz, e⟩) id, h.ext, h.toks⟩
theorem Mv.swap {p q : Str × Addr × List D} {s s' : Gs} (h : Mv c (p :: q :: ω) ω' s s') : Mv c (q :: p :: ω) ω' s s' := by
  have hm : ∀ z, z ∈ q :: p :: ω ↔ z ∈ p :: q :: ω := fun z => by simp only [List.mem_cons]; exact or_left_comm
  exact ⟨fun b o hb e => h.keep b o (fun z => hb (z.imp id fun z => z.imp id fun ⟨y, hy, e⟩ => ⟨y, (hm y).mpr hy, e⟩)) e, h.lv, fun z hz => (h.fresh z hz).imp (fun ⟨y, hy, e⟩ => ⟨y, (hm y).mpr hy, e⟩) id, h.ext, h.toks⟩
/-- from here on the list is plain data -/
theorem Xq.freeze {sts : List Stmt} (h : Xq c sts ((x, .lst ds) :: ρ) ω P Rt) : Xq c sts ρ ((x, a, ds) :: ω) P Rt := .mk fun Y s F Q E k1 k2 =>
  h.run Y s F.freeze Q E (fun s' r o F' mv p => k1 s' r o F' mv.less p) k2
theorem Xq.swap {sts : List Stmt} {p q : Str × Addr × List D} (h : Xq c sts ρ (q :: p :: ω) P Rt) : Xq c sts ρ (p :: q :: ω) P Rt := .mk fun Y s F Q E k1 k2 =>
  h.run Y s F.swap Q E (fun s' r o F' mv p => k1 s' r o F' mv.swap p) k2
end
end Mine
end

section
open PySem PySem.W PyProof.Rows PySem.Calls PySem.SeqAt
namespace Mine

/-! ## Equality -/
mutual
noncomputable def D.py : D → PyData
  | .none => .none
  | .bool b => .bool b
  | .int i => .int i
  | .sol i => .int i
  | .str s => .str s
  | .bytes _ => .none
  | .mat .. => .none
  | .dic .. => .none
  | .tup l => .tuple (D.pys l)
  | .lst l => .list (D.pys l)
noncomputable def D.pys : List D → List PyData
  | [] => []
  | d :: ds => d.py :: D.pys ds
end
/-- numbers, and tuples and lists of such -/
inductive Num : D → Nat → Prop
  | bool (b : Bool) (n : Nat) : Num (.bool b) n
  | int (i : Int) (n : Nat) : Num (.int i) n
  | sol (i : Int) (n : Nat) : Num (.sol i) n
  | tup {l : List D} {n : Nat} : (∀ d ∈ l, Num d n) → Num (.tup l) (n + 1)
  | lst {l : List D} {n : Nat} : (∀ d ∈ l, Num d n) → Num (.lst l) (n + 1)
theorem Num.more {d : D} {n m : Nat} (h : Num d n) (hm : n ≤ m) : Num d m := by
  induction h generalizing m with
  | bool => exact .bool _ _
  | int => exact .int _ _
  | sol => exact .sol _ _
  | tup _ ih => cases m with
    | zero => exact absurd hm (Nat.not_succ_le_zero _)
    | succ m => exact .tup fun d hd => ih d hd (Nat.le_of_succ_le_succ hm)
  | lst _ ih => cases m with
    | zero => exact absurd hm (Nat.not_succ_le_zero _)
    | succ m => exact .lst fun d hd => ih d hd (Nat.le_of_succ_le_succ hm)
theorem D.pys_map : ∀ l : List D, D.pys l = l.map D.py
  | [] => rfl
  | d :: l => by rw [D.pys, D.pys_map l]; rfl
theorem canAll_iff : ∀ l : List PyData, PyData.canLayAll0 l = true ↔ ∀ d ∈ l, d.canLay0 = true
  | [] => by simp [PyData.canLayAll0]
  | d :: l => by simp [PyData.canLayAll0, canAll_iff l]
theorem depthAll_le {n : Nat} : ∀ l : List PyData, (∀ d ∈ l, d.depth ≤ n) → PyData.depthAll l ≤ n
  | [], _ => Nat.zero_le _
  | d :: l, h => by
    rw [PyData.depthAll]
    exact Nat.max_le.mpr ⟨h d (.head _), depthAll_le l fun e he => h e (.tail _ he)⟩
theorem Num.can {d : D} {n : Nat} (h : Num d n) : d.py.canLay0 = true := by
  induction h with
  | bool => rfl
  | int => rfl
  | sol => rfl
  | tup _ ih => rw [D.py, PyData.canLay0, canAll_iff, D.pys_map]; intro d hd; obtain ⟨e, he, rfl⟩ := List.mem_map.mp hd; exact ih e he
  | lst _ ih => rw [D.py, PyData.canLay0, canAll_iff, D.pys_map]; intro d hd; obtain ⟨e, he, rfl⟩ := List.mem_map.mp hd; exact ih e he
theorem Num.depth {d : D} {n : Nat} (h : Num d n) : d.py.depth ≤ n := by
  induction h with
  | bool => exact Nat.zero_le _
  | int => exact Nat.zero_le _
  | sol => exact Nat.zero_le _
  | tup _ ih => rw [D.py, PyData.depth]; refine Nat.succ_le_succ (depthAll_le _ ?_); rw [D.pys_map]; intro d hd; obtain ⟨e, he, rfl⟩ := List.mem_map.mp hd; exact ih e he
  | lst _ ih => rw [D.py, PyData.depth]; refine Nat.succ_le_succ (depthAll_le _ ?_); rw [D.pys_map]; intro d hd; obtain ⟨e, he, rfl⟩ := List.mem_map.mp hd; exact ih e he
theorem reads_all {s : Gs} {X : Addr → Prop} : ∀ (ds : List D) (vs : List Value), Reps s X vs ds → (∀ e ∈ ds, ∀ v, Rep s X v e → ∃ as, Reads s.heap v e.py as) → ∃ as, ReadsAll s.heap vs (D.pys ds) as := by
  intro ds
  induction ds with
  | nil => intro vs r _; cases r; exact ⟨_, .nil⟩
  | cons d ds ih =>
    intro vs r h
    cases r with
    | cons a b =>
      obtain ⟨as, r⟩ := h d (.head _) _ a
      obtain ⟨bs, r'⟩ := ih _ b fun e he => h e (.tail _ he)
      exact ⟨_, .cons r r'⟩
theorem Rep.reads {s : Gs} {X : Addr → Prop} {v : Value} {d : D} (r : Rep s X v d) {n : Nat} (h : Num d n) : ∃ as, Reads s.heap v d.py as := by
  induction h generalizing v with
  | bool b => cases r; exact ⟨_, .bool _⟩
  | int i => cases r; exact ⟨_, .int _ _⟩
  | sol i => cases r; exact ⟨_, .int _ _⟩
  | tup _ ih =>
    cases r with
    | tup p _ rs =>
      obtain ⟨n, e⟩ := p
      obtain ⟨as, q⟩ := reads_all _ _ rs fun e he v r => ih e he r
      exact ⟨_, .tuple e rfl rfl q⟩
  | lst _ ih =>
    cases r with
    | lst p _ rs =>
      obtain ⟨n, e⟩ := p
      obtain ⟨as, q⟩ := reads_all _ _ rs fun e he v r => ih e he r
      exact ⟨_, .list e rfl rfl q⟩

section
variable {c : Cx} {ρ : Vars} {ω : Owns} {d e : D} {n m : Nat}
noncomputable def D.eqv (d e : D) : Bool := PyData.eqv d.py e.py

theorem Op2.eqD (ok : c.Ok) (hd : Num d n) (he : Num e m) (hn : n ≤ 1000) : Op2 c (compareOp .Eq) d e (.bool (d.eqv e)) := .mk fun X s v u hX rv ru Q E k => by
  obtain ⟨as, r1⟩ := rv.reads hd
  obtain ⟨bs, r2⟩ := ru.reads he
  exact compareEq_reads r1 r2 hd.can he.can (by have := ok.room.units; have := hd.depth; omega) (k _ s (Grow.refl s) (.bool _))
theorem Op2.neD (ok : c.Ok) (hd : Num d n) (he : Num e m) (hn : n ≤ 1000) : Op2 c (compareOp .NotEq) d e (.bool (!d.eqv e)) := .mk fun X s v u hX rv ru Q E k => by
  obtain ⟨as, r1⟩ := rv.reads hd
  obtain ⟨bs, r2⟩ := ru.reads he
  exact compareNe_reads r1 r2 hd.can he.can (by have := ok.room.units; have := hd.depth; omega) (k _ s (Grow.refl s) (.bool _))
theorem Op2.isin {xs : List D} (ok : c.Ok) (hd : Num d n) (he : Num (.lst xs) m) (hn : n ≤ 1000) : Op2 c (compareOp .In) d (.lst xs) (.bool (xs.any fun y => y.eqv d)) := .mk fun X s v u hX rv ru Q E k => by
  obtain ⟨as, r1⟩ := rv.reads hd
  obtain ⟨bs, r2⟩ := ru.reads he
  have hc := he.can
  rw [D.py, PyData.canLay0] at hc
  have := in_list_reads (prog := c.prog) (w := c.w) (A := c.A) (E := E) (Q := Q) r2 r1 hc hd.can (by have := ok.room.units; have := hd.depth; omega)
  rw [D.pys_map, List.any_map] at this
  exact this (k _ s (Grow.refl s) (.bool _))
end

/-! ## Identity -/
/-- trees of numbers whose tokens are told -/
inductive Sol : D → Prop
  | sol (i : Int) : Sol (.sol i)
  | tup {d : D} {l : List D} : (∀ e ∈ d :: l, Sol e) → Sol (.tup (d :: l))
theorem Reps.inj {s : Gs} {X : Addr → Prop} : ∀ {d : List D} {v : List Value} {e : List D}, (∀ x ∈ d, ∀ (v : Value) (y : D), Rep s X v x → Rep s X v y → Sol y → x = y) → Reps s X v d → Reps s X v e → (∀ x ∈ e, Sol x) → d = e
  | _, _, _, _, .nil, r, _ => by cases r; rfl
  | _, _, _, ih, .cons a b, r, h => by
    cases r with
    | cons a' b' => rw [ih _ (.head _) _ _ a a' (h _ (.head _)), Reps.inj (fun x hx => ih x (.tail _ hx)) b b' fun x hx => h x (.tail _ hx)]
theorem Rep.inj {s : Gs} {X : Addr → Prop} {d : D} (h : Sol d) : ∀ (v : Value) (e : D), Rep s X v d → Rep s X v e → Sol e → d = e := by
  induction h with
  | sol i =>
    intro v e r r' h'
    cases r with
    | sol _ t h => cases r' with
      | sol j _ h2 => rfl
      | int => cases h'
  | tup hd ih =>
    intro v e r r' h'
    cases r with
    | tup p _ rs => cases r' with
      | tup p' _ rs' => cases h' with
        | tup he =>
          obtain ⟨n, q⟩ := p
          obtain ⟨n', q'⟩ := p'
          rw [q] at q'; cases q'
          rw [Reps.inj ih rs rs' he]
      | lst => cases h'
      | mat => cases h'
      | dic => cases h'

section
variable {prog : Program} {w : World} {s : Gs} {X : Addr → Prop}

/-- what identity may say -/
noncomputable def SameSays (prog : Program) (w : World) (s : Gs) (v u : Value) (p : Prop) : Prop :=
  ∀ (A : Around) (Q : Bool → Shared → Prop) (E : Value → Shared → Prop), (∀ b, (b = true → p) → Q b s.sh) → wpAny (model prog w) A (isSame v u) Q E s.sh

theorem entry_proto_is : entryFor table "proto.is" = some Builtin.«proto.is» := entryFor_of_fast (by kernel_rfl)
theorem same_run {v u : Value} {p : Prop} (h : SameSays prog w s v u p) {A : Around} {Q : Value → Shared → Prop} {E : Value → Shared → Prop} (k : ∀ b, (b = true → p) → Q (.bool b) s.sh) :
    wpAny (model prog w) A (runValue (.builtin "proto.is" ⟨[v, u], []⟩)) Q E s.sh := by
  refine runValue_entry (b := Builtin.«proto.is») entry_proto_is ?_
  show wpAny _ _ (isSame v u >>= fun x => ret (.bool x)) _ _ _
  exact wpAny_bind (h _ _ _ fun b hb => wpAny_pure ⟨_, rfl, k b hb⟩)

theorem created_says {b : Bool} {t u : Tok} (hb : NoneBooked s.heap) (ht : t ≠ 0) (hu : u ≠ 0) {p : Prop} (h1 : t = u → p) (h2 : b = true → p) {A : Around} {Q : Bool → Shared → Prop} {E : Value → Shared → Prop}
    (k : ∀ b, (b = true → p) → Q b s.sh) : wpAny (model prog w) A (isSame.created b t u) Q E s.sh := by
  unfold isSame.created
  have e0 : (t == 0 || u == 0) = false := by simp [ht, hu]
  refine wpAny_ite ?_
  rw [if_neg (by rw [e0]; exact Bool.false_ne_true)]
  refine wpAny_ite ?_
  split
  · rename_i h; exact wpAny_pure (k true fun _ => h1 (beq_iff_eq.mp h))
  refine wpAny_ite ?_
  split
  · exact wpAny_pure (k false fun q => by cases q)
  · rename_i h
    have hbt : b = true := by cases b with
      | true => rfl
      | false => exact absurd rfl h
    refine wpAny_bind (wpAny_sharingNotTold_none hb ?_)
    rw [if_neg Bool.false_ne_true]
    refine wpAny_bind (wpAny_sharingNotTold_none hb ?_)
    rw [if_neg Bool.false_ne_true]
    exact wpAny_bind (wpAny_rule (wpAny_bind (wpAny_askSetting (wpAny_pure (k _ fun _ => h2 hbt)))))


theorem joined_any {ps : Params} {v u : Value} {A : Around} {Q : Bool → Shared → Prop} {E : Value → Shared → Prop} {d e : D} (rv : Rep s X v d) (ru : Rep s X u e) (k : ∀ b, Q b s.sh) : wpAny (model prog w) A (emptiesJoinedAsOfOld ps v u) Q E s.sh := by
  unfold emptiesJoinedAsOfOld
  split
  · refine wpAny_ite ?_
    split
    · exact wpAny_pure (k _)
    · have hx : ∀ {a : Addr} {d : D}, Rep s X (.ref a) d → ∃ o, s.heap.get? a = some o := fun r => by
        cases r with
        | tup p => obtain ⟨n, q⟩ := p; exact ⟨_, q⟩
        | lst p => obtain ⟨n, q⟩ := p; exact ⟨_, q⟩
        | mat e => exact ⟨_, e⟩
        | dic e => exact ⟨_, e⟩
      obtain ⟨o1, h1⟩ := hx rv
      obtain ⟨o2, h2⟩ := hx ru
      refine wpAny_bind (wpAny_load h1 (wpAny_bind (wpAny_load h2 ?_)))
      split <;> exact wpAny_pure (k _)
  · exact wpAny_pure (k _)

theorem loop_says {xs ys : List D} : ∀ {vs us : List Value}, (∀ d ∈ xs, ∀ (v u : Value) (e : D), Rep s X v d → Rep s X u e → Sol e → SameSays prog w s v u (d = e)) → Reps s X vs xs → Reps s X us ys → (∀ e ∈ ys, Sol e) → xs.length = ys.length →
    ∀ {A : Around} {Q : Bool → Shared → Prop} {E : Value → Shared → Prop}, (∀ b, (b = true → xs = ys) → Q b s.sh) →
    wpAny (model prog w) A (do
      for (p, q) in vs.zip us do
        match ← runValue (.builtin "proto.is" ⟨[p, q], []⟩) with
        | .bool true =>
          let w := (← ask).params
          if !(joinedAsOfOld w p q) then return false
          if !(← emptiesJoinedAsOfOld w p q) then return false
        | _ => return false
      return true) Q E s.sh := by
  induction xs generalizing ys with
  | nil =>
    intro vs us _ rv ru _ hl A Q E k
    cases rv
    cases ys with
    | nil => cases ru; exact wpAny_pure (k true fun _ => rfl)
    | cons => cases hl
  | cons x xs ih =>
    intro vs us h rv ru hs hl A Q E k
    cases ys with
    | nil => cases hl
    | cons y ys =>
      cases rv with
      | cons a b => cases ru with
        | cons a' b' =>
          have step := h x (.head _) _ _ _ a a' (hs _ (.head _))
          have rest := ih (fun d hd => h d (.tail _ hd)) b b' (fun e he => hs e (.tail _ he)) (Nat.succ.inj hl) (A := A) (E := E) (Q := Q)
          simp only [List.zip_cons_cons, List.forIn_cons, bind_assoc]
          refine wpAny_bind (same_run step fun t ht => ?_)
          cases t with
          | false => simp only [pure_bind]; exact wpAny_pure (k false fun q => by cases q)
          | true =>
            have hxy := ht rfl
            subst hxy
            simp only [bind_assoc]
            refine wpAny_bind (wpAny_askSetting ?_)
            have rest' := rest fun b hb => k b fun q => by rw [hb q]
            refine wpAny_bind (wpAny_ite ?_)
            split
            · refine wpAny_pure ?_
              simp only [pure_bind]
              exact wpAny_pure (k false fun q => by cases q)
            · refine wpAny_bind (joined_any a a' fun b => wpAny_ite ?_)
              split
              · refine wpAny_pure ?_
                simp only [pure_bind]
                exact wpAny_pure (k false fun q => by cases q)
              · exact wpAny_pure rest'

theorem isSame_says (hX : Good s X) (hb : NoneBooked s.heap) {d : D} (h : Sol d) : ∀ (v u : Value) (e : D), Rep s X v d → Rep s X u e → Sol e → SameSays prog w s v u (d = e) := by
  induction h with
  | sol i =>
    intro v u e rv ru he A Q E k
    cases rv with
    | sol _ t ht => cases he with
      | sol j => cases ru with
        | sol _ t' ht' =>
          have n1 := (hX.sane _ _ ht).1
          have n2 := (hX.sane _ _ ht').1
          show wpAny _ _ (if (i == j && smallInt i) = true then isSame.cachedInt t t' else isSame.created (i == j) t t') _ _ _
          refine wpAny_ite ?_
          split
          · rename_i hq
            have hij : i = j := by simp at hq; exact hq.1
            show wpAny _ _ (if (t == 0 || t' == 0) = true then _ else _) _ _ _
            rw [if_neg (by simp [n1, n2])]
            exact wpAny_bind (wpAny_rule (wpAny_pure (k true fun _ => by rw [hij])))
          · exact created_says hb n1 n2 (fun q => by rw [q, ht'] at ht; cases ht; rfl) (fun q => by rw [beq_iff_eq.mp q]) k
      | tup => cases ru with
        | tup => exact wpAny_of_eq (show isSame _ _ = pure false from rfl) (k false fun q => by cases q)
  | @tup d0 l0 hd ih =>
    intro v u e rv ru he A Q E k
    cases rv with
    | @tup a vs _ p nx rs => cases he with
      | sol j => cases ru with
        | sol _ t' ht' => exact wpAny_of_eq (show isSame _ _ = pure false from rfl) (k false fun q => by cases q)
      | @tup e0 l1 he => cases ru with
        | @tup b us _ q ny rt =>
          obtain ⟨n1, q1⟩ := p
          obtain ⟨n2, q2⟩ := q
          show wpAny _ _ (if (a == b) = true then pure true else _) _ _ _
          refine wpAny_ite ?_
          split
          · rename_i hab
            refine wpAny_pure (k true fun _ => ?_)
            have hab := beq_iff_eq.mp hab
            subst hab
            exact Rep.inj (.tup hd) _ _ (.tup ⟨n1, q1⟩ nx rs) (.tup ⟨n2, q2⟩ ny rt) (.tup he)
          · refine wpAny_bind (wpAny_load q1 (wpAny_bind (wpAny_load q2 ?_)))
            have hv : vs.isEmpty = false := by
              have := rs.length; rw [Array.length_toList] at this
              simp [Array.isEmpty, this]
            show wpAny _ _ (if (vs.isEmpty && us.isEmpty) = true then isSame.theEmptyTuple else sameTuple a b vs us) _ _ _
            rw [if_neg (by rw [hv]; exact Bool.false_ne_true)]
            unfold sameTuple
            refine wpAny_bind (wpAny_askSetting (wpAny_ite ?_))
            split
            · exact wpAny_pure (k false fun q => by cases q)
            refine wpAny_ite ?_
            split
            · exact wpAny_pure (k false fun q => by cases q)
            refine wpAny_bind (wpAny_holding ?_)
            have fin : ∀ bb : Bool, (bb = true → D.tup (d0 :: l0) = D.tup (e0 :: l1)) → wpAny (model prog w) A (if bb = true then (do rule "is.world.tuple-shared"; pure true) else pure false) Q E s.sh := fun bb hbb => by
              refine wpAny_ite ?_
              split
              · rename_i h; exact wpAny_bind (wpAny_rule (wpAny_pure (k true fun _ => hbb h)))
              · exact wpAny_pure (k false fun q => by cases q)
            unfold sameItems
            refine wpAny_ite ?_
            split
            · exact wpAny_pure (fin false fun q => by cases q)
            · rename_i hne
              have hl : (d0 :: l0).length = (e0 :: l1).length := by
                rw [← rs.length, ← rt.length, Array.length_toList, Array.length_toList]
                simpa using hne
              exact loop_says ih rs rt he hl fun bb hbb => fin bb fun q => by rw [hbb q]

end

section
variable {c : Cx} {ρ : Vars} {ω : Owns}
/-- x is y or .. -/
theorem Tr.isOr {l r x : Expr} {p1 pos : Pos} {a b : D} {t : Bool} (ok : c.Ok) (hl : Ev c ρ ω l a) (hr : Ev c ρ ω r b) (ha : Sol a) (hb : Sol b) (h2 : Tr c ρ ω x t) (heq : a = b → t = true) (hm : behindInMarks .Is r = false := by with_unfolding_all rfl) :
    Tr c ρ ω (.BoolOp .Or [.Compare l [.Is] [r] p1, x] pos) t := .mk fun Y s F Q E k => by
  refine wpAny_isTrue_BoolOp (wpAny_allTrue_Or_cons ?_)
  refine wpAny_isTrue_Compare1 (hl.run Y s F _ E fun v s₁ g₁ r₁ => hr.run Y s₁ (F.grow g₁) _ E fun u s₂ g₂ r₂ => ?_) hm
  have F₂ := (F.grow g₁).grow g₂
  show wpAny _ _ (isSame v u >>= fun x => pure (Value.bool x)) _ _ _
  refine wpAny_bind (isSame_says F₂.good (F₂.wd ok).nb ha v u b (r₁.grow g₂) r₂ hb c.A _ _ fun bb hbb => wpAny_pure (wpAny_truthy_bool ?_))
  cases bb with
  | true => rw [heq (hbb rfl)] at k; exact k s₂ (g₁.trans g₂)
  | false => exact wpAny_allTrue_Or_cons (h2.run Y s₂ F₂ _ E fun s₃ g₃ => by
      have k' := k s₃ ((g₁.trans g₂).trans g₃)
      cases t with
      | true => exact k'
      | false => exact wpAny_allTrue_Or_nil k')
end
end Mine
end

section
open PySem PySem.W PyProof.Rows PySem.Calls PySem.SeqAt
namespace Mine

theorem Reps.set {s : Gs} {X : Addr → Prop} {v : Value} {d : D} : ∀ (i : Nat) {vs : List Value} {ds : List D}, Reps s X vs ds → Rep s X v d → Reps s X (vs.set i v) (ds.set i d)
  | _, _, _, .nil, _ => by simp only [List.set_nil]; exact .nil
  | 0, _, _, .cons _ b, r => .cons r b
  | i + 1, _, _, .cons a b, r => .cons a (b.set i r)

section
variable {c : Cx} {ρ : Vars} {ω ω₁ ω₂ : Owns} {P : Vars → Owns → Prop} {Rt : D → Prop} {ds : List D}

/-! ## Built-in functions -/
theorem Ev.len_lst {x : Str} {p1 pos : Pos} {e : Expr} (ok : c.Ok) (hx : FnName c x "len") (h : Ev c ρ ω e (.lst ds)) (hsz : ds.length ≤ 100000) (he : starEach [e] c.env = [(false, eval e c.env)] := by rfl) :
    Ev c ρ ω (.Call (.Name x p1) [e] [] pos) (.int ds.length) := .mk fun Y s F Q E k => callFn ok hx (Evs.cons h Evs.nil he) F (fun vs s₁ g₁ rs => by
  cases rs with
  | cons r rs => cases rs; cases r with
    | @lst a vs _ p hn rs =>
      have hlen : vs.size = ds.length := by have := rs.length; simpa using this
      refine call_len_list p.isList (by rw [hlen]; omega) ?_
      rw [hlen]
      exact k _ (s₁.on s₁.heap (s₁.toks + 1 + 1)) (g₁.trans (Grow.tok s₁ (Nat.le_succ_of_le (Nat.le_succ _)))) (.int _ _)) he rfl
theorem Ev.len_tup {x : Str} {p1 pos : Pos} {e : Expr} (ok : c.Ok) (hx : FnName c x "len") (h : Ev c ρ ω e (.tup ds)) (hsz : ds.length ≤ 100000) (he : starEach [e] c.env = [(false, eval e c.env)] := by rfl) :
    Ev c ρ ω (.Call (.Name x p1) [e] [] pos) (.int ds.length) := .mk fun Y s F Q E k => callFn ok hx (Evs.cons h Evs.nil he) F (fun vs s₁ g₁ rs => by
  cases rs with
  | cons r rs => cases rs; cases r with
    | @tup a vs _ p hn rs =>
      have hlen : vs.size = ds.length := by have := rs.length; simpa using this
      obtain ⟨n, e⟩ := p
      refine len_tuple (items := vs) ⟨_, e, rfl, n, rfl⟩ (by rw [hlen]; omega) ?_
      rw [hlen]
      exact k _ (s₁.on s₁.heap (s₁.toks + 1 + 1)) (g₁.trans (Grow.tok s₁ (Nat.le_succ_of_le (Nat.le_succ _)))) (.int _ _)) he rfl
theorem Ev.abs {x : Str} {p1 pos : Pos} {e : Expr} {d : D} {a : Int} [hd : IntD d a] (ok : c.Ok) (hx : FnName c x "abs") (h : Ev c ρ ω e d) (he : starEach [e] c.env = [(false, eval e c.env)] := by rfl) :
    Ev c ρ ω (.Call (.Name x p1) [e] [] pos) (.int (if a < 0 then -a else a)) := .mk fun Y s F Q E k => callFn ok hx (Evs.cons h Evs.nil he) F (fun vs s₁ g₁ rs => by
  cases rs with
  | cons r rs =>
    cases rs
    obtain ⟨t, rfl⟩ := hd.val r
    exact wpAny_with_toks (Nat.le_refl s₁.toks) (call_abs_int fun u tk hle => k _ (s₁.on s₁.heap tk) (g₁.trans (Grow.tok s₁ hle)) (.int _ _))) he rfl
theorem Ev.intOf {x : Str} {p1 pos : Pos} {e : Expr} {d : D} {a : Int} [hd : IntD d a] (ok : c.Ok) (hx : TyName c x "int") (h : Ev c ρ ω e d) (he : starEach [e] c.env = [(false, eval e c.env)] := by rfl) :
    Ev c ρ ω (.Call (.Name x p1) [e] [] pos) (.int a) := .mk fun Y s F Q E k => callType ok hx (Evs.cons h Evs.nil he) F (fun vs s₁ g₁ rs => by
  cases rs with
  | cons r rs =>
    cases rs
    obtain ⟨t, rfl⟩ := hd.val r
    exact call_int_int (k _ s₁ g₁ (.int _ _))) he rfl
theorem Ev.divmod {x : Str} {p1 pos : Pos} {e1 e2 : Expr} {d1 d2 : D} {a b : Int} [hd1 : IntD d1 a] [hd2 : IntD d2 b] (ok : c.Ok) (hx : FnName c x "divmod") (h1 : Ev c ρ ω e1 d1) (h2 : Ev c ρ ω e2 d2) (hb : b ≠ 0) (hp : Builtin.divisionGoesByPylong a b = false)
    (he1 : starEach [e2] c.env = (false, eval e2 c.env) :: starEach [] c.env := by rfl) (he : starEach [e1, e2] c.env = (false, eval e1 c.env) :: starEach [e2] c.env := by rfl)
    (hpl : (backTo pos (starEach [e2] c.env)).any (·.1) = false := by rfl) :
    Ev c ρ ω (.Call (.Name x p1) [e1, e2] [] pos) (.tup [.int (a.fdiv b), .int (a.fmod b)]) := .mk fun Y s F Q E k => callFn ok hx (Evs.cons h1 (Evs.cons h2 Evs.nil he1) he) F (fun vs s₁ g₁ rs => by
  cases rs with
  | cons r rs => cases rs with
    | cons r' rs =>
      cases rs
      obtain ⟨t, rfl⟩ := hd1.val r
      obtain ⟨t', rfl⟩ := hd2.val r'
      have g₂ : Grow s₁ (s₁.on (s₁.heap.push { cls := .type "tuple", data := .seq #[.int (a.fdiv b) s₁.toks, .int (a.fmod b) (s₁.toks + 1)] }) (s₁.toks + 1 + 1)) :=
        Grow.of (fun _ _ e => Heap.get?_push_of_some _ e) (Nat.le_succ_of_le (Nat.le_succ _))
      exact divmod_int hb (k _ _ (g₁.trans g₂) (.tup ⟨_, Heap.get?_push_size _ rfl⟩ (newSeq_at (F.grow g₁).xlive) (.cons (.int _ _) (.cons (.int _ _) .nil)))) (.inl hp)) he hpl
theorem Ev.tupleOf {x : Str} {p1 pos : Pos} {e : Expr} (ok : c.Ok) (hx : TyName c x "tuple") (h : Ev c ρ ω e (.lst ds)) (hsz : ds.length ≤ 100000) (he : starEach [e] c.env = [(false, eval e c.env)] := by rfl) :
    Ev c ρ ω (.Call (.Name x p1) [e] [] pos) (.tup ds) := .mk fun Y s F Q E k => callType ok hx (Evs.cons h Evs.nil he) F (fun vs s₁ g₁ rs => by
  cases rs with
  | cons r rs => cases rs; cases r with
    | @lst a vs _ p hn rs =>
      have hlen : vs.size = ds.length := by have := rs.length; simpa using this
      refine call_tuple_list p.isList (fun h' hk => ?_) (by rw [hlen]; exact Nat.le_trans hsz (by decide))
      have g₂ : Grow s₁ (s₁.on (h'.push { cls := .type "tuple", data := .seq vs }) s₁.toks) := Grow.of (fun b o e => Heap.get?_push_of_some _ (hk b o e)) (Nat.le_refl _)
      exact k _ _ (g₁.trans g₂) (.tup ⟨_, Heap.get?_push_size _ rfl⟩ (fun q => by
        obtain ⟨o, e⟩ := (F.grow g₁).xlive _ q
        exact absurd (Heap.lt_size (hk _ _ e)) (Nat.lt_irrefl _)) (rs.grow g₂))) he rfl

/-! ## Bytes and texts -/
theorem Op2.eqB {x y : Array UInt8} : Op2 c (compareOp .Eq) (.bytes x) (.bytes y) (.bool (x.toList == y.toList)) := .mk fun X s v u hX rv ru Q E k => by
  cases rv; cases ru
  exact PySem.W.eq_bytes (k _ s (Grow.refl s) (.bool _))
theorem Op2.neBool {x y : Bool} : Op2 c (compareOp .NotEq) (.bool x) (.bool y) (.bool (x != y)) := .mk fun X s v u hX rv ru Q E k => by
  cases rv; cases ru
  exact ne_bool (k _ s (Grow.refl s) (.bool _))

/-! ## Stores -/
theorem Xs.augName {x : Str} {p1 pos : Pos} {op : Operator} {e : Expr} {a b d : D} (ok : c.Ok) (h0 : ρ.lookup x = some a) (h : Ev c ρ ω e b) (ho : Op2 c (inplaceOp op) a b d) (hx : c.stores x) (hω : x ∉ ω.map (·.1))
    (hn : (x == ("__classdict__" : Str)) = false := by decide) :
    Xs c (.AugAssign (.Name x p1) op e pos) ρ ω (fun r o => r = (x, d) :: ρ ∧ o = ω) Rt := .mk fun Y s F Q E k1 k2 => by
  obtain ⟨v, H, r⟩ := F.vars x a h0
  refine wpAny_AugAssign_Name ?_
  have go : wpAny (model c.prog c.w) c.A (eval e c.env) (fun u s₂ => wpAny (model c.prog c.w) c.A (inplaceOp op v u) (fun r s₃ => wpAny (model c.prog c.w) c.A (storeName c.env x r) (fun _ => Q .next) E s₃) E s₂) E s.sh :=
    h.run Y s F _ E fun u s₂ g₂ r₂ => ho.run _ s₂ v u (F.grow g₂).good (r.grow g₂) r₂ _ E fun w s₃ g₃ r₃ =>
      store_dat ok ((F.grow g₂).grow g₃) hx hω r₃ fun s' F' mv _ => k1 s' _ _ F' ((Mv.of_grow (g₂.trans g₃)).trans mv) ⟨rfl, rfl⟩
  rcases H with ⟨hk, m, hm, hv⟩ | ⟨hk, b, hl, hc⟩
  · exact wpAny_loadName_local ok.kind hk hm hv go
  · rcases hk with hk | hk
    · exact wpAny_loadName_cell ok.kind hk hl hc go
    · exact wpAny_loadName_free ok.kind hk hl hc go hn

/-- x[i] op= e on the frame's own list -/
theorem Xs.augItem {x : Str} {a : Addr} {p1 tpos pos : Pos} {op : Operator} {ix e : Expr} {i : Int} {di old b d : D} [hdi : IntD di i] (ok : c.Ok) (hi : Ev c ρ (ω₁ ++ (x, a, ds) :: ω₂) ix di) (h0 : 0 ≤ i) (hx : ds[i.toNat]? = some old) (hf : i < 2 ^ 63)
    (h : Ev c ρ (ω₁ ++ (x, a, ds) :: ω₂) e b) (ho : Op2 c (inplaceOp op) old b d)
    (hau : ∀ ov iv new, augStore ix ov iv new = (do holding [new, ov, iv] (setItem ov iv new); release [new, ov, iv] []; pure .next) := by intros; rfl)
    (hd : (x == ("__debug__" : Str)) = false := by decide) (hn : (x == ("__classdict__" : Str)) = false := by decide) :
    Xs c (.AugAssign (.Subscript (.Name x p1) ix tpos) op e pos) ρ (ω₁ ++ (x, a, ds) :: ω₂) (fun r o => r = ρ ∧ o = ω₁ ++ (x, a, ds.set i.toNat d) :: ω₂) Rt := .mk fun Y s F Q E k1 k2 => by
  have hmem : (x, a, ds) ∈ ω₁ ++ (x, a, ds) :: ω₂ := List.mem_append_right _ (.head _)
  obtain ⟨H, _, _, vs, ⟨n0, e0⟩, r⟩ := F.owns _ hmem
  refine wpAny_AugAssign_SubscriptAny (own_name (Y := Y) ok H hd hn (hi.run Y s F _ E fun u s₁ g₁ r₁ => ?_)) hau
  obtain ⟨t, rfl⟩ := hdi.val r₁
  obtain ⟨v, hv, rv⟩ := r.get hx
  have e1 := g₁.keep _ _ e0
  have p1 : s₁.heap.PlainList a vs := ⟨n0, e1⟩
  refine wpAny_getItem_list p1.isList h0 hf (by simpa using hv) ?_
  refine h.run Y s₁ (F.grow g₁) _ E fun w s₂ g₂ r₂ => ho.run _ s₂ v w ((F.grow g₁).grow g₂).good ((rv.grow g₁).grow g₂) r₂ _ E fun y s₃ g₃ r₃ => ?_
  have F₃ := ((F.grow g₁).grow g₂).grow g₃
  have e3 := g₃.keep _ _ (g₂.keep _ _ e1)
  have hlt : i.toNat < vs.size := by
    have h1 := (List.getElem?_eq_some_iff.mp hv).1
    simpa using h1
  refine ki_setAt (n := n0) e3 h0 hf (by omega) ?_
  have up := PySem.IsL.update e3 (fun xs => xs.setIfInBounds i.toNat y)
  have hs' : Heap.SameBut a s₃.heap (s₃.heap.update a (Obj.mapSeq fun xs => xs.setIfInBounds i.toNat y)) := Heap.SameBut.update ..
  obtain ⟨F', mv⟩ := F₃.turn ok hs' (ds' := ds.set i.toNat d) ⟨_, up⟩ (by
    rw [Array.toList_setIfInBounds]
    exact (((r.grow g₁).grow g₂).grow g₃).set i.toNat r₃)
  exact k1 _ _ _ F' ((Mv.of_grow ((g₁.trans g₂).trans g₃)).trans mv) ⟨rfl, rfl⟩
end
end Mine
end

section
open PySem PySem.W PyProof.Rows PySem.Calls PySem.SeqAt
namespace Mine

/-! ## Methods -/
structure BCall (c : Cx) (id : String) (ds : List D) (d : D) : Prop where
  run : ∀ X s vs, Good s X → Reps s X vs ds → ∀ (Q : Value → Shared → Prop) (E : Value → Shared → Prop),
    (∀ v s', Grow s s' → Rep s' X v d → Q v s') → wpAny (model c.prog c.w) c.A (call (.builtin id) vs) Q E s

section
variable {c : Cx} {ρ : Vars} {ω : Owns} {ds : List D}

theorem Ev.methS {o e : Expr} {es : List Expr} {name : PySem.Str} {id : String} {apos pos : Pos} {pl : Sem Bool} {x : PySem.Str} {r : D} (slot : Slot "str" name id) (hty : typeOf (.builtin id) = pure (.type "method_descriptor"))
    (ho : Ev c ρ ω o (.str x)) (ha : Evs c ρ ω (e :: es) ds) (hc : BCall c id (.str x :: ds) r)
    (hm : eval (.Call (.Attribute o name apos) (e :: es) [] pos) c.env = (do
      let ov ← eval o c.env
      standAt apos.atName
      let (f, first) ← holding [ov] (getMethod ov name pl)
      callWith pos f first (backTo pos (starEach (e :: es) c.env)) []) := by rfl)
    (he : starEach (e :: es) c.env = (false, eval e c.env) :: starEach es c.env := by rfl) (hpl : (backTo pos (starEach es c.env)).any (·.1) = false := by rfl) :
    Ev c ρ ω (.Call (.Attribute o name apos) (e :: es) [] pos) r := .mk fun Y s F Q E k =>
  MethodCall_ (pl := pl) (ho.run Y s F _ E fun v s₁ g₁ r₁ => by
    cases r₁ with
    | str x t =>
      with_reducible refine getMethod_builtin (typeIs_str s₁.sh x t) PySem.F.plainAttrs_str slot hty (by intro a e; cases e) ?_
      show wpAny _ _ (callWith pos (.builtin id) [.str x t] _ []) _ _ _
      refine (callWith_method1 (ha.run pos Y s₁ (F.grow g₁) _ E fun vs s₂ g₂ r₂ => ?_) he hpl)
      exact hc.run _ s₂ _ ((F.grow g₁).grow g₂).good (.cons (.str x t) r₂) Q E fun v s₃ g₃ r₃ => k v s₃ ((g₁.trans g₂).trans g₃) r₃) hm
theorem Ev.methB {o e : Expr} {es : List Expr} {name : PySem.Str} {id : String} {apos pos : Pos} {pl : Sem Bool} {x : Array UInt8} {r : D} (slot : Slot "bytes" name id) (hty : typeOf (.builtin id) = pure (.type "method_descriptor"))
    (ho : Ev c ρ ω o (.bytes x)) (ha : Evs c ρ ω (e :: es) ds) (hc : BCall c id (.bytes x :: ds) r)
    (hm : eval (.Call (.Attribute o name apos) (e :: es) [] pos) c.env = (do
      let ov ← eval o c.env
      standAt apos.atName
      let (f, first) ← holding [ov] (getMethod ov name pl)
      callWith pos f first (backTo pos (starEach (e :: es) c.env)) []) := by rfl)
    (he : starEach (e :: es) c.env = (false, eval e c.env) :: starEach es c.env := by rfl) (hpl : (backTo pos (starEach es c.env)).any (·.1) = false := by rfl) :
    Ev c ρ ω (.Call (.Attribute o name apos) (e :: es) [] pos) r := .mk fun Y s F Q E k =>
  MethodCall_ (pl := pl) (ho.run Y s F _ E fun v s₁ g₁ r₁ => by
    cases r₁ with
    | bytes x t =>
      with_reducible refine getMethod_builtin (typeIs_bytes s₁.sh x t) FB.plainAttrs_bytes slot hty (by intro a e; cases e) ?_
      show wpAny _ _ (callWith pos (.builtin id) [.bytes x t] _ []) _ _ _
      refine (callWith_method1 (ha.run pos Y s₁ (F.grow g₁) _ E fun vs s₂ g₂ r₂ => ?_) he hpl)
      exact hc.run _ s₂ _ ((F.grow g₁).grow g₂).good (.cons (.bytes x t) r₂) Q E fun v s₃ g₃ r₃ => k v s₃ ((g₁.trans g₂).trans g₃) r₃) hm
theorem Ev.methB0 {o : Expr} {name : PySem.Str} {id : String} {apos pos : Pos} {pl : Sem Bool} {x : Array UInt8} {r : D} (slot : Slot "bytes" name id) (hty : typeOf (.builtin id) = pure (.type "method_descriptor"))
    (ho : Ev c ρ ω o (.bytes x)) (hc : BCall c id [.bytes x] r)
    (hm : eval (.Call (.Attribute o name apos) [] [] pos) c.env = (do
      let ov ← eval o c.env
      standAt apos.atName
      let (f, first) ← holding [ov] (getMethod ov name pl)
      callWith pos f first (backTo pos (starEach [] c.env)) []) := by rfl) :
    Ev c ρ ω (.Call (.Attribute o name apos) [] [] pos) r := .mk fun Y s F Q E k =>
  MethodCall_ (pl := pl) (ho.run Y s F _ E fun v s₁ g₁ r₁ => by
    cases r₁ with
    | bytes x t =>
      with_reducible refine getMethod_builtin (typeIs_bytes s₁.sh x t) FB.plainAttrs_bytes slot hty (by intro a e; cases e) ?_
      show wpAny _ _ (callWith pos (.builtin id) [.bytes x t] _ []) _ _ _
      refine callWith_method0 ?_
      exact hc.run _ s₁ _ (F.grow g₁).good (.cons (.bytes x t) .nil) Q E fun v s₃ g₃ r₃ => k v s₃ (g₁.trans g₃) r₃) hm

/-! ### join of texts -/
theorem Rep.asStr {s : Gs} {X : Addr → Prop} {v : Value} {x : PySem.Str} (r : Rep s X v (.str x)) : ∃ t, v = .str x t := by cases r; exact ⟨_, rfl⟩
theorem strsAre {s : Gs} {X : Addr → Prop} {vs : List Value} {xs : List PySem.Str} (r : Reps s X vs (xs.map D.str)) : StrsAre vs xs := by
  induction xs generalizing vs with
  | nil => cases r; exact .nil
  | cons x xs ih =>
    cases r with
    | cons a b =>
      obtain ⟨t, rfl⟩ := Rep.asStr a
      exact .cons x t (ih b)
theorem BCall.join {x : PySem.Str} {ys : List PySem.Str} (hsz : (ys.map (·.length)).sum + ys.length * x.length ≤ 16777216) : BCall c "str.join" [.str x, .lst (ys.map D.str)] (.str (Txt.join x ys)) := .mk fun X s vs hX rs Q E k => by
  cases rs with
  | cons r rs => cases rs with
    | cons r' rs =>
      cases rs
      cases r with
      | str _ t => cases r' with
        | @lst a vs _ p hn rs =>
          exact wpAny_with_toks (Nat.le_refl s.toks) (PyProof.Rows.join_list p.isList (strsAre rs) hsz fun t' tk hle => k _ (s.on s.heap tk) (Grow.tok s hle) (.str _ _))
end
end Mine
end

section
open PySem PySem.W PyProof.Rows PySem.Calls PySem.SeqAt
namespace Mine
open Builtin Builtin._codecs
theorem enc_tree (x : PySem.Str) (t u : Tok) : «str.encode» ⟨[.str x t, .str (PySem.Str.ofString "ascii") u], []⟩ = (do ret (← encodeRoad "str.encode" (.str x t) x (PySem.Str.ofString "ascii") none)) := by kernel_rfl
theorem road_ascii (id : String) (self : Value) (x : PySem.Str) : encodeRoad id self x (PySem.Str.ofString "ascii") none = (do mkBytes (← encodeNarrow id asciiCodec none self x)) := by
  first | rfl | (unfold encodeRoad; rfl) | (unfold encodeRoad; simp only []; rfl) | decide
theorem fold_bytes : ∀ (l : List Nat) (acc : Array UInt8), l.foldl (fun acc y => acc ++ (asciiCodec.bytesOf y).toArray) acc = acc ++ (l.map (·.toUInt8)).toArray
  | [], acc => by simp
  | y :: l, acc => by
    rw [List.foldl_cons, fold_bytes l]
    simp [asciiCodec]
theorem two_turns {β γ : Type} {f : Nat → β → Sem (ForInStep β)} {g : β → Sem γ} {b c : β} {n : Nat} {r : γ} (hn : 0 < n) (h0 : ∀ i, f i b = pure (.yield c)) (h1 : ∀ i, f i c = pure (.done c)) (h2 : g c = pure r) :
    (forIn ([0:n] : Std.Legacy.Range) b f >>= g) = pure r := by
  rw [Std.Legacy.Range.forIn_eq_forIn_range']
  obtain ⟨m, rfl⟩ : ∃ m, n = m + 1 := ⟨n - 1, by omega⟩
  have : Std.Legacy.Range.size [0:m + 1] = m + 1 := by simp [Std.Legacy.Range.size]
  rw [this, List.range'_succ, List.forIn_cons, h0, pure_bind]
  dsimp only
  cases m with
  | zero => rw [List.range'_zero, List.forIn_nil, pure_bind, h2]
  | succ m => rw [List.range'_succ, List.forIn_cons, h1, pure_bind]; dsimp only; rw [pure_bind, h2]
theorem enc_ascii {id : String} {self : Value} {x : PySem.Str} (h : ∀ y ∈ x.cps.toList, y < 128) (hne : 0 < x.cps.size) (hsz : x.cps.size ≤ 100000) : encodeNarrow id asciiCodec none self x = pure (x.cps.map (·.toUInt8)) := by
  have h0 : x.cps[0]? = some x.cps[0] := Array.getElem?_eq_getElem hne
  have hb : asciiCodec.bad x.cps[0] = false := by
    have := h x.cps[0] (Array.mem_toList_iff.mpr (Array.getElem_mem hne))
    show decide (x.cps[0] ≥ 128) = false
    exact decide_eq_false (by omega)
  have hfi : Array.findIdx? asciiCodec.bad (x.cps.extract 0 x.cps.size) = none := by
    rw [Array.findIdx?_eq_none_iff]
    intro y hy
    have hy' : y ∈ x.cps := by simpa using hy
    have := h y (Array.mem_toList_iff.mpr hy')
    show decide (y ≥ 128) = false
    exact decide_eq_false (by omega)
  have hex : x.cps.extract 0 x.cps.size = x.cps := by simp
  have hf : Array.foldl (fun acc y => acc ++ (asciiCodec.bytesOf y).toArray) #[] x.cps = x.cps.map (·.toUInt8) := by
    rw [← Array.foldl_toList, fold_bytes]
    apply Array.ext'; simp
  have hg2 : ¬ ((x.cps.map (·.toUInt8)).size > sizeLine) := by
    rw [Array.size_map]; intro q; exact absurd (Nat.lt_of_lt_of_le q hsz) (by decide)
  unfold encodeNarrow
  refine two_turns (c := ⟨x.cps.size, x.cps.map (·.toUInt8), {}⟩) hne (fun i => ?_) (fun i => ?_) ?_
  · have hg : ¬ ((#[] : Array UInt8).size > sizeLine) := by decide
    rw [hex] at hfi
    simp only [hg, if_false, h0, hb, Bool.not_false, if_true, hex, Nat.zero_add]
    rw [hfi, Option.getD_none, hex, hf]
  · have hnone : x.cps[x.cps.size]? = none := by simp
    simp only [hg2, if_false, hnone]
  · rfl
section
open PySem.W.KBd
variable {b : Array UInt8} {y : UInt8} {ys : List UInt8} {t u : Tok} {x : PySem.Str} {n : Nat}
theorem road_asc {id : String} : _codecs.decodeRoad id b (PySem.Str.ofString "ascii") none [] = (_codecs.runDecoder id _codecs.asciiDecoder none true b 0 [] >>= fun r => mkStr ⟨r.1⟩) := by kernel_rfl
theorem meets_asc {t1 t2 : Tok} {d : PySem.Str} (hd : ∀ id, _codecs.runDecoder id _codecs.asciiDecoder none true b 0 [] = pure (x.cps, n)) :
    Meets («_codecs.decode.text» ⟨[.bytes b t, .str (PySem.Str.ofString "ascii") t1, .none, .str d t2], []⟩) (fun _ R s => x.length ≤ sizeLine ∧ R (.ok (.ret (.str x s.toks))) { s with toks := s.toks + 1 }) := by
  refine .of_wp fun prog w A R s hS => ?_
  obtain ⟨hsz, h⟩ := hS
  show wpAny _ _ (Bytes.bytesLike _ (.bytes b t) >>= fun r => _) _ _ s
  refine wpAny_bind (wpAny_of_eq like_eq ?_)
  refine wpAny_bind (wpAny_of_eq held_eq ?_)
  show wpAny _ _ (_codecs.decodeRoad _ b (PySem.Str.ofString "ascii") none [] >>= fun v => _) _ _ s
  rw [road_asc, hd]
  refine wpAny_bind (wpAny_bind (wpAny_pure ?_))
  exact wpAny_mkStr (wpAny_pure ⟨_, rfl, h⟩) hsz
theorem entry_asc : «bytes.decode» ⟨[.bytes (y :: ys).toArray t, .str (PySem.Str.ofString "ascii") u], []⟩ = (mkStr (PySem.Str.ofString "utf-8") >>= fun _ => mkStr (PySem.Str.ofString "ascii") >>= fun e => mkStr (PySem.Str.ofString "bytes.decode") >>= fun d =>
    call (.builtin "_codecs.decode.text") [.bytes (y :: ys).toArray t, e, .none, d] >>= fun v => ret v) := by kernel_rfl
theorem meets_decA (hd : ∀ id, _codecs.runDecoder id _codecs.asciiDecoder none true (y :: ys).toArray 0 [] = pure (x.cps, n)) :
    Meets («bytes.decode» ⟨[.bytes (y :: ys).toArray t, .str (PySem.Str.ofString "ascii") u], []⟩) (fun _ R s => x.length ≤ sizeLine ∧ ∀ t' k, R (.ok (.ret (.str x t'))) { s with toks := k }) := by
  refine .of_wp fun prog w A R s hS => ?_
  obtain ⟨hsz, h⟩ := hS
  rw [entry_asc]
  refine wpAny_bind (wpAny_mkStr ?_ (by decide))
  refine wpAny_bind (wpAny_mkStr ?_ (by decide))
  refine wpAny_bind (wpAny_mkStr ?_ (by decide))
  exact wpAny_bind (call_function_meets kind_text plain_text entry_text (args_text _ _ _ _) (meets_asc hd) ⟨hsz, wpAny_pure ⟨_, rfl, h _ _⟩⟩)
end

theorem BCall.encode {c : Cx} {x : PySem.Str} (h : ∀ y ∈ x.cps.toList, y < 128) (hne : 0 < x.cps.size) (hsz : x.cps.size ≤ 100000) : BCall c "str.encode" [.str x, .str (PySem.Str.ofString "ascii")] (.bytes (x.cps.map (·.toUInt8))) := .mk fun X s vs hX rs Q E k => by
  cases rs with
  | cons r rs => cases rs with
    | cons r' rs =>
      cases rs
      cases r with
      | str _ t => cases r' with
        | str _ u =>
          refine call_gives (m := .bytes (x.cps.map (·.toUInt8))) PySem.F.slot_str_encode (typeIs_str _ _ _) PySem.F.entry_str_encode (PySem.F.args_str_encode_2 _ _) ?_ ⟨?_, k _ (s.on s.heap (s.toks + 1)) (Grow.tok s (Nat.le_succ _)) (.bytes _ _)⟩
          · rw [enc_tree, road_ascii, enc_ascii h hne hsz]
            exact .of_wp fun M A E s Q hq => wpAny_bind (wpAny_bind (wpAny_pure (wpAny_mkBytes (wpAny_pure ⟨_, rfl, hq.2⟩) hq.1)))
          · rw [Array.size_map]; exact Nat.le_trans hsz (by decide)
theorem BCall.decode {c : Cx} {y : UInt8} {ys : List UInt8} {x : PySem.Str} {n : Nat} (hd : ∀ id, _codecs.runDecoder id _codecs.asciiDecoder none true (y :: ys).toArray 0 [] = pure (x.cps, n)) (hsz : x.length ≤ 1000) :
    BCall c "bytes.decode" [.bytes (y :: ys).toArray, .str (PySem.Str.ofString "ascii")] (.str x) := .mk fun X s vs hX rs Q E k => by
  cases rs with
  | cons r rs => cases rs with
    | cons r' rs =>
      cases rs
      cases r with
      | bytes _ t => cases r' with
        | str _ u =>
          exact wpAny_with_toks (Nat.le_refl s.toks) (call_meets FB.slot_bytes_decode (typeIs_bytes _ _ _) FB.entry_bytes_decode (args_bytes_decode_2 _ _) (meets_decA hd) ⟨Nat.le_trans hsz (by decide), fun t' tk hle => k _ (s.on s.heap tk) (Grow.tok s hle) (.str _ _)⟩)
theorem dec46 (id : String) : _codecs.runDecoder id _codecs.asciiDecoder none true [46].toArray 0 [] = pure (#[46], 1) := by kernel_rfl

end Mine
end

section
open PySem PySem.W PyProof.Rows PySem.Calls PySem.SeqAt
set_option maxRecDepth 100000
namespace Mine
open Builtin
theorem take_eq {id : String} {b : Array UInt8} {t : Tok} : Bytes.takeBufferQuiet? id (.bytes b t) 0 = pure (some (b, none)) := by
  unfold Bytes.takeBufferQuiet? Bytes.takeBuffer?
  rw [KBy.special_eq KBy.look_buffer, KBy.own_buffer]
  have : Bytes.buffer? id (.bytes b t) (full := (0 : Int) == Bytes.fullReadOnly) = pure (some b) := KBy.buffer_eq
  simp only [pure_bind, this]
  rfl

inductive BytesAre : List Value → List (Array UInt8) → Prop
  | nil : BytesAre [] []
  | cons (y : Array UInt8) (t : Tok) {vs ys} : BytesAre vs ys → BytesAre (.bytes y t :: vs) (y :: ys)

theorem wpAny_forRange {M : Model} {A : Around} {E : Value → Shared → Prop} {s : Shared} {β : Type} {f : Nat → β → Sem (ForInStep β)} {Q : β → Shared → Prop} {n : Nat} (I : Nat → β → Prop)
    (step : ∀ i st, i < n → I i st → wpAny M A (f i st) (fun r s' => s' = s ∧ ∃ st', r = .yield st' ∧ I (i + 1) st') E s) (done : ∀ st, I n st → Q st s) :
    ∀ (k i : Nat) (st : β), i + k = n → I i st → wpAny M A (forIn (List.range' i k) st f) Q E s
  | 0, i, st, h, hI => by
    rw [List.range'_zero, List.forIn_nil]
    have : i = n := by omega
    exact wpAny_pure (done st (this ▸ hI))
  | k + 1, i, st, h, hI => by
    rw [List.range'_succ, List.forIn_cons]
    refine wpAny_bind (wpAny_mono (step i st (by omega) hI) (fun r s' hr => ?_) fun _ _ x => x)
    obtain ⟨rfl, st', rfl, hI'⟩ := hr
    exact wpAny_forRange I step done k (i + 1) st' (by omega) hI'

theorem BytesAre.get {vs : List Value} {bs : List (Array UInt8)} (h : BytesAre vs bs) : ∀ (i : Nat), i < vs.length → ∃ b t, vs[i]? = some (.bytes b t) ∧ bs[i]? = some b := by
  induction h with
  | nil => intro i h; cases h
  | cons y t _ ih => intro i h; cases i with
    | zero => exact ⟨y, t, rfl, rfl⟩
    | succ i => obtain ⟨b, u, h1, h2⟩ := ih i (Nat.lt_of_succ_lt_succ h); exact ⟨b, u, h1, h2⟩
theorem BytesAre.length {vs : List Value} {bs : List (Array UInt8)} (h : BytesAre vs bs) : vs.length = bs.length := by
  induction h with
  | nil => rfl
  | cons _ _ _ ih => rw [List.length_cons, List.length_cons, ih]

theorem BytesAre.mem {vs : List Value} {bs : List (Array UInt8)} (h : BytesAre vs bs) : ∀ v ∈ vs, ∃ b t, v = .bytes b t := by
  induction h with
  | nil => intro v h; cases h
  | cons y t _ ih => intro v h; cases h with
    | head => exact ⟨y, t, rfl⟩
    | tail _ h => exact ih v h

theorem joinItems_wp {M : Model} {A : Around} {E : Value → Shared → Prop} {s : Shared} {a : Addr} {vs : Array Value} (hl : s.heap.IsList a vs) {Q : Value → Shared → Prop} (h : Q (.ref a) s) : wpAny M A (Bytes.joinItems (.ref a)) Q E s := by
  unfold Bytes.joinItems
  refine wpAny_bind (wpAny_typeOf hl.typeIs ?_)
  exact wpAny_pure h
theorem joinLetGo_wp {M : Model} {A : Around} {E : Value → Shared → Prop} {s : Shared} {keep : List Value} {Q : Unit → Shared → Prop} (h : Q () s) : ∀ (l : List Value), wpAny M A (Bytes.joinLetGo (l.map fun v => (v, none)) keep) Q E s
  | [] => wpAny_pure h
  | v :: l => by
    show wpAny _ _ (pure () >>= fun _ => letGo _ _ >>= fun _ => Bytes.joinLetGo (l.map fun v => (v, none)) keep) _ _ _
    refine wpAny_bind (wpAny_pure (wpAny_bind (wpAny_letGo ?_)))
    exact joinLetGo_wp h l

theorem join_meets {sep : Array UInt8} {t : Tok} {a : Addr} {vs : Array Value} {bs : List (Array UInt8)} (hb : BytesAre vs.toList bs) (hne : bs.length ≠ 1) :
    Meets («bytes.join» ⟨[.bytes sep t, .ref a], []⟩) (fun A R s => s.heap.IsList a vs ∧ Bytes.tooLong ((bs.toArray).foldl (· + ·.size) (sep.size * (bs.length - 1))) = false ∧ (Bytes.joined sep bs).size ≤ sizeLine ∧ R (.ok (.ret (.bytes (Bytes.joined sep bs) s.toks))) { s with toks := s.toks + 1 }) := by
  refine .of_wp fun prog w A R s hS => ?_
  obtain ⟨hl, hsz, hsz2, h⟩ := hS
  obtain ⟨o, ho, hc, n, hd⟩ := id hl
  have len := hb.length
  rw [Array.length_toList] at len
  have hseq : ∀ {Q : Option (Array Value) → Shared → Prop}, Q (some vs) s → wpAny (model prog w) A.in1 (seqItems? (.ref a)) Q (fun e s' => R (.error e) s') s := fun q => by
    unfold seqItems?
    refine wpAny_bind (wpAny_load ho ?_)
    rw [hd]; exact wpAny_pure q
  unfold «bytes.join» Bytes.joinM
  refine wpAny_bind (wpAny_of_eq (a := (Value.bytes sep t, Value.ref a)) rfl ?_)
  refine wpAny_bind (joinItems_wp hl ?_)
  refine wpAny_bind (hseq ?_)
  have tail : ∀ (vs' : List Value) (K : Value → Sem PySem.Fin), (∀ r, K r = (holding (r :: List.flatMap (fun x => x.fst :: x.snd.toList) (vs'.map fun v => (v, (none : Option Value)))) point >>= fun _ => Bytes.joinLetGo (vs'.map fun v => (v, none)) [r] >>= fun _ => ret r)) →
      wpAny (model prog w) A.in1 (Bytes.Kind.bytes.new (Bytes.joined sep bs) >>= K) (fun fin s' => ∃ v, fin = .done (.ret v) ∧ R (.ok (.ret v)) s') (fun e s' => R (.error e) s') s := fun vs' K hK => by
    refine wpAny_bind ?_
    show wpAny _ _ (mkBytes _) _ _ _
    refine wpAny_mkBytes ?_ hsz2
    rw [hK]
    refine wpAny_bind (wpAny_holding (wpAny_point (wpAny_bind (joinLetGo_wp ?_ vs'))))
    exact wpAny_pure ⟨_, rfl, h⟩
  obtain ⟨l⟩ := vs
  match l, len with
  | [], len =>
    have hbs : bs = [] := List.eq_nil_of_length_eq_zero len.symm
    subst hbs
    dsimp only
    rw [if_pos (show (Bytes.Kind.bytes == Bytes.Kind.bytes) = true from rfl)]
    show wpAny _ _ (forIn [:_] (#[], []) _ >>= _) _ _ _
    rw [Std.Legacy.Range.forIn_eq_forIn_range']
    simp only [Std.Legacy.Range.size]
    refine wpAny_bind (wpAny_pure ?_)
    dsimp only
    show wpAny _ _ (pure sep >>= _) _ _ _
    refine wpAny_bind (wpAny_pure ?_)
    rw [if_neg (by simpa using hsz)]
    exact tail [] _ fun r => rfl
  | [x], len => exact absurd len.symm hne
  | x :: y :: l, len =>
    dsimp only
    rw [if_pos (show (Bytes.Kind.bytes == Bytes.Kind.bytes) = true from rfl)]
    show wpAny _ _ (forIn [:_] (#[], []) _ >>= _) _ _ _
    rw [Std.Legacy.Range.forIn_eq_forIn_range']
    simp only [Std.Legacy.Range.size]
    refine wpAny_bind (wpAny_forRange (n := bs.length) (fun i st => st = ((bs.take i).toArray, ((x :: y :: l).take i).map fun v => (v, none))) (fun i st hi hI => ?_) (fun st hI => ?_) _ 0 _ (by rw [← len]; simp) (by simp))
    · subst hI
      dsimp only
      refine wpAny_bind (hseq ?_)
      dsimp only
      have hi' : i < (x :: y :: l).length := by have : (x :: y :: l).length = bs.length := len; omega
      obtain ⟨b, t', h1, h2⟩ := hb.get i hi'
      have hx : ({ toList := x :: y :: l } : Array Value).getD i Value.none = .bytes b t' := by
        simp only [Array.getD_eq_getD_getElem?, List.getElem?_toArray]
        rw [h1]; rfl
      rw [hx]
      have hno : (Bytes.Kind.bytes == Bytes.Kind.bytearray || (List.map (fun v => (v, (none : Option Value))) (List.take i (x :: y :: l))).any fun x => x.fst.onHeap) = false := by
        rw [Bool.or_eq_false_iff]
        refine ⟨rfl, ?_⟩
        rw [List.any_eq_false]
        intro p hp
        obtain ⟨v, hv, rfl⟩ := List.mem_map.mp hp
        obtain ⟨b, t, rfl⟩ := hb.mem v (List.mem_of_mem_take hv)
        exact Bool.false_ne_true
      rw [if_neg (by rw [hno]; exact Bool.false_ne_true)]
      refine wpAny_bind (wpAny_holding (wpAny_of_eq take_eq ?_))
      dsimp only
      refine wpAny_bind (hseq ?_)
      dsimp only
      rw [if_neg (by simp)]
      refine wpAny_pure ⟨rfl, _, rfl, ?_⟩
      rw [List.take_add_one, h2, List.take_add_one, h1]
      simp
    · subst hI
      dsimp only
      rw [List.take_of_length_le (Nat.le_refl _)]
      show wpAny _ _ (pure sep >>= _) _ _ _
      refine wpAny_bind (wpAny_pure ?_)
      rw [if_neg (by rw [show (Array.foldl (fun x1 x2 => x1 + x2.size) (sep.size * (bs.toArray.size - 1)) bs.toArray) = _ from rfl]; simp at hsz ⊢; exact hsz)]
      exact tail _ _ fun r => rfl

theorem join_one {sep : Array UInt8} {t : Tok} {a : Addr} {b : Array UInt8} {u : Tok} :
    Meets («bytes.join» ⟨[.bytes sep t, .ref a], []⟩) (fun A R s => s.heap.IsList a #[.bytes b u] ∧ R (.ok (.ret (.bytes b u))) s) := by
  refine .of_wp fun prog w A R s hS => ?_
  obtain ⟨hl, h⟩ := hS
  obtain ⟨o, ho, hc, n, hd⟩ := id hl
  unfold «bytes.join» Bytes.joinM
  refine wpAny_bind (wpAny_of_eq (a := (Value.bytes sep t, Value.ref a)) rfl ?_)
  refine wpAny_bind (joinItems_wp hl ?_)
  refine wpAny_bind (wpAny_seqItems ho hd ?_)
  dsimp only
  rw [if_pos (show (Bytes.Kind.bytes == Bytes.Kind.bytes) = true from rfl)]
  show wpAny _ _ (typeOf (.bytes b u) >>= _) _ _ _
  refine wpAny_bind (wpAny_typeOf (typeIs_bytes _ _ _) ?_)
  rw [if_pos (by decide)]
  exact wpAny_bind (wpAny_rule (wpAny_pure ⟨_, rfl, h⟩))

theorem newAll {M : Model} {A : Around} {E : Value → Shared → Prop} : ∀ (l : List (Array UInt8)) {s : Shared} {Q : List Value → Shared → Prop}, (∀ b ∈ l, b.size ≤ sizeLine) →
    (∀ vs tk, s.toks ≤ tk → BytesAre vs l → Q vs { s with toks := tk }) → wpAny M A (l.mapM Bytes.Kind.bytes.new) Q E s
  | [], s, Q, _, k => by rw [List.mapM_nil]; exact wpAny_pure (k [] s.toks (Nat.le_refl _) .nil)
  | b :: l, s, Q, hs, k => by
    rw [List.mapM_cons]
    refine wpAny_bind (show wpAny _ _ (mkBytes b) _ _ _ from wpAny_mkBytes ?_ (hs b (.head _)))
    refine wpAny_bind (newAll l (fun b hb => hs b (.tail _ hb)) fun vs tk hle hv => wpAny_pure ?_)
    exact k (.bytes b s.toks :: vs) tk (Nat.le_trans (Nat.le_succ _) hle) (.cons b s.toks hv)

noncomputable def splitB (b sep : Array UInt8) : List (Array UInt8) := Bytes.between b sep.size (Bytes.occurrences b sep 0 b.size)
theorem occ_le (b sep : Array UInt8) (h : ((Bytes.occurrences b sep 0 b.size).length ≤ b.size + 1)) : (Bytes.occurrences b sep 0 b.size).take (b.size + 1) = Bytes.occurrences b sep 0 b.size := List.take_of_length_le h

theorem split_meets {b sep : Array UInt8} {t u : Tok} (hsep : sep.isEmpty = false) (hocc : (Bytes.occurrences b sep 0 b.size).isEmpty = false) (hlen : (Bytes.occurrences b sep 0 b.size).length ≤ b.size + 1)
    (hsz : ∀ x ∈ splitB b sep, x.size ≤ sizeLine) (hn : (splitB b sep).length ≤ sizeLine) :
    Meets («bytes.split» ⟨[.bytes b t, .bytes sep u], []⟩) (fun A R s => ∀ (vs : List Value) (tk : Tok), s.toks ≤ tk → BytesAre vs (splitB b sep) →
      R (.ok (.ret (.ref s.heap.objs.size))) { s with heap := s.heap.push { cls := .type "list", data := .seq vs.toArray }, toks := tk }) := by
  refine .of_wp fun prog w A R s hS => ?_
  unfold «bytes.split» Bytes.splitM
  dsimp only
  refine wpAny_bind (wpAny_of_eq (a := [some (Value.bytes sep u), none]) (by kernel_rfl) ?_)
  dsimp only
  refine wpAny_bind (wpAny_pure ?_)
  show wpAny _ _ (pure b >>= _) _ _ _
  refine wpAny_bind (wpAny_pure ?_)
  refine wpAny_bind (wpAny_of_eq KBd.like_eq ?_)
  rw [if_neg (by rw [hsep]; exact Bool.false_ne_true)]
  rw [if_pos (show ((-1 : Int) < 0) from by decide), if_neg Bool.false_ne_true, occ_le b sep hlen, if_neg (by rw [hocc]; exact Bool.false_ne_true)]
  refine wpAny_bind (newAll (splitB b sep) hsz fun vs tk hle hv => ?_)
  refine wpAny_bind (wpAny_newList (wpAny_pure ⟨_, rfl, hS vs tk hle hv⟩) ?_)
  rw [hv.length]; exact hn

noncomputable def wordsB (b : Array UInt8) : List (Array UInt8) := (Bytes.words (b.size + 1) (b.size + 1) b.toList).map (·.toArray)
theorem newAll' {M : Model} {A : Around} {E : Value → Shared → Prop} {α : Type} (g : α → Array UInt8) : ∀ (l : List α) {s : Shared} {Q : List Value → Shared → Prop}, (∀ b ∈ l, (g b).size ≤ sizeLine) →
    (∀ vs tk, s.toks ≤ tk → BytesAre vs (l.map g) → Q vs { s with toks := tk }) → wpAny M A (l.mapM fun x => Bytes.Kind.bytes.new (g x)) Q E s
  | [], s, Q, _, k => by rw [List.mapM_nil]; exact wpAny_pure (k [] s.toks (Nat.le_refl _) .nil)
  | b :: l, s, Q, hs, k => by
    rw [List.mapM_cons]
    refine wpAny_bind (show wpAny _ _ (mkBytes (g b)) _ _ _ from wpAny_mkBytes ?_ (hs b (.head _)))
    refine wpAny_bind (newAll' g l (fun b hb => hs b (.tail _ hb)) fun vs tk hle hv => wpAny_pure ?_)
    exact k (.bytes (g b) s.toks :: vs) tk (Nat.le_trans (Nat.le_succ _) hle) (.cons (g b) s.toks hv)
theorem words_meets {b : Array UInt8} {t : Tok} (hsp : b.any Bytes.isSpace = true)
    (hsz : ∀ x ∈ wordsB b, x.size ≤ sizeLine) (hn : (wordsB b).length ≤ sizeLine) :
    Meets («bytes.split» ⟨[.bytes b t], []⟩) (fun A R s => ∀ (vs : List Value) (tk : Tok), s.toks ≤ tk → BytesAre vs (wordsB b) →
      R (.ok (.ret (.ref s.heap.objs.size))) { s with heap := s.heap.push { cls := .type "list", data := .seq vs.toArray }, toks := tk }) := by
  refine .of_wp fun prog w A R s hS => ?_
  unfold «bytes.split» Bytes.splitM
  dsimp only
  refine wpAny_bind (wpAny_of_eq (a := [none, none]) (by kernel_rfl) ?_)
  dsimp only
  refine wpAny_bind (wpAny_pure ?_)
  show wpAny _ _ (pure b >>= _) _ _ _
  refine wpAny_bind (wpAny_pure ?_)
  refine wpAny_bind (wpAny_rule ?_)
  rw [if_pos (show ((-1 : Int) < 0) from by decide), if_neg (by rw [hsp]; simp), if_neg Bool.false_ne_true]
  refine wpAny_bind (newAll' (·.toArray) _ (fun w hw => hsz _ (List.mem_map.mpr ⟨w, hw, rfl⟩)) fun vs tk hle hv => ?_)
  refine wpAny_bind (wpAny_newList (wpAny_pure ⟨_, rfl, hS vs tk hle hv⟩) ?_)
  rw [hv.length]; exact hn

theorem BytesAre.reps {s : Gs} {X : Addr → Prop} {vs : List Value} {bs : List (Array UInt8)} (h : BytesAre vs bs) : Reps s X vs (bs.map D.bytes) := by
  induction h with
  | nil => exact .nil
  | cons y t _ ih => exact .cons (.bytes y t) ih
theorem Rep.asBytes {s : Gs} {X : Addr → Prop} {v : Value} {x : Array UInt8} (r : Rep s X v (.bytes x)) : ∃ t, v = .bytes x t := by cases r; exact ⟨_, rfl⟩
theorem bytesAre {s : Gs} {X : Addr → Prop} {vs : List Value} {xs : List (Array UInt8)} (r : Reps s X vs (xs.map D.bytes)) : BytesAre vs xs := by
  induction xs generalizing vs with
  | nil => cases r; exact .nil
  | cons x xs ih =>
    cases r with
    | cons a b =>
      obtain ⟨t, rfl⟩ := Rep.asBytes a
      exact .cons x t (ih b)
theorem BCall.joinB {c : Cx} {sep : Array UInt8} {bs : List (Array UInt8)} (hne : bs.length ≠ 1) (h1 : Bytes.tooLong ((bs.toArray).foldl (· + ·.size) (sep.size * (bs.length - 1))) = false) (h2 : (Bytes.joined sep bs).size ≤ sizeLine) :
    BCall c "bytes.join" [.bytes sep, .lst (bs.map D.bytes)] (.bytes (Bytes.joined sep bs)) := .mk fun X s vs hX rs Q E k => by
  cases rs with
  | cons r rs => cases rs with
    | cons r' rs =>
      cases rs
      cases r with
      | bytes _ t => cases r' with
        | @lst a vs _ p hn rs =>
          exact call_meets slot_bytes_join (typeIs_bytes _ _ _) entry_bytes_join (args_bytes_join_2 _ _) (join_meets (bytesAre rs) hne) ⟨p.isList, h1, h2, k _ (s.on s.heap (s.toks + 1)) (Grow.tok s (Nat.le_succ _)) (.bytes _ _)⟩
theorem BCall.splitB {c : Cx} {b sep : Array UInt8} (hsep : sep.isEmpty = false) (hocc : (Bytes.occurrences b sep 0 b.size).isEmpty = false) (hlen : (Bytes.occurrences b sep 0 b.size).length ≤ b.size + 1)
    (hsz : ∀ x ∈ splitB b sep, x.size ≤ sizeLine) (hn : (splitB b sep).length ≤ sizeLine) : BCall c "bytes.split" [.bytes b, .bytes sep] (.lst ((splitB b sep).map D.bytes)) := .mk fun X s vs hX rs Q E k => by
  cases rs with
  | cons r rs => cases rs with
    | cons r' rs =>
      cases rs
      cases r with
      | bytes _ t => cases r' with
        | bytes _ u =>
          refine call_meets slot_bytes_split (typeIs_bytes _ _ _) entry_bytes_split (args_bytes_split_2 _ _) (split_meets hsep hocc hlen hsz hn) fun vs tk hle hv => ?_
          refine k _ (s.on (s.heap.push _) tk) (Grow.of (fun _ _ e => Heap.get?_push_of_some _ e) hle) (.lst ⟨_, Heap.get?_push_size _ rfl⟩ (newSeq_at hX.live) ?_)
          exact hv.reps
theorem BCall.words {c : Cx} {b : Array UInt8} (hsp : b.any Bytes.isSpace = true) (hsz : ∀ x ∈ wordsB b, x.size ≤ sizeLine) (hn : (wordsB b).length ≤ sizeLine) :
    BCall c "bytes.split" [.bytes b] (.lst ((wordsB b).map D.bytes)) := .mk fun X s vs hX rs Q E k => by
  cases rs with
  | cons r rs =>
    cases rs
    cases r with
    | bytes _ t =>
      refine call_meets slot_bytes_split (typeIs_bytes _ _ _) entry_bytes_split (args_bytes_split_1 _) (words_meets hsp hsz hn) fun vs tk hle hv => ?_
      refine k _ (s.on (s.heap.push _) tk) (Grow.of (fun _ _ e => Heap.get?_push_of_some _ e) hle) (.lst ⟨_, Heap.get?_push_size _ rfl⟩ (newSeq_at hX.live) ?_)
      exact hv.reps
end Mine
end

section
open PySem PySem.W PyProof.Rows PySem.Calls PySem.SeqAt
namespace Mine

/-! ## The matching machine -/
noncomputable def stepN : Nat → Sre.M → Sre.M
  | 0, m => m
  | n + 1, m => stepN n m.step
theorem step_done {m : Sre.M} (h : m.outcome.isSome = true) : m.step = m := by
  unfold Sre.M.step; rw [if_pos h]
theorem stepN_done {m : Sre.M} (h : m.outcome.isSome = true) : ∀ n, stepN n m = m
  | 0 => rfl
  | n + 1 => by rw [stepN, step_done h]; exact stepN_done h n
theorem stepN_add : ∀ (a b : Nat) (m : Sre.M), stepN (a + b) m = stepN b (stepN a m)
  | 0, b, m => by rw [Nat.zero_add]; rfl
  | a + 1, b, m => by rw [Nat.succ_add, stepN, stepN_add a b]; rfl
theorem runFor_eq : ∀ (n : Nat) (m : Sre.M), Sre.M.runFor n m = stepN n m
  | 0, m => rfl
  | n + 1, m => by
    rw [Sre.M.runFor]
    by_cases h : m.outcome.isSome = true
    · rw [if_pos h, stepN_done h]
    · rw [if_neg h, runFor_eq n]; rfl
theorem stepN_end {a b : Nat} {m : Sre.M} (ha : (stepN a m).outcome.isSome = true) (hb : (stepN b m).outcome.isSome = true) : stepN a m = stepN b m := by
  rcases Nat.le_total a b with h | h
  · obtain ⟨k, rfl⟩ := Nat.exists_eq_add_of_le h
    rw [stepN_add, stepN_done ha]
  · obtain ⟨k, rfl⟩ := Nat.exists_eq_add_of_le h
    rw [stepN_add, stepN_done hb]

section
variable {M : Model} {A : Around} {E : Value → Shared → Prop} {s : Shared}
theorem reDrive_wp {Q : Sre.M → Shared → Prop} : ∀ (turns : Nat) (n : Nat) (m : Sre.M), (stepN n m).outcome.isSome = true → n ≤ 4 * turns → 0 < turns → Q (stepN n m) s → wpAny M A (Builtin.Re.reDrive turns m) Q E s
  | 0, _, _, _, _, h, _ => absurd h (Nat.lt_irrefl _)
  | t + 1, n, m, hs, hn, _, hq => by
    rw [Builtin.Re.reDrive]
    show wpAny _ _ (if (Sre.M.runFor 4 m).outcome.isSome = true then _ else _) _ _ _
    rw [runFor_eq]
    by_cases h : (stepN 4 m).outcome.isSome = true
    · rw [if_pos h]
      show wpAny _ _ (pure (Sre.M.runFor 4 m)) _ _ _
      rw [runFor_eq, stepN_end h hs]
      exact wpAny_pure hq
    · rw [if_neg h]
      refine wpAny_bind (wpAny_rule ?_)
      show wpAny _ _ (Builtin.Re.reDrive t (Sre.M.runFor 4 m)) _ _ _
      rw [runFor_eq]
      have h4 : 4 < n := Nat.lt_of_not_le fun hle => by
        apply h
        obtain ⟨k', hk'⟩ : ∃ k', 4 = n + k' := ⟨4 - n, by omega⟩
        have : (stepN 4 m) = stepN n m := by rw [hk', stepN_add, stepN_done hs]
        rw [this]; exact hs
      obtain ⟨k, rfl⟩ := Nat.exists_eq_add_of_le (Nat.le_of_lt h4)
      rw [stepN_add] at hs hq
      exact reDrive_wp t k (stepN 4 m) hs (by omega) (by omega) hq

theorem rules_wp {c : Nat → Bool} {g : Nat → String} {Q : PUnit → Shared → Prop} (h : Q PUnit.unit s) : ∀ l : List Nat, wpAny M A (forIn l PUnit.unit fun i _ => if c i = true then do rule (g i); pure (ForInStep.yield PUnit.unit) else pure (ForInStep.yield PUnit.unit)) Q E s
  | [] => wpAny_pure h
  | i :: l => by
    rw [List.forIn_cons]
    refine wpAny_bind (wpAny_ite ?_)
    split
    · exact wpAny_bind (wpAny_rule (wpAny_pure (rules_wp h l)))
    · exact wpAny_pure (rules_wp h l)

theorem run_end {m : Sre.M} {n : Nat} {b : Bool} {Q : Option Sre.M → Shared → Prop} (ho : (stepN n m).outcome = some (if b then .matched else .failed)) (hn : n ≤ 2 ^ 66) (hq : Q (if b then some (stepN n m) else none) s) : wpAny M A (Builtin.Re.reRunToEnd m) Q E s := by
  unfold Builtin.Re.reRunToEnd
  refine wpAny_bind (reDrive_wp (2 ^ 64) n m (by rw [ho]; rfl) (Nat.le_trans hn (by decide)) (by decide) ?_)
  refine wpAny_bind (rules_wp ?_ _)
  rw [ho]
  cases b with
  | true => exact wpAny_pure hq
  | false => exact wpAny_pure hq
end
end Mine
end

section
open PySem PySem.W PyProof.Rows PySem.Calls PySem.SeqAt
namespace Mine
open PySem.Sre

noncomputable def Goes (b : Nat) (m : M) (P : M → Prop) : Prop := ∃ n, n ≤ b ∧ P (stepN n m)
theorem Goes.here {m : M} {P : M → Prop} (h : P m) : Goes 0 m P := ⟨0, Nat.le_refl _, h⟩
theorem Goes.step {m : M} {P : M → Prop} {b : Nat} (h : Goes b m.step P) : Goes (b + 1) m P := let ⟨n, hn, hp⟩ := h; ⟨n + 1, Nat.succ_le_succ hn, hp⟩
theorem Goes.trans {m : M} {P Q : M → Prop} {a b : Nat} (h : Goes a m P) (k : ∀ m', P m' → Goes b m' Q) : Goes (a + b) m Q := by
  obtain ⟨n, hn, hp⟩ := h
  obtain ⟨k, hk, hq⟩ := k _ hp
  exact ⟨n + k, Nat.add_le_add hn hk, by rw [stepN_add]; exact hq⟩
theorem Goes.more {m : M} {P : M → Prop} {a b : Nat} (h : Goes a m P) (hb : a ≤ b) : Goes b m P := let ⟨n, hn, hp⟩ := h; ⟨n, Nat.le_trans hn hb, hp⟩
theorem Goes.mono {m : M} {P Q : M → Prop} {a : Nat} (h : Goes a m P) (k : ∀ m', P m' → Q m') : Goes a m Q := let ⟨n, hn, hp⟩ := h; ⟨n, hn, k _ hp⟩

section
variable {m : M}
theorem step_exec (ho : m.outcome = none) (ha : m.answer = none) (hp : m.pc < m.code.size) : m.step = m.exec := by
  unfold M.step
  rw [ho, ha]
  simp only [Option.isSome_none, Bool.false_eq_true, if_false, hp, if_true]
theorem exec_lit {c : Nat} (h0 : m.word 0 = 16) (h1 : m.word 1 = c) :
    m.exec = if m.pos < m.lim ∧ m.text.getD m.pos 0 = c then { m with seen := m.seen.add 16, pc := m.pc + 2, pos := m.pos + 1 } else { m with seen := m.seen.add 16, answer := some false } := by
  have hc : m.code.getD m.pc 0 = 16 := h0
  have hc1 : m.code.getD (m.pc + 1) 0 = c := h1
  unfold M.exec
  rw [h0]
  simp only [show ops[16]? = some Op.LITERAL from rfl]
  by_cases hl : m.pos < m.lim
  · rw [if_neg (by show ¬ m.lim ≤ m.pos; omega)]
    have e : accepts m.code m.pc (m.text.getD m.pos 0) (m.seen.add 16) = .ok (m.text.getD m.pos 0 == c, m.seen.add 16) := by
      unfold accepts
      rw [hc, hc1]
      simp only [show ops[16]? = some Op.LITERAL from rfl]
    have e2 : itemWidth m.code m.pc = 2 := by
      unfold itemWidth
      rw [hc]
      simp only [show ops[16]? = some Op.LITERAL from rfl]
    rw [e]
    by_cases ht : m.text.getD m.pos 0 = c
    · rw [if_pos ⟨hl, ht⟩, beq_iff_eq.mpr ht]
      simp only [e2]
    · rw [if_neg (fun q => ht q.2), beq_eq_false_iff_ne.mpr ht]
      rfl
  · rw [if_pos (by show m.lim ≤ m.pos; omega), if_neg (fun q => hl q.1)]
    rfl

theorem exec_at1 (h0 : m.word 0 = 6) (h1 : m.word 1 = 1) :
    m.exec = if m.pos = 0 ∨ m.text.getD (m.pos - 1) 0 = 10 then { m with seen := (m.seen.add 6).add 44, pc := m.pc + 2 } else { m with seen := (m.seen.add 6).add 44, answer := some false } := by
  unfold M.exec
  rw [h0]
  simp only [show ops[6]? = some Op.AT from rfl]
  have e : ({ m with seen := m.seen.add 6 } : M).word 1 = 1 := h1
  rw [e]
  simp only [M.isAt]
  by_cases h : m.pos = 0 ∨ m.text.getD (m.pos - 1) 0 = 10
  · rw [if_pos h]
    have : (m.pos == 0 || m.text.getD (m.pos - 1) 0 == 10) = true := by simpa using h
    rw [this]
    rfl
  · rw [if_neg h]
    have : (m.pos == 0 || m.text.getD (m.pos - 1) 0 == 10) = false := by
      rw [not_or] at h
      rw [Bool.or_eq_false_iff]
      exact ⟨beq_eq_false_iff_ne.mpr h.1, beq_eq_false_iff_ne.mpr h.2⟩
    rw [this]
    rfl
theorem exec_success (h0 : m.word 0 = 1) (hw : m.wholeText = false) (hm : m.mustAdvance = false) : m.exec = { m with seen := m.seen.add 1, handed := m.pos, answer := some true } := by
  unfold M.exec
  rw [h0]
  simp only [show ops[1]? = some Op.SUCCESS from rfl, hw, hm, Bool.false_and, Bool.or_self, Bool.and_false, Bool.false_eq_true, if_false]
  rfl
theorem exec_mark {i : Nat} (h0 : m.word 0 = 17) (h1 : m.word 1 = i) (hl : (i : Int) ≤ m.lastmark + 1) :
    m.exec = { m with seen := m.seen.add 17, marks := m.marks.setIfInBounds i (some m.pos), lastmark := max m.lastmark i, lastindex := if i % 2 == 1 then (i / 2 + 1 : Nat) else m.lastindex, pc := m.pc + 2 } := by
  unfold M.exec
  rw [h0]
  simp only [show ops[17]? = some Op.MARK from rfl]
  have e : ({ m with seen := m.seen.add 17 } : M).word 1 = i := h1
  rw [e]
  unfold M.mark
  simp only [hl, if_true]
theorem exec_jump {i : Nat} (h0 : m.word 0 = 15) (h1 : m.word 1 = i) : m.exec = { m with seen := m.seen.add 15, pc := m.pc + 1 + i } := by
  unfold M.exec
  rw [h0]
  simp only [show ops[15]? = some Op.JUMP from rfl]
  have e : ({ m with seen := m.seen.add 15 } : M).word 1 = i := h1
  rw [e]

theorem run_any {code text : Array Nat} {i : Nat} (hc : code.getD i 0 = 2) : ∀ (n p found : Nat) (sn : Sre.Seen), (∀ k, k < n → text.getD (p + k) 0 ≠ 10) → Sre.run code text i n p found sn = .ok (found + n, sn)
  | 0, p, found, sn, _ => rfl
  | n + 1, p, found, sn, h => by
    rw [Sre.run]
    have e : accepts code i (text.getD p 0) sn = .ok (true, sn) := by
      unfold accepts
      rw [hc]
      simp only [show ops[2]? = some Op.ANY from rfl]
      have := h 0 (Nat.succ_pos _)
      rw [Nat.add_zero] at this
      rw [bne_iff_ne.mpr this]
    rw [e]
    simp only [Bind.bind, Except.bind, if_true]
    rw [run_any hc n (p + 1) (found + 1) sn fun k hk => by
      have := h (k + 1) (Nat.succ_lt_succ hk)
      rw [show p + 1 + k = p + (k + 1) by omega]; exact this]
    rw [show found + 1 + n = found + (n + 1) by omega]
theorem run_not {code text : Array Nat} {i c : Nat} (hc : code.getD i 0 = 20) (hc1 : code.getD (i + 1) 0 = c) : ∀ (n p found j : Nat) (sn : Sre.Seen), j ≤ n → (∀ k, k < j → text.getD (p + k) 0 ≠ c) → (j < n → text.getD (p + j) 0 = c) → Sre.run code text i n p found sn = .ok (found + j, sn)
  | 0, p, found, j, sn, hj, _, _ => by
    have : j = 0 := Nat.le_zero.mp hj
    subst this; rfl
  | n + 1, p, found, j, sn, hj, h, hs => by
    rw [Sre.run]
    have e : accepts code i (text.getD p 0) sn = .ok (text.getD p 0 != c, sn) := by
      unfold accepts
      rw [hc, hc1]
      simp only [show ops[20]? = some Op.NOT_LITERAL from rfl]
    rw [e]
    simp only [Bind.bind, Except.bind]
    cases j with
    | zero =>
      have := hs (Nat.succ_pos _)
      rw [Nat.add_zero] at this
      rw [this, if_neg (by simp)]
      rfl
    | succ j =>
      have := h 0 (Nat.succ_pos _)
      rw [Nat.add_zero] at this
      rw [if_pos (bne_iff_ne.mpr this), run_not hc hc1 n (p + 1) (found + 1) j sn (Nat.le_of_succ_le_succ hj) (fun k hk => by
        have := h (k + 1) (Nat.succ_lt_succ hk)
        rw [show p + 1 + k = p + (k + 1) by omega]; exact this) (fun hjn => by
        have := hs (Nat.succ_lt_succ hjn)
        rw [show p + 1 + j = p + (j + 1) by omega]; exact this)]
      rw [show found + 1 + j = found + (j + 1) by omega]

/-- a greedy run of one character, from nought on -/
theorem exec_repeat {most nx n : Nat} {sn : Sre.Seen} (h0 : m.word 0 = 24) (h1 : m.word 1 = nx) (h2 : m.word 2 = 0) (h3 : m.word 3 = most) (hin : m.inner = none) (hw : m.weight + 1 ≤ 16777216) (hpos : m.pos ≤ m.lim)
    (hr : Sre.run m.code m.text (m.pc + 4) (min most (m.lim - m.pos)) m.pos 0 ((m.seen.add 24).add (m.word 4)) = .ok (n, sn)) :
    m.exec = { m with seen := sn, pos := m.pos + n, pc := m.pc + 1 + nx, handed := m.pos + n, weight := m.weight + 1, frames := (⟨.giveBack, m.pc, m.pos + n, m.outermost, n, { lastmark := m.lastmark, lastindex := m.lastindex }, 0, none⟩ : Sre.Frame) :: m.frames } := by
  unfold M.exec
  rw [h0]
  simp only [show ops[24]? = some Op.REPEAT_ONE from rfl]
  have e2 : ({ m with seen := m.seen.add 24 } : M).word 2 = 0 := h2
  have e3 : ({ m with seen := m.seen.add 24 } : M).word 3 = most := h3
  have e4 : ({ m with seen := m.seen.add 24 } : M).word 4 = m.word 4 := rfl
  rw [e2, e3, e4]
  have hroom : ¬ (((0 : Nat) : Int) > (m.lim : Int) - m.pos) := by omega
  have ht : ((m.lim : Int) - m.pos).toNat = m.lim - m.pos := by omega
  rw [if_neg hroom, ht]
  simp only [Bool.false_eq_true, if_false]
  rw [hr]
  simp only [Nat.not_lt_zero, if_false]
  unfold M.afterRun
  have e1 : ({ m with seen := sn, pos := m.pos + n } : M).word 1 = nx := h1
  rw [e1]
  unfold M.attempt M.keep M.frame
  simp only [hin, Option.isSome_none, Bool.false_eq_true, if_false]
  rw [if_neg (by show ¬ (m.weight + 1 + 0 > 16777216); omega)]
  rfl

theorem step_end {b : Bool} (ho : m.outcome = none) (ha : m.answer = some b) (hf : m.frames = []) : m.step.outcome = some (if b then .matched else .failed) ∧ m.step = { m with outcome := some (if b then .matched else .failed) } := by
  unfold M.step
  rw [ho, ha, hf]
  exact ⟨rfl, rfl⟩
theorem step_give_yes {f : Sre.Frame} {rest : List Sre.Frame} (ho : m.outcome = none) (ha : m.answer = some true) (hf : m.frames = f :: rest) (hw : f.wait = .giveBack) (hk : f.kept.marks = #[]) :
    m.step = { m with answer := some true, frames := rest, weight := m.weight - 1, pc := f.pc, pos := f.pos, outermost := f.outermost } := by
  unfold M.step
  rw [ho, ha, hf]
  simp only [Option.isSome_none, Bool.false_eq_true, if_false]
  unfold M.resume
  rw [hw, hk]
  rfl
theorem step_give_no {pc pos nx : Nat} {outermost : Bool} {count lm li : Int} {rest : List Sre.Frame} (ho : m.outcome = none) (ha : m.answer = some false) (hf : m.frames = ⟨.giveBack, pc, pos, outermost, count, { lastmark := lm, lastindex := li }, 0, none⟩ :: rest)
    (h2 : m.code.getD (pc + 2) 0 = 0) (h1 : m.code.getD (pc + 1) 0 = nx) (hc : 1 ≤ count) (hw : m.weight ≤ 1000) :
    m.step = { m with answer := none, frames := ⟨.giveBack, pc, pos - 1, outermost, count - 1, { lastmark := lm, lastindex := li }, 0, none⟩ :: rest, weight := m.weight - 1 + 1, pc := pc + 1 + nx, pos := pos - 1, handed := pos - 1, outermost := outermost, lastmark := lm, lastindex := li } := by
  unfold M.step
  rw [ho, ha, hf]
  simp only [Option.isSome_none, Bool.false_eq_true, if_false]
  unfold M.resume
  simp only [M.word, M.putBack, Bool.false_eq_true, if_false]
  rw [h2, if_neg (by show ¬ (count - 1 < ((0 : Nat) : Int)); omega)]
  unfold M.afterRun M.attempt M.frame
  simp only [M.word, h1]
  rw [if_neg (by show ¬ (m.weight - (1 + 0) + 1 + 0 > 16777216); omega)]
  rfl
theorem step_give_out {pc pos : Nat} {outermost : Bool} {count lm li : Int} {rest : List Sre.Frame} (ho : m.outcome = none) (ha : m.answer = some false) (hf : m.frames = ⟨.giveBack, pc, pos, outermost, count, { lastmark := lm, lastindex := li }, 0, none⟩ :: rest)
    (h2 : m.code.getD (pc + 2) 0 = 0) (hc : count = 0) :
    m.step = { m with answer := some false, frames := rest, weight := m.weight - 1, pc := pc, pos := pos, outermost := outermost, lastmark := lm, lastindex := li } := by
  unfold M.step
  rw [ho, ha, hf]
  simp only [Option.isSome_none, Bool.false_eq_true, if_false]
  unfold M.resume
  simp only [M.word, M.putBack, Bool.false_eq_true, if_false]
  rw [h2, if_pos (by show count - 1 < ((0 : Nat) : Int); omega)]
  rfl

/-- written-out characters -/
noncomputable def Lits (code : Array Nat) : Nat → List Nat → Prop
  | _, [] => True
  | pc, c :: cs => code.getD pc 0 = 16 ∧ code.getD (pc + 1) 0 = c ∧ pc < code.size ∧ Lits code (pc + 2) cs
noncomputable def Reads' (text : Array Nat) (lim : Nat) : Nat → List Nat → Prop
  | _, [] => True
  | pos, c :: cs => (pos < lim ∧ text.getD pos 0 = c) ∧ Reads' text lim (pos + 1) cs
theorem go_lits_yes : ∀ (cs : List Nat) (m : M), m.outcome = none → m.answer = none → Lits m.code m.pc cs → Reads' m.text m.lim m.pos cs →
    Goes cs.length m fun m' => ∃ sn, m' = { m with seen := sn, pc := m.pc + 2 * cs.length, pos := m.pos + cs.length }
  | [], m, _, _, _, _ => .here ⟨m.seen, rfl⟩
  | c :: cs, m, ho, ha, ⟨h0, h1, hp, hl⟩, ⟨ht, hr⟩ => by
    refine .step ?_
    rw [step_exec ho ha hp, exec_lit (c := c) h0 h1, if_pos ht]
    refine (go_lits_yes cs { m with seen := m.seen.add 16, pc := m.pc + 2, pos := m.pos + 1 } ho ha hl hr).mono fun m' ⟨sn, e⟩ => ⟨sn, ?_⟩
    rw [e]
    simp only [List.length_cons]
    congr 1 <;> omega
theorem go_lits_no : ∀ (cs : List Nat) (m : M), m.outcome = none → m.answer = none → Lits m.code m.pc cs → ¬ Reads' m.text m.lim m.pos cs →
    Goes cs.length m fun m' => ∃ sn pc pos, m' = { m with seen := sn, pc := pc, pos := pos, answer := some false }
  | [], m, _, _, _, h => absurd trivial h
  | c :: cs, m, ho, ha, ⟨h0, h1, hp, hl⟩, h => by
    refine .step ?_
    rw [step_exec ho ha hp, exec_lit (c := c) h0 h1]
    by_cases ht : m.pos < m.lim ∧ m.text.getD m.pos 0 = c
    · rw [if_pos ht]
      refine (go_lits_no cs { m with seen := m.seen.add 16, pc := m.pc + 2, pos := m.pos + 1 } ho ha hl fun hr => h ⟨ht, hr⟩).mono fun m' ⟨sn, pc, pos, e⟩ => ⟨sn, pc, pos, ?_⟩
      rw [e]
    · rw [if_neg ht]
      exact (Goes.here ⟨_, m.pc, m.pos, rfl⟩).more (Nat.zero_le _)
end
end Mine
end

section
open PySem PySem.W PyProof.Rows PySem.Calls PySem.SeqAt
namespace Mine
open PySem.Sre

noncomputable def fword : List Nat := [70, 76, 65, 71, 83, 32, 40]
noncomputable def FL (text : Array Nat) (sn : Sre.Seen) (p : Nat) : M := { code := fcode, text := text, lim := text.size, start := 0, pc := 11, pos := p, handed := p, marks := #[none, none], frames := [⟨.giveBack, 5, p, true, p, { lastmark := -1, lastindex := -1 }, 0, none⟩], weight := 1, seen := sn }
theorem flits : Lits fcode 11 fword := by
  refine ⟨rfl, rfl, by decide, rfl, rfl, by decide, rfl, rfl, by decide, rfl, rfl, by decide, rfl, rfl, by decide, rfl, rfl, by decide, rfl, rfl, by decide, trivial⟩
theorem flags_init (text : Array Nat) (h : 8 ≤ text.size) : Sre.forMatch fcode text 1 0 text.size false false = { code := fcode, text := text, lim := text.size, start := 0, pc := 5, pos := 0, handed := 0, marks := #[none, none], seen := ({} : Sre.Seen).add 14 } := by
  unfold Sre.forMatch
  have e : (Sre.header fcode).1 = 8 := rfl
  simp only [e]
  rw [if_neg (by simp; omega)]
  rfl
theorem flags_start (text : Array Nat) (sn : Sre.Seen) (hn : ∀ k, k < text.size → text.getD k 0 ≠ 10) (hs : text.size ≤ 1000) :
    Goes 1 ({ code := fcode, text := text, lim := text.size, start := 0, pc := 5, pos := 0, handed := 0, marks := #[none, none], seen := sn } : M) fun m' => ∃ sn', m' = FL text sn' text.size := by
  refine .step ?_
  rw [step_exec rfl rfl (by show 5 < 39; decide)]
  have hr := run_any (code := fcode) (text := text) (i := 5 + 4) rfl (min 4294967295 (text.size - 0)) 0 0 ((sn.add 24).add 2) (fun k hk => by rw [Nat.zero_add]; exact hn k (by omega))
  rw [Nat.zero_add] at hr
  have hmin : min 4294967295 (text.size - 0) = text.size := by omega
  rw [exec_repeat (most := 4294967295) (nx := 5) rfl rfl rfl rfl rfl (by show 0 + 1 ≤ 16777216; decide) (Nat.zero_le _) hr]
  refine .here ⟨(sn.add 24).add 2, ?_⟩
  simp only [hmin]
  unfold FL
  simp only [Nat.zero_add]
theorem flags_down (text : Array Nat) : ∀ (d p : Nat) (sn : Sre.Seen), (∀ p', p < p' → p' ≤ p + d → ¬ Reads' text text.size p' fword) → Goes (8 * d) (FL text sn (p + d)) fun m' => ∃ sn', m' = FL text sn' p
  | 0, p, sn, _ => .here ⟨sn, rfl⟩
  | d + 1, p, sn, h => by
    have h1 := go_lits_no fword (FL text sn (p + (d + 1))) rfl rfl flits (h (p + (d + 1)) (by omega) (Nat.le_refl _))
    have h2 : Goes (7 + 1) (FL text sn (p + (d + 1))) fun m' => ∃ sn', m' = FL text sn' (p + d) := h1.trans fun m' ⟨sn1, pc1, pos1, e⟩ => by
      refine .step (.here ⟨sn1, ?_⟩)
      rw [e, step_give_no (pc := 5) (pos := p + (d + 1)) (nx := 5) (outermost := true) (count := (p + (d + 1) : Nat)) (lm := -1) (li := -1) (rest := []) rfl rfl rfl rfl rfl (by omega) (by show 1 ≤ 1000; decide)]
      unfold FL
      have e1 : ((p + (d + 1) : Nat) : Int) - 1 = ((p + d : Nat) : Int) := by omega
      have e2 : p + (d + 1) - 1 = p + d := by omega
      rw [e1, e2]
      rfl
    refine (h2.trans fun m' ⟨sn', e⟩ => by rw [e]; exact flags_down text d p sn' fun p' a b => h p' a (by omega)).more (by omega)
theorem Goes.fin {m : M} {b : Bool} {P : M → Prop} (ho : m.outcome = none) (ha : m.answer = some b) (hf : m.frames = []) (h : P { m with outcome := some (if b then .matched else .failed) }) : Goes 1 m P := by
  refine .step (.here ?_)
  rw [(step_end ho ha hf).2]
  exact h
theorem flags_none (text : Array Nat) (h : ∀ p, ¬ Reads' text text.size p fword) (sn : Sre.Seen) : Goes (8 * text.size + 9) (FL text sn text.size) fun m' => m'.outcome = some .failed := by
  have h0 := flags_down text text.size 0 sn fun p' _ _ => h p'
  rw [Nat.zero_add] at h0
  refine (h0.trans (b := 9) fun m' ⟨sn', e⟩ => ?_)
  rw [e]
  refine ((go_lits_no fword (FL text sn' 0) rfl rfl flits (h 0)).trans (b := 2) fun m1 ⟨sn1, pc1, pos1, e1⟩ => ?_)
  refine .step ?_
  rw [e1, step_give_out (pc := 5) (pos := 0) (outermost := true) (count := (0 : Nat)) (lm := -1) (li := -1) (rest := []) rfl rfl rfl rfl rfl]
  exact Goes.fin (b := false) rfl rfl rfl rfl
theorem flags_some (text : Array Nat) (p q : Nat) (hs : text.size ≤ 1000) (hp : Reads' text text.size p fword) (hl : p + 7 ≤ q) (hq : q < text.size) (hb : ∀ k, p + 7 ≤ k → k < q → text.getD k 0 ≠ 41) (hc : text.getD q 0 = 41) (sn : Sre.Seen) :
    Goes 20 (FL text sn p) fun m' => m'.outcome = some .matched ∧ m'.start = 0 ∧ m'.lastmark = 1 ∧ m'.marks = #[some (p + 7), some q] := by
  refine ((go_lits_yes fword (FL text sn p) rfl rfl flits hp).trans (b := 13) fun m1 ⟨sn1, e1⟩ => ?_)
  have e1' : m1 = { FL text sn1 p with pc := 25, pos := p + 7 } := e1
  rw [e1']
  refine .more (b := 13) (a := 8) ?_ (by decide)
  refine .step ?_
  rw [step_exec rfl rfl (by show 25 < 39; decide), exec_mark (i := 0) rfl rfl (by show ((0 : Nat) : Int) ≤ -1 + 1; decide)]
  refine .step ?_
  rw [step_exec rfl rfl (by show 27 < 39; decide)]
  have hr := fun sn => run_not (code := fcode) (text := text) (i := 27 + 4) (c := 41) rfl rfl (min 4294967295 (text.size - (p + 7))) (p + 7) 0 (q - (p + 7)) sn (by omega) (fun k hk => hb _ (by omega) (by omega)) (fun _ => by rw [show p + 7 + (q - (p + 7)) = q by omega]; exact hc)
  rw [exec_repeat (most := 4294967295) (nx := 6) (n := q - (p + 7)) rfl rfl rfl rfl rfl (by show 1 + 1 ≤ 16777216; decide) (by show p + 7 ≤ text.size; omega) (by
    have := hr (((sn1.add 17).add 24).add 20)
    rw [Nat.zero_add] at this
    exact this)]
  refine .step ?_
  rw [step_exec rfl rfl (by show 34 < 39; decide), exec_mark (i := 1) rfl rfl (by show ((1 : Nat) : Int) ≤ max (-1) ((0 : Nat) : Int) + 1; decide)]
  refine .step ?_
  have hpos : p + 7 + (q - (p + 7)) = q := by omega
  rw [step_exec rfl rfl (by show 36 < 39; decide), exec_lit (c := 41) rfl rfl, if_pos ⟨by show p + 7 + (q - (p + 7)) < text.size; omega, by show text.getD (p + 7 + (q - (p + 7))) 0 = 41; rw [hpos]; exact hc⟩]
  refine .step ?_
  rw [step_exec rfl rfl (by show 38 < 39; decide), exec_success rfl rfl rfl]
  refine .step ?_
  rw [step_give_yes rfl rfl rfl rfl rfl]
  refine .step ?_
  rw [step_give_yes rfl rfl rfl rfl rfl]
  refine Goes.fin (b := true) rfl rfl rfl ?_
  refine ⟨rfl, rfl, rfl, ?_⟩
  show (#[none, none].setIfInBounds 0 (some (p + 7))).setIfInBounds 1 (some (p + 7 + (q - (p + 7)))) = _
  rw [hpos]
  rfl
end Mine
end

section
open PySem PySem.W PyProof.Rows PySem.Calls PySem.SeqAt
namespace Mine
open PySem.Sre

theorem exec_lit_yes {m : M} {c : Nat} (h0 : m.word 0 = 16) (h1 : m.word 1 = c) (h : m.pos < m.lim ∧ m.text.getD m.pos 0 = c) : m.exec = { m with seen := m.seen.add 16, pc := m.pc + 2, pos := m.pos + 1 } := by rw [exec_lit h0 h1, if_pos h]
theorem exec_lit_no {m : M} {c : Nat} (h0 : m.word 0 = 16) (h1 : m.word 1 = c) (h : ¬ (m.pos < m.lim ∧ m.text.getD m.pos 0 = c)) : m.exec = { m with seen := m.seen.add 16, answer := some false } := by rw [exec_lit h0 h1, if_neg h]
theorem exec_at_yes {m : M} (h0 : m.word 0 = 6) (h1 : m.word 1 = 1) (h : m.pos = 0 ∨ m.text.getD (m.pos - 1) 0 = 10) : m.exec = { m with seen := (m.seen.add 6).add 44, pc := m.pc + 2 } := by rw [exec_at1 h0 h1, if_pos h]
theorem exec_at_no {m : M} (h0 : m.word 0 = 6) (h1 : m.word 1 = 1) (h : ¬ (m.pos = 0 ∨ m.text.getD (m.pos - 1) 0 = 10)) : m.exec = { m with seen := (m.seen.add 6).add 44, answer := some false } := by rw [exec_at1 h0 h1, if_neg h]

/-! ## dots at the lines' beginnings -/
noncomputable def DS (text : Array Nat) (sn : Sre.Seen) (s : Nat) (first : Bool) : M := { code := dcode, text := text, lim := text.size, start := s, lastStart := text.size, pc := 5, pos := s, handed := s, outermost := first, marks := #[], frames := [⟨.nextStart, 5, s, first, 0, {}, 0, none⟩], weight := 1, seen := sn }
noncomputable def DotAt (text : Array Nat) (k : Nat) : Prop := (k = 0 ∨ text.getD (k - 1) 0 = 10) ∧ k < text.size ∧ text.getD k 0 = 46
theorem dot_init (text : Array Nat) (s : Nat) (h : s < text.size) : Sre.forSearch dcode text 0 s text.size false = DS text (({} : Sre.Seen).add 14) s true := by
  unfold Sre.forSearch
  have e : (Sre.header dcode).1 = 1 := rfl
  simp only [e]
  rw [if_neg (by simp; omega)]
  rfl
theorem dot_init_end (text : Array Nat) (sn : Sre.Seen) : Goes 1 (Sre.forSearch dcode text 0 text.size text.size false) fun m' => m'.outcome = some .failed := by
  unfold Sre.forSearch
  have e : (Sre.header dcode).1 = 1 := rfl
  simp only [e]
  rw [if_pos (by simp)]
  exact Goes.fin (b := false) rfl rfl rfl rfl
theorem dot_fail {text : Array Nat} {sn : Sre.Seen} {s : Nat} {f : Bool} (h : ¬ DotAt text s) : Goes 2 (DS text sn s f) fun m' => ∃ sn' pc, m' = { DS text sn' s f with pc := pc, answer := some false } := by
  refine .step ?_
  by_cases h1 : s = 0 ∨ text.getD (s - 1) 0 = 10
  · rw [step_exec rfl rfl (by show 5 < 10; decide), exec_at_yes rfl rfl h1]
    refine .step ?_
    rw [step_exec rfl rfl (by show 7 < 10; decide), exec_lit_no (c := 46) rfl rfl (fun q => h ⟨h1, q.1, q.2⟩)]
    exact .here ⟨((sn.add 6).add 44).add 16, 7, rfl⟩
  · rw [step_exec rfl rfl (by show 5 < 10; decide), exec_at_no rfl rfl h1]
    exact (Goes.here ⟨(sn.add 6).add 44, 5, rfl⟩).more (Nat.zero_le _)
theorem dot_next {text : Array Nat} {sn : Sre.Seen} {s : Nat} {f : Bool} (h : ¬ DotAt text s) (hs : s < text.size) : Goes 3 (DS text sn s f) fun m' => ∃ sn', m' = DS text sn' (s + 1) false := by
  refine (dot_fail h).trans (b := 1) fun m' ⟨sn', pc, e⟩ => ?_
  rw [e]
  refine .step (.here ⟨sn', ?_⟩)
  show (if s < text.size then _ else _) = _
  rw [if_pos hs]
  rfl
theorem dot_over {text : Array Nat} {sn : Sre.Seen} {f : Bool} (h : ¬ DotAt text text.size) : Goes 4 (DS text sn text.size f) fun m' => m'.outcome = some .failed := by
  refine (dot_fail h).trans (b := 2) fun m' ⟨sn', pc, e⟩ => ?_
  rw [e]
  refine .step ?_
  have : ({ DS text sn' text.size f with pc := pc, answer := some false } : M).step = { DS text sn' text.size f with frames := [], weight := 0, pc := 5, answer := some false } := by
    show (if text.size < text.size then _ else _) = _
    rw [if_neg (Nat.lt_irrefl _)]
    rfl
  rw [this]
  exact Goes.fin (b := false) rfl rfl rfl rfl
theorem dot_hit {text : Array Nat} {sn : Sre.Seen} {s : Nat} {f : Bool} (h : DotAt text s) : Goes 5 (DS text sn s f) fun m' => m'.outcome = some .matched ∧ m'.start = s ∧ m'.handed = s + 1 := by
  refine .step ?_
  rw [step_exec rfl rfl (by show 5 < 10; decide), exec_at_yes rfl rfl h.1]
  refine .step ?_
  rw [step_exec rfl rfl (by show 7 < 10; decide), exec_lit_yes (c := 46) rfl rfl h.2]
  refine .step ?_
  rw [step_exec rfl rfl (by show 9 < 10; decide), exec_success rfl rfl rfl]
  refine .step ?_
  exact Goes.fin (b := true) rfl rfl rfl ⟨rfl, rfl, rfl⟩
theorem dot_walk {text : Array Nat} : ∀ (d s : Nat) (sn : Sre.Seen) (f : Bool), s + d ≤ text.size → (∀ k, s ≤ k → k < s + d → ¬ DotAt text k) → Goes (3 * d) (DS text sn s f) fun m' => ∃ sn' f', m' = DS text sn' (s + d) f'
  | 0, s, sn, f, _, _ => .here ⟨sn, f, rfl⟩
  | d + 1, s, sn, f, hs, h => by
    refine ((dot_next (h s (Nat.le_refl _) (by omega)) (by omega)).trans (b := 3 * d) fun m' ⟨sn', e⟩ => ?_).more (by omega)
    rw [e]
    refine (dot_walk d (s + 1) sn' false (by omega) fun k h1 h2 => h k (by omega) (by omega)).mono fun m' ⟨sn2, f2, e2⟩ => ⟨sn2, f2, ?_⟩
    rw [e2, show s + 1 + d = s + (d + 1) by omega]
/-- the next dot -/
theorem dot_find {text : Array Nat} {s p : Nat} (hsp : s ≤ p) (hp : DotAt text p) (h : ∀ k, s ≤ k → k < p → ¬ DotAt text k) :
    Goes (3 * text.size + 5) (Sre.forSearch dcode text 0 s text.size false) fun m' => m'.outcome = some .matched ∧ m'.start = p ∧ m'.handed = p + 1 := by
  have := hp.2.1
  rw [dot_init text s (by omega)]
  refine ((dot_walk (p - s) s _ true (by omega) fun k h1 h2 => h k h1 (by omega)).trans (b := 5) fun m' ⟨sn', f', e⟩ => ?_).more (by omega)
  rw [e, show s + (p - s) = p by omega]
  exact dot_hit hp
theorem dot_none {text : Array Nat} {s : Nat} (hs : s ≤ text.size) (h : ∀ k, s ≤ k → ¬ DotAt text k) :
    Goes (3 * text.size + 5) (Sre.forSearch dcode text 0 s text.size false) fun m' => m'.outcome = some .failed := by
  by_cases hl : s = text.size
  · rw [hl]; exact (dot_init_end text {}).more (by omega)
  · rw [dot_init text s (by omega)]
    refine ((dot_walk (text.size - s) s _ true (by omega) fun k h1 h2 => h k h1).trans (b := 4) fun m' ⟨sn', f', e⟩ => ?_).more (by omega)
    rw [e, show s + (text.size - s) = text.size by omega]
    exact dot_over (h _ hs)

/-! ## line ends -/
noncomputable def ES (text : Array Nat) (sn : Sre.Seen) (s : Nat) (first : Bool) : M := { code := ecode, text := text, lim := text.size, start := s, lastStart := text.size, pc := 10, pos := s, handed := s, outermost := first, marks := #[], frames := [⟨.nextStart, 10, s, first, 0, {}, 0, none⟩], weight := 1, seen := sn }
/-- an alternative tried at s -/
noncomputable def EB (text : Array Nat) (sn : Sre.Seen) (s : Nat) (first : Bool) (alt : Nat) (pc pos hd : Nat) (ans : Option Bool) : M := { code := ecode, text := text, lim := text.size, start := s, lastStart := text.size, pc := pc, pos := pos, handed := hd, outermost := first, marks := #[], frames := [⟨.nextBranch, alt, s, first, 0, kept0, 0, none⟩, ⟨.nextStart, 10, s, first, 0, {}, 0, none⟩], weight := 2, seen := sn, answer := ans }
theorem inSet_e (c : Nat) (sn : Sre.Seen) : ∃ sn', Sre.inSet ecode c ecode.size 5 true sn = .ok (c == 10 || c == 13, sn') := by
  have e : Sre.inSet ecode c ecode.size 5 true sn = (if (c == 10) = true then .ok (true, sn.add 16) else if (c == 13) = true then .ok (true, (sn.add 16).add 16) else .ok (!true, ((sn.add 16).add 16).add 0)) := by kernel_rfl
  rw [e]
  cases c == 10 <;> cases c == 13 <;> exact ⟨_, rfl⟩
theorem admitted_hit {m : M} (hc : m.code = ecode) {f s : Nat} {sn : Sre.Seen} (hs : s < m.lim) (h : m.text.getD s 0 = 10 ∨ m.text.getD s 0 = 13) : ∃ sn', Sre.M.admitted m (f + 1) s sn = .ok (some s, sn') := by
  rw [Sre.M.admitted, if_neg (by show ¬ (m.lim ≤ s); omega), hc]
  obtain ⟨sn', e⟩ := inSet_e (m.text.getD s 0) sn
  rw [e]
  have : (m.text.getD s 0 == 10 || m.text.getD s 0 == 13) = true := by simpa using h
  rw [this]
  exact ⟨sn', rfl⟩
theorem admitted_skip {m : M} (hc : m.code = ecode) {f s : Nat} {sn : Sre.Seen} (hs : s < m.lim) (h : ¬ (m.text.getD s 0 = 10 ∨ m.text.getD s 0 = 13)) : ∃ sn', Sre.M.admitted m (f + 1) s sn = Sre.M.admitted m f (s + 1) sn' := by
  rw [Sre.M.admitted, if_neg (by show ¬ (m.lim ≤ s); omega), hc]
  obtain ⟨sn', e⟩ := inSet_e (m.text.getD s 0) sn
  rw [e]
  have : (m.text.getD s 0 == 10 || m.text.getD s 0 == 13) = false := by
    rw [not_or] at h
    rw [Bool.or_eq_false_iff]; exact ⟨beq_eq_false_iff_ne.mpr h.1, beq_eq_false_iff_ne.mpr h.2⟩
  rw [this]
  exact ⟨sn', rfl⟩
/-- one sign, then a line end -/
theorem eol_init (text : Array Nat) (s : Nat) (h : s + 1 < text.size) (h1 : ¬ (text.getD s 0 = 10 ∨ text.getD s 0 = 13)) (h2 : text.getD (s + 1) 0 = 10 ∨ text.getD (s + 1) 0 = 13) :
    ∃ sn, Sre.forSearch ecode text 0 s text.size false = ES text sn (s + 1) true := by
  unfold Sre.forSearch
  have e : (Sre.header ecode).1 = 1 := rfl
  simp only [e]
  rw [if_neg (by simp; omega)]
  show ∃ sn, Sre.M.attemptFrom ({ code := ecode, text := text, lim := text.size, start := s, pc := 10, pos := s, handed := s, marks := #[], seen := ({} : Sre.Seen).add 14, lastStart := text.size } : M) s true = ES text sn (s + 1) true
  unfold Sre.M.attemptFrom
  rw [if_neg (show ¬ ((!Sre.M.hasFirstSet ({ code := ecode, text := text, lim := text.size, start := s, pc := 10, pos := s, handed := s, marks := #[], seen := ({} : Sre.Seen).add 14, lastStart := text.size } : M)) = true) from Bool.false_ne_true)]
  have hk : text.size + 1 - s = (text.size - 1 - s) + 1 + 1 := by omega
  obtain ⟨sn1, e1⟩ := admitted_skip (m := { code := ecode, text := text, lim := text.size, start := s, pc := 10, pos := s, handed := s, marks := #[], seen := ({} : Sre.Seen).add 14, lastStart := text.size }) rfl (f := text.size - 1 - s + 1) (sn := ({} : Sre.Seen).add 14) (show s < text.size by omega) h1
  obtain ⟨sn2, e2⟩ := admitted_hit (m := { code := ecode, text := text, lim := text.size, start := s, pc := 10, pos := s, handed := s, marks := #[], seen := ({} : Sre.Seen).add 14, lastStart := text.size }) rfl (f := text.size - 1 - s) (sn := sn1) (show s + 1 < text.size by omega) h2
  rw [← hk, e2] at e1
  refine ⟨sn2, ?_⟩
  have e1' : Sre.M.admitted ({ code := ecode, text := text, lim := text.size, start := s, pc := 10, pos := s, handed := s, marks := #[], seen := ({} : Sre.Seen).add 14, lastStart := text.size } : M) (text.size + 1 - s) s (({} : Sre.Seen).add 14) = .ok (some (s + 1), sn2) := e1
  show (match Sre.M.admitted ({ code := ecode, text := text, lim := text.size, start := s, pc := 10, pos := s, handed := s, marks := #[], seen := ({} : Sre.Seen).add 14, lastStart := text.size } : M) (text.size + 1 - s) s (({} : Sre.Seen).add 14) with
    | .ok (some s, seen) => _ | .ok (none, seen) => _ | .error why => _) = _
  rw [e1']
  rfl
theorem eol_end (text : Array Nat) : Goes 1 (Sre.forSearch ecode text 0 text.size text.size false) fun m' => m'.outcome = some .failed := by
  unfold Sre.forSearch
  have e : (Sre.header ecode).1 = 1 := rfl
  simp only [e]
  rw [if_pos (by simp)]
  exact Goes.fin (b := false) rfl rfl rfl rfl
section
variable {text : Array Nat} {sn : Sre.Seen} {s : Nat} {f : Bool}
theorem e_branch : (ES text sn s f).step = EB text (sn.add 7) s f 11 12 s s none := rfl
theorem e_fin {alt pos hd : Nat} : Goes 4 (EB text sn s f alt 35 pos hd none) fun m' => m'.outcome = some .matched ∧ m'.start = s ∧ m'.handed = pos := by
  refine .step ?_
  rw [step_exec rfl rfl (by show 35 < 36; decide), exec_success rfl rfl rfl]
  refine .step (.step ?_)
  exact Goes.fin (b := true) rfl rfl rfl ⟨rfl, rfl, rfl⟩
theorem e_next1 {pc pos hd : Nat} : (EB text sn s f 11 pc pos hd (some false)).step = EB text sn s f 18 19 s s none := rfl
theorem e_next2 {pc pos hd : Nat} : (EB text sn s f 18 pc pos hd (some false)).step = EB text sn s f 23 24 s s none := rfl
theorem eol_crlf (h : s + 1 < text.size) (h1 : text.getD s 0 = 13) (h2 : text.getD (s + 1) 0 = 10) : Goes 9 (ES text sn s f) fun m' => m'.outcome = some .matched ∧ m'.start = s ∧ m'.handed = s + 2 := by
  refine .step ?_
  rw [e_branch]
  refine .step ?_
  rw [step_exec rfl rfl (by show 12 < 36; decide), exec_lit_yes (c := 13) rfl rfl ⟨by show s < text.size; omega, h1⟩]
  refine .step ?_
  rw [step_exec rfl rfl (by show 14 < 36; decide), exec_lit_yes (c := 10) rfl rfl ⟨h, h2⟩]
  refine .step ?_
  rw [step_exec rfl rfl (by show 16 < 36; decide), exec_jump (i := 18) rfl rfl]
  exact (e_fin (alt := 11) (pos := s + 2) (hd := s)).more (by decide)
theorem eol_lf (h : s < text.size) (h1 : text.getD s 0 = 10) : Goes 9 (ES text sn s f) fun m' => m'.outcome = some .matched ∧ m'.start = s ∧ m'.handed = s + 1 := by
  refine .step ?_
  rw [e_branch]
  refine .step ?_
  rw [step_exec rfl rfl (by show 12 < 36; decide), exec_lit_no (c := 13) rfl rfl (fun q => by
    have : text.getD s 0 = 13 := q.2
    rw [h1] at this; cases this)]
  refine .step ?_
  refine Goes.more (b := 6) (a := 6) ?_ (Nat.le_refl _)
  have e : ({ EB text (sn.add 7) s f 11 12 s s none with seen := (sn.add 7).add 16, answer := some false } : M).step = EB text ((sn.add 7).add 16) s f 18 19 s s none := rfl
  show Goes 6 (M.step ({ EB text (sn.add 7) s f 11 12 s s none with seen := (sn.add 7).add 16, answer := some false } : M)) _
  rw [e]
  refine .step ?_
  rw [step_exec rfl rfl (by show 19 < 36; decide), exec_lit_yes (c := 10) rfl rfl ⟨h, h1⟩]
  refine .step ?_
  rw [step_exec rfl rfl (by show 21 < 36; decide), exec_jump (i := 13) rfl rfl]
  exact (e_fin (alt := 18) (pos := s + 1) (hd := s)).more (by decide)
/-- where the third way looks ahead -/
theorem eol_cr (h : s < text.size) (h1 : text.getD s 0 = 13) (h2 : ¬ (s + 1 < text.size ∧ text.getD (s + 1) 0 = 10)) : Goes 16 (ES text sn s f) fun m' => m'.outcome = some .matched ∧ m'.start = s ∧ m'.handed = s + 1 := by
  refine .step ?_
  rw [e_branch]
  refine .step ?_
  rw [step_exec rfl rfl (by show 12 < 36; decide), exec_lit_yes (c := 13) rfl rfl ⟨h, h1⟩]
  refine .step ?_
  rw [step_exec rfl rfl (by show 14 < 36; decide), exec_lit_no (c := 10) rfl rfl h2]
  refine .step ?_
  show Goes 12 (M.step (EB text (((sn.add 7).add 16).add 16) s f 11 14 (s + 1) s (some false))) _
  rw [e_next1]
  refine .step ?_
  rw [step_exec rfl rfl (by show 19 < 36; decide), exec_lit_no (c := 10) rfl rfl (fun q => by
    have : text.getD s 0 = 10 := q.2
    rw [h1] at this; cases this)]
  refine .step ?_
  show Goes 10 (M.step (EB text ((((sn.add 7).add 16).add 16).add 16) s f 18 19 s s (some false))) _
  rw [e_next2]
  refine .step ?_
  rw [step_exec rfl rfl (by show 24 < 36; decide), exec_lit_yes (c := 13) rfl rfl ⟨h, h1⟩]
  refine .step ?_
  have hA : ∀ sn : Sre.Seen, (EB text sn s f 23 26 (s + 1) s none).step = { EB text (sn.add 5) s f 23 29 (s + 1) (s + 1) none with outermost := false, frames := ⟨.lookNot, 26, s + 1, f, 0, kept0, 0, none⟩ :: (EB text sn s f 23 26 (s + 1) s none).frames, weight := 3 } := fun sn => by
    rw [step_exec rfl rfl (by show 26 < 36; decide)]
    unfold M.exec
    rfl
  show Goes 8 (M.step (EB text (((((sn.add 7).add 16).add 16).add 16).add 16) s f 23 26 (s + 1) s none)) _
  rw [hA]
  refine .step ?_
  rw [step_exec rfl rfl (by show 29 < 36; decide), exec_lit_no (c := 10) rfl rfl h2]
  refine .step ?_
  have hB : ∀ (sn : Sre.Seen) (sn2 : Sre.Seen), ({ EB text sn2 s f 23 29 (s + 1) (s + 1) (some false) with outermost := false, frames := ⟨.lookNot, 26, s + 1, f, 0, kept0, 0, none⟩ :: (EB text sn s f 23 26 (s + 1) s none).frames, weight := 3 } : M).step = EB text sn2 s f 23 32 (s + 1) (s + 1) none := fun sn sn2 => rfl
  show Goes 6 (M.step ({ EB text (((((((sn.add 7).add 16).add 16).add 16).add 16).add 5).add 16) s f 23 29 (s + 1) (s + 1) (some false) with outermost := false, frames := ⟨.lookNot, 26, s + 1, f, 0, kept0, 0, none⟩ :: (EB text sn s f 23 26 (s + 1) s none).frames, weight := 3 } : M)) _
  rw [hB]
  refine .step ?_
  rw [step_exec rfl rfl (by show 32 < 36; decide), exec_jump (i := 2) rfl rfl]
  exact (e_fin (alt := 23) (pos := s + 1) (hd := s + 1)).more (by decide)
end
end Mine
end

section
open PySem PySem.W PyProof.Rows PySem.Calls PySem.SeqAt
set_option maxRecDepth 100000
namespace Mine
open Builtin Builtin.Re

/-- a pattern -/
structure IsPat (h : Heap) (P : Addr) (want groups : Nat) (code : Array Nat) (gi : Value) : Prop where
  get : ∃ fs sl, h.get? P = some ⟨.type "re.Pattern", none, .fields fs, sl⟩ ∧ reRawNat (fs.getD 2 .none) = groups ∧ reRawNat (fs.getD 6 .none) = want ∧ fs.getD 3 .none = gi ∧
    ∃ C its, fs.getD 5 .none = .ref C ∧ h.IsTuple C its ∧ (its.map reRawOf).map (·.toNat) = code
theorem IsPat.keeps {h h' : Heap} {P : Addr} {want groups : Nat} {code : Array Nat} {gi : Value} (x : IsPat h P want groups code gi) (hk : ∀ b o, h.get? b = some o → h'.get? b = some o) : IsPat h' P want groups code gi := by
  obtain ⟨fs, sl, e, h2, h6, h3, C, its, h5, ht, hc⟩ := x.get
  exact ⟨fs, sl, hk _ _ e, h2, h6, h3, C, its, h5, ht.at fun o e => hk _ o e, hc⟩

section
variable {M : Model} {A : Around} {E : Value → Shared → Prop} {s : Shared}
theorem textOf_bytes {b : Array UInt8} {t : Tok} : reTextOf (.bytes b t) = pure (b.map (·.toNat), 1) := by
  unfold reTextOf
  rw [show asStr? (.bytes b t) = pure none from rfl, KBy.quiet_eq]
  rfl
theorem noColl_bytes {b : Array UInt8} {t : Tok} : reNoCollectionInside (.bytes b t) 1 = pure () := by
  unfold reNoCollectionInside
  rw [KBy.isInstance_eq]
  rfl
theorem items_wp {C : Addr} {its : Array Value} {Q : Array Int → Shared → Prop} (ht : s.heap.IsTuple C its) (h : Q (its.map reRawOf) s) : wpAny M A (reRawItems (.ref C)) Q E s := by
  obtain ⟨o, e, _, n, d⟩ := ht
  unfold reRawItems
  exact wpAny_bind (wpAny_seqItems e d (wpAny_pure h))
theorem target_bytes {P : Addr} {groups : Nat} {code : Array Nat} {gi : Value} {b : Array UInt8} {t : Tok} (hp : IsPat s.heap P 1 groups code gi) (hs : b.size < 2 ^ 63) {Q : ReTarget → Shared → Prop}
    (h : Q { pattern := .ref P, string := .bytes b t, code := code, text := b.map (·.toNat), kind := 1, groups := groups, pos := 0, lim := b.size } s) : wpAny M A (reTarget "re.Pattern.match" "match" ⟨[.ref P, .bytes b t], []⟩) Q E s := by
  obtain ⟨fs, sl, e, h2, h6, h3, C, its, h5, ht, hc⟩ := hp.get
  unfold reTarget
  dsimp only
  refine wpAny_bind (wpAny_of_eq (a := [some (Value.bytes b t), none, none]) (by kernel_rfl) ?_)
  dsimp only
  refine wpAny_bind (wpAny_pure (wpAny_bind (wpAny_pure ?_)))
  refine wpAny_bind (show wpAny _ _ (fieldsOf (.ref P)) _ _ _ from wpAny_bind (wpAny_load e (wpAny_pure ?_)))
  refine wpAny_bind (wpAny_of_eq textOf_bytes ?_)
  dsimp only
  rw [h6]
  rw [if_neg (by decide)]
  rw [if_neg (by decide)]
  refine wpAny_bind (wpAny_of_eq noColl_bytes ?_)
  rw [h5]
  refine wpAny_bind (items_wp ht (wpAny_pure ?_))
  rw [hc, h2]
  have e0 : min (0 : Int).toNat (b.map (·.toNat)).size = 0 := by simp
  have e1 : min ((2 : Int) ^ 63 - 1).toNat (b.map (·.toNat)).size = b.size := by
    rw [Array.size_map]
    have : ((2 : Int) ^ 63 - 1).toNat = 9223372036854775807 := by decide
    rw [this]; omega
  rw [e0, e1]
  exact h
end

theorem newMatch_wp {M : Model} {A : Around} {E : Value → Shared → Prop} {s : Shared} {pat str : Value} {pos lim p q : Nat} {m : Sre.M} (hm : m.marks = #[some p, some q]) (hl : m.lastmark = 1) (hpq : p ≤ q) {Q : Value → Shared → Prop}
    (h : ∀ f2 f3 f4 e0 e1, Q (.ref (s.heap.objs.size + 1)) { s with heap := (s.heap.push { cls := .type "tuple", data := .seq #[e0, e1, rawInt p, rawInt q] }).push { cls := .type "re.Match", data := .fields #[str, pat, f2, f3, f4, .ref s.heap.objs.size] } }) :
    wpAny M A (reNewMatch pat str 1 pos lim m) Q E s := by
  unfold reNewMatch
  rw [hm, hl]
  dsimp only
  rw [if_neg (by
    show ¬ ((decide (((2 * 0 + 1 : Nat) : Int) ≤ 1) && decide (q < p)) || false) = true
    have : decide (q < p) = false := decide_eq_false (by omega)
    rw [this]; decide)]
  refine wpAny_bind (wpAny_newTuple ?_ (by show 4 ≤ _; decide))
  refine wpAny_newObj_type ?_ (by show 6 ≤ _; decide)
  rw [Heap.size_push]
  exact h _ _ _ _ _

theorem match_some {P : Addr} {code : Array Nat} {gi : Value} {b : Array UInt8} {t : Tok} {p q n : Nat} (hs : b.size < 2 ^ 63) (hn : n ≤ 2 ^ 66) (hpq : p ≤ q)
    (hg : Goes n (Sre.forMatch code (b.map (·.toNat)) 1 0 b.size false false) fun m' => m'.outcome = some .matched ∧ m'.start = 0 ∧ m'.lastmark = 1 ∧ m'.marks = #[some p, some q]) :
    Meets («re.Pattern.match» ⟨[.ref P, .bytes b t], []⟩) (fun A R s => IsPat s.heap P 1 1 code gi ∧ ∀ f2 f3 f4 e0 e1, R (.ok (.ret (.ref (s.heap.objs.size + 1)))) { s with heap := (s.heap.push { cls := .type "tuple", data := .seq #[e0, e1, rawInt p, rawInt q] }).push { cls := .type "re.Match", data := .fields #[.bytes b t, .ref P, f2, f3, f4, .ref s.heap.objs.size] } }) := by
  refine .of_wp fun prog w A R s hS => ?_
  obtain ⟨hp, h⟩ := hS
  obtain ⟨k, hk, ho, _, hl, hm⟩ := hg
  unfold «re.Pattern.match»
  refine wpAny_bind (target_bytes hp hs ?_)
  unfold reAnswer
  refine wpAny_bind (run_end (b := true) (n := k) (by rw [if_pos rfl]; exact ho) (Nat.le_trans hk hn) ?_)
  rw [if_pos rfl]
  exact wpAny_bind (newMatch_wp hm hl hpq fun f2 f3 f4 e0 e1 => wpAny_pure ⟨_, rfl, h f2 f3 f4 e0 e1⟩)
theorem match_none {P : Addr} {code : Array Nat} {gi : Value} {b : Array UInt8} {t : Tok} {n : Nat} (hs : b.size < 2 ^ 63) (hn : n ≤ 2 ^ 66)
    (hg : Goes n (Sre.forMatch code (b.map (·.toNat)) 1 0 b.size false false) fun m' => m'.outcome = some .failed) :
    Meets («re.Pattern.match» ⟨[.ref P, .bytes b t], []⟩) (fun A R s => IsPat s.heap P 1 1 code gi ∧ R (.ok (.ret .none)) s) := by
  refine .of_wp fun prog w A R s hS => ?_
  obtain ⟨hp, h⟩ := hS
  obtain ⟨k, hk, ho⟩ := hg
  unfold «re.Pattern.match»
  refine wpAny_bind (target_bytes hp hs ?_)
  unfold reAnswer
  refine wpAny_bind (run_end (b := false) (n := k) (by rw [if_neg Bool.false_ne_true]; exact ho) (Nat.le_trans hk hn) ?_)
  rw [if_neg Bool.false_ne_true]
  exact wpAny_pure ⟨_, rfl, h⟩

theorem look_str_index : typeLookup (.type "str") (PySem.Str.ofString "__index__") = pure none := by rw [typeLookup_type, builtinLookup_eq_fast]; kernel_rfl
theorem call_here {prog : Program} {w : World} {A : Around} {E : Value → Shared → Prop} {s : Shared} {T : String} {name : PySem.Str} {id : String} {B : Builtin} {self : Value} {rest : List Value} {Q : Value → Shared → Prop} (slot : Slot T name id) (hT : s.TypeIs self T)
    (entry : entryFor table id = some B) (args : argsOk id ⟨self :: rest, []⟩) (g : wpAny (model prog w) A.in1 (B ⟨self :: rest, []⟩) (fun fin s' => ∃ v, fin = .done (.ret v) ∧ Q v s') E s) :
    wpAny (model prog w) A (call (.builtin id) (self :: rest)) Q E s :=
  wpAny_call (codeAny_call_builtin slot.plain entry (slot.check _ _ _ _ _ _ _ _ hT args (wpAny_mono g (fun fin s' h' => by obtain ⟨v, rfl, hv⟩ := h'; exact hv) fun _ _ x => x)))
/-- a group asked for by its name -/
theorem group_wp {prog : Program} {w : World} {A : Around} {E : Value → Shared → Prop} {s : Shared} {P a tup gd : Addr} {code : Array Nat} {b : Array UInt8} {t u tk : Tok} {p q : Nat} {f2 f3 f4 e0 e1 : Value} {name : PySem.Str} {f : PySem.Str → Option Value} {Q : Value → Shared → Prop}
    (hp : IsPat s.heap P 1 1 code (.ref gd)) (hm : s.heap.MapOf (PySem.strKind prog w) gd f) (hf : f name = some (.int 1 tk)) (hpq : p ≤ q) (hq : q ≤ b.size) (hsz : b.size ≤ 100000)
    (ha : s.heap.get? a = some { cls := .type "re.Match", data := .fields #[.bytes b t, .ref P, f2, f3, f4, .ref tup] }) (ht : PlainTup s.heap tup #[e0, e1, rawInt p, rawInt q])
    (h : ∀ t' k, s.toks ≤ k → Q (.bytes (b.extract p q) t') { s with toks := k }) : wpAny (model prog w) A (call (.builtin "re.Match.group") [.ref a, .str name u]) Q E s := by
  obtain ⟨n, et⟩ := ht
  obtain ⟨fs, sl, ep, h2, h6, h3, C, its, h5, hti, hc⟩ := hp.get
  refine call_here slot_re_Match_group ⟨_, ha, rfl⟩ entry_re_Match_group (args_re_Match_group_2 _ _) ?_
  unfold «re.Match.group»
  refine wpAny_bind (wpAny_of_eq (a := ()) rfl ?_)
  refine wpAny_bind (show wpAny _ _ (reFound (.ref a)) _ _ _ from ?_)
  unfold reFound
  refine wpAny_bind (wpAny_bind (wpAny_load ha (wpAny_pure ?_)))
  refine wpAny_bind (items_wp (its := #[e0, e1, rawInt p, rawInt q]) ⟨_, et, rfl, n, rfl⟩ (wpAny_pure ?_))
  rw [show Array.map reRawOf #[e0, e1, rawInt p, rawInt q] = #[reRawOf e0, reRawOf e1, reRawOf (rawInt p), reRawOf (rawInt q)] by simp]
  refine wpAny_bind ?_
  show wpAny _ _ (reGroupNumber _ (.str name u)) _ _ _
  unfold reGroupNumber
  refine wpAny_bind (wpAny_of_eq (a := none) rfl ?_)
  rw [if_neg (by decide)]
  refine wpAny_bind (wpAny_specialOf (T := "str") (typeIs_str _ _ _) look_str_index ?_)
  rw [if_neg (by decide)]
  refine wpAny_bind (show wpAny _ _ (fieldsOf (.ref P)) _ _ _ from wpAny_bind (wpAny_load ep (wpAny_pure ?_)))
  rw [h3]
  refine wpAny_bind (wpAny_dictGet_of (knd := PySem.strKind prog w) (k := name) (by show Value.isStrOf name (.str name u) = true; simp [Value.isStrOf]) hm ?_)
  rw [hf]
  refine wpAny_bind (wpAny_of_eq (a := some 1) rfl (wpAny_bind (wpAny_pure ?_)))
  show wpAny _ _ (if (decide ((1 : Int) < 0) || decide (2 * (1 : Int) ≥ ((4 : Nat) : Int))) = true then _ else pure (1 : Int).toNat) _ _ _
  rw [if_neg (by decide)]
  refine wpAny_pure ?_
  unfold reGroupText
  refine wpAny_bind ?_
  have r1 : ∀ k : Nat, reRawOf (rawInt k) = k := fun k => rfl
  show wpAny _ _ (if (decide (reRawOf (rawInt p) < 0) || decide (reRawOf (rawInt q) < 0)) = true then _ else reTextOf (.bytes b t) >>= fun x => reSlice x.1 x.2 (reRawOf (rawInt p)).toNat (reRawOf (rawInt q)).toNat) _ _ _
  rw [r1, r1]
  have hneg : (decide ((p : Int) < 0) || decide ((q : Int) < 0)) = false := by
    rw [Bool.or_eq_false_iff]; exact ⟨decide_eq_false (by omega), decide_eq_false (by omega)⟩
  rw [if_neg (by rw [hneg]; exact Bool.false_ne_true)]
  refine wpAny_bind (wpAny_of_eq textOf_bytes ?_)
  unfold reSlice
  dsimp only
  rw [if_neg (by decide), Int.toNat_natCast, Int.toNat_natCast]
  have hx : ((b.map (·.toNat)).extract p q).map (·.toUInt8) = b.extract p q := by
    apply Array.ext'
    have hid : ((fun x => UInt8.ofNat x) ∘ fun (x : UInt8) => x.toNat) = _root_.id := funext fun x => by simp
    simp [hid]
  rw [hx]
  refine wpAny_mkBytes (wpAny_pure ⟨_, rfl, h _ _ (Nat.le_succ_of_le (Nat.le_succ _))⟩) ?_
  rw [Array.size_extract]
  exact Nat.le_trans (by omega) (Nat.le_trans hsz (by decide))

/-! ### the methods as expressions -/
section
variable {c : Cx} {ρ : Vars} {ω : Owns}
/-- a method of an object of the text's own -/
theorem methG {x : PySem.Str} {p1 apos pos : Pos} {f : Addr} {T : String} {name : PySem.Str} {id : String} {pl : Sem Bool} {e : Expr} {es : List Expr} {ds : List D} (ok : c.Ok) (hf : nsIn c.W.K mainGlobals x = some (some (.ref f))) (hx : c.env.kindOf x = some .globalImplicit)
    (pa : PlainAttrs T) (slot : Slot T name id) (hty : typeOf (.builtin id) = pure (.type "method_descriptor")) (ha : Evs c ρ ω (e :: es) ds) {Y : Addr → Prop} {s : Gs} (F : Fs c Y ρ ω s)
    (ht : ∃ o, s.heap.get? f = some o ∧ o.cls = .type T ∧ o.dict = none)
    {Q : Value → Shared → Prop} {E : Value → Shared → Prop} (k : ∀ vs (s' : Gs), Grow s s' → Reps s' (Xω Y ω) vs ds → wpAny (model c.prog c.w) c.A (call (.builtin id) (.ref f :: vs)) Q E s')
    (hm : eval (.Call (.Attribute (.Name x p1) name apos) (e :: es) [] pos) c.env = (do
      let ov ← eval (.Name x p1) c.env
      standAt apos.atName
      let (f, first) ← holding [ov] (getMethod ov name pl)
      callWith pos f first (backTo pos (starEach (e :: es) c.env)) []) := by rfl)
    (he : starEach (e :: es) c.env = (false, eval e c.env) :: starEach es c.env := by rfl) (hpl : (backTo pos (starEach es c.env)).any (·.1) = false := by rfl) (hd : (x == ("__debug__" : PySem.Str)) = false := by decide) :
    wpAny (model c.prog c.w) c.A (eval (.Call (.Attribute (.Name x p1) name apos) (e :: es) [] pos) c.env) Q E s := by
  obtain ⟨o, ho, hc, hdn⟩ := ht
  refine MethodCall_ (pl := pl) (global_val ok F hf hx ?_ hd) hm
  have hT : s.sh.TypeIs (.ref f) T := ⟨o, ho, hc⟩
  with_reducible refine getMethod_builtin (T := T) hT pa slot hty (by intro a e; cases e; exact ⟨o, ho, hdn⟩) ?_
  show wpAny _ _ (callWith pos (.builtin id) [.ref f] _ []) _ _ _
  exact callWith_method1 (ha.run pos Y s F _ E fun vs s₂ g₂ r₂ => k vs s₂ g₂ r₂) he hpl
end
end Mine
end

section
open PySem PySem.W PyProof.Rows PySem.Calls PySem.SeqAt
set_option maxRecDepth 100000
namespace Mine
open Builtin Builtin.Re

/-- a piece of text, of the one kind or the other -/
inductive IsPiece : Nat → Value → Array Nat → Prop
  | str (x : Array Nat) (t : Tok) : IsPiece 0 (.str ⟨x⟩ t) x
  | bytes (b : Array UInt8) (t : Tok) : IsPiece 1 (.bytes b t) (b.map (·.toNat))
inductive Pieces (kind : Nat) : List Value → List (Array Nat) → Prop
  | nil : Pieces kind [] []
  | cons {v : Value} {x : Array Nat} {vs : List Value} {xs : List (Array Nat)} : IsPiece kind v x → Pieces kind vs xs → Pieces kind (v :: vs) (x :: xs)
theorem Pieces.append {kind : Nat} {vs : List Value} {xs : List (Array Nat)} (a : Pieces kind vs xs) : ∀ {us : List Value} {ys : List (Array Nat)}, Pieces kind us ys → Pieces kind (vs ++ us) (xs ++ ys) := by
  induction a with
  | nil => intro us ys b; exact b
  | cons h _ ih => intro us ys b; exact .cons h (ih b)
theorem Pieces.length {kind : Nat} {vs : List Value} {xs : List (Array Nat)} (a : Pieces kind vs xs) : vs.length = xs.length := by
  induction a with
  | nil => rfl
  | cons _ _ ih => rw [List.length_cons, List.length_cons, ih]

noncomputable def Bound (text : Array Nat) (kind : Nat) : Prop := kind = 1 → ∀ c ∈ text.toList, c < 256
noncomputable def code8 (x : Array Nat) : Prop := ∀ c ∈ x.toList, c < 256

section
variable {M : Model} {A : Around} {E : Value → Shared → Prop} {s : Shared}
theorem slice_wp {text : Array Nat} {kind b e : Nat} (hk : kind = 0 ∨ kind = 1) (hb : Bound text kind) (hs : text.size ≤ 100000) {Q : Value → Shared → Prop} (h : ∀ v, IsPiece kind v (text.extract b e) → Q v { s with toks := s.toks + 1 }) : wpAny M A (reSlice text kind b e) Q E s := by
  unfold reSlice
  have hsz : (text.extract b e).size ≤ sizeLine := by rw [Array.size_extract]; exact Nat.le_trans (by omega) (Nat.le_trans hs (by decide))
  rcases hk with rfl | rfl
  · rw [if_pos (by decide)]
    exact wpAny_mkStr (h _ (.str _ _)) hsz
  · rw [if_neg (by decide)]
    refine wpAny_mkBytes (h _ ?_) (by rw [Array.size_map]; exact hsz)
    have : ((text.extract b e).map (·.toUInt8)).map (·.toNat) = text.extract b e := by
      apply Array.ext'
      rw [Array.toList_map, Array.toList_map, List.map_map]
      rw [List.map_congr_left (g := _root_.id)]
      · simp
      · intro c hc
        have hc' : c ∈ text.toList := by
          rw [Array.toList_extract] at hc
          exact List.mem_of_mem_drop (List.mem_of_mem_take hc)
        have := hb rfl c hc'
        show (UInt8.ofNat c).toNat = c
        simp; omega
    have hp := IsPiece.bytes ((text.extract b e).map (·.toUInt8)) s.toks
    rw [this] at hp
    exact hp
theorem push_wp {l : Addr} {items : Array Value} {x : Value} {Q : Unit → Shared → Prop} (hl : s.heap.PlainList l items)
    (hQ : ∀ h', h'.PlainList l (items.push x) → Heap.SameBut l s.heap h' → Q () { s with heap := h' }) (hsz : items.size ≤ sizeLine) : wpAny M A (updateSeq l (·.push x)) Q E s := by
  obtain ⟨n, ho⟩ := hl
  refine wpAny_updateSeq ho rfl (hQ _ ⟨n + 1, ?_⟩ (Heap.SameBut.update ..)) hsz (by rw [Array.size_push]; omega)
  rw [Heap.get?_update_self _ ho (by rw [Obj.mapSeq_push_plain]; rfl), Obj.mapSeq_push_plain]

theorem textOf_piece {kind : Nat} {v : Value} {x : Array Nat} (h : IsPiece kind v x) : reTextOf v = pure (x, kind) := by
  cases h with
  | str x t => rfl
  | bytes b t => exact textOf_bytes
theorem noColl_piece {kind : Nat} {v : Value} {x : Array Nat} (h : IsPiece kind v x) : reNoCollectionInside v kind = pure () := by
  cases h with
  | str x t => rfl
  | bytes b t => exact noColl_bytes
theorem turned_piece {kind : Nat} {v : Value} {x : Array Nat} (h : IsPiece kind v x) : reLiteralCannotBeTurned v = pure () := by
  cases h with
  | str x t => rfl
  | bytes b t =>
    unfold reLiteralCannotBeTurned
    rw [show asStr? (.bytes b t) = pure none from rfl, KBy.isInstance_eq]
    rfl
theorem whole_wp {P : Addr} {groups kind : Nat} {code : Array Nat} {gi str : Value} {text : Array Nat} (hp : IsPat s.heap P kind groups code gi) (ht : IsPiece kind str text) (hk : kind = 0 ∨ kind = 1) {Q : ReTarget → Shared → Prop}
    (h : Q { pattern := .ref P, string := str, code := code, text := text, kind := kind, groups := groups, pos := 0, lim := text.size } s) : wpAny M A (reWholeTarget (.ref P) str) Q E s := by
  obtain ⟨fs, sl, e, h2, h6, h3, C, its, h5, hti, hc⟩ := hp.get
  unfold reWholeTarget
  refine wpAny_bind (show wpAny _ _ (fieldsOf (.ref P)) _ _ _ from wpAny_bind (wpAny_load e (wpAny_pure ?_)))
  refine wpAny_bind (wpAny_of_eq (textOf_piece ht) ?_)
  dsimp only
  rw [h6]
  rw [if_neg (by rcases hk with rfl | rfl <;> decide)]
  rw [if_neg (by rcases hk with rfl | rfl <;> decide)]
  refine wpAny_bind (wpAny_of_eq (noColl_piece ht) ?_)
  rw [h5]
  refine wpAny_bind (items_wp hti (wpAny_pure ?_))
  rw [hc, h2]
  exact h
end

/-- what the machine finds, one match behind the other -/
inductive Found (code text : Array Nat) (B : Nat) : Nat → List (Nat × Nat) → Prop
  | none {cur : Nat} : cur ≤ text.size → Goes B (Sre.forSearch code text 0 cur text.size false) (fun m' => m'.outcome = some .failed) → Found code text B cur []
  | some {cur p h : Nat} {ms : List (Nat × Nat)} : cur ≤ p → p < h → h ≤ text.size → Goes B (Sre.forSearch code text 0 cur text.size false) (fun m' => m'.outcome = some .matched ∧ m'.start = p ∧ m'.handed = h) →
      Found code text B h ms → Found code text B cur ((p, h) :: ms)
noncomputable def subPieces (text repl : Array Nat) : Nat → List (Nat × Nat) → List (Array Nat)
  | done, [] => if done < text.size then [text.extract done text.size] else []
  | done, (p, h) :: ms => (if done < p then [text.extract done p] else []) ++ repl :: subPieces text repl h ms

/-- the pieces as one text -/
noncomputable def glue (xs : List (Array Nat)) : Array Nat := xs.foldl (· ++ ·) #[]

section
variable {prog : Program} {w : World} {P L : Addr} {kind : Nat} {code : Array Nat} {gi str repl : Value} {text rtext : Array Nat} {B : Nat}

/-- the turns of a substitution by a written text -/
theorem sub_loop (hk : kind = 0 ∨ kind = 1) (ht : IsPiece kind str text) (hr : IsPiece kind repl rtext) (hbd : Bound text kind) (hsz : text.size ≤ 100000) (hB : B ≤ 2 ^ 66) (hg : groups = 0) {h₀ : Heap} {n₀ : Tok} {sh : Shared}
    {R : Result → Shared → Prop} (hpl : h₀.get? L = none) : ∀ (ms : List (Nat × Nat)) (A : Around) (s : Shared) (n cur : Nat) (vs : Array Value) (xs : List (Array Nat)), Found code text B cur ms →
      IsPat s.heap P kind 0 code gi → s.heap.PlainList L vs → Pieces kind vs.toList xs → vs.size + 2 * ms.length + 1 ≤ 100000 →
      (∀ b o, h₀.get? b = some o → s.heap.get? b = some o) → n₀ ≤ s.toks → (∃ h tk, s = { sh with heap := h, toks := tk }) →
      (∀ (s' : Shared) (us : Array Value) (A' : Around), s'.heap.PlainList L us → Pieces kind us.toList (xs ++ subPieces text rtext cur ms) → (∀ b o, h₀.get? b = some o → s'.heap.get? b = some o) → n₀ ≤ s'.toks → (∃ h tk, s' = { sh with heap := h, toks := tk }) →
        ∀ (v : Value), IsPiece kind v #[] → wpAny (model prog w) A' (if us.isEmpty = true then pure v else call (.builtin (if (kind == 0) = true then "str.join" else "bytes.join")) [v, .ref L]) (fun v s' => R (.ok (.ret v)) s') (fun e s' => R (.error e) s') s') →
      codeAny (model prog w) A (.builtin "re.Pattern.sub.loop" ⟨[.ref P, str, repl, rawInt 0, rawInt 0, rawInt n, rawInt cur, rawInt cur, .bool false, .ref L, .bool false], []⟩) R s := by
  intro ms
  induction ms with
  | nil =>
    intro A s n cur vs xs hf hp hl hv hlen hke htk hsame k
    cases hf with
    | none hcur hgo =>
      refine codeAny_builtin entry_sub_loop ?_
      obtain ⟨j, hj, ho⟩ := hgo
      unfold «re.Pattern.sub.loop»
      refine wpAny_bind (whole_wp hp ht hk ?_)
      dsimp only
      rw [if_pos (by decide)]
      refine wpAny_bind (wpAny_of_eq (turned_piece hr) ?_)
      rw [if_neg (by simp)]
      rw [Int.toNat_natCast]
      refine wpAny_bind (show wpAny _ _ (reRunToEnd _) _ _ _ from run_end (b := false) (n := j) (by rw [if_neg Bool.false_ne_true]; exact ho) (Nat.le_trans hj hB) ?_)
      rw [if_neg Bool.false_ne_true]
      dsimp only
      have fin : ∀ (s' : Shared) (us : Array Value), s'.heap.PlainList L us → Pieces kind us.toList (xs ++ subPieces text rtext cur []) → (∀ b o, h₀.get? b = some o → s'.heap.get? b = some o) → n₀ ≤ s'.toks →
          (∃ h tk, s' = { sh with heap := h, toks := tk }) → ∀ (A' : Around) (K : Value → Sem PySem.Fin), (∀ v, ∃ Z : Value → Sem PySem.Fin, K v = (seqItems? (.ref L) >>= fun x => if (x.getD #[]).isEmpty = true then (pure v >>= fun text => if false = true then Z text else ret text) else (call (.builtin (if (kind == 0) = true then "str.join" else "bytes.join")) [v, .ref L] >>= fun text => if false = true then Z text else ret text))) →
          wpAny (model prog w) A' (reSlice text kind 0 0 >>= K) (fun fin s' => match fin with | .done f => R (.ok f) s' | .again c' => c'.quiet = true ∧ codeAny (model prog w) A c' R s') (fun e s' => R (.error e) s') s' := fun s' us h1 h2 h3 h4 h5 A' K hK => by
        refine wpAny_bind (slice_wp hk hbd hsz fun v hv => ?_)
        obtain ⟨Z, eZ⟩ := hK v
        rw [eZ]
        have hv0 : IsPiece kind v #[] := by
          have : text.extract 0 0 = #[] := by simp
          rw [this] at hv; exact hv
        have kk := k { s' with toks := s'.toks + 1 } us A' h1 h2 h3 (Nat.le_succ_of_le h4) (by obtain ⟨h, tk, rfl⟩ := h5; exact ⟨_, _, rfl⟩) v hv0
        obtain ⟨nn, ee⟩ := h1
        refine wpAny_bind (wpAny_seqItems (s := { s' with toks := s'.toks + 1 }) ee rfl ?_)
        rw [Option.getD_some]
        by_cases hu : us.isEmpty = true
        · rw [if_pos hu] at kk ⊢
          refine wpAny_bind (wpAny_mono kk (fun x s2 hx => ?_) fun _ _ x => x)
          rw [if_neg Bool.false_ne_true]; exact wpAny_pure hx
        · rw [if_neg hu] at kk ⊢
          refine wpAny_bind (wpAny_mono kk (fun x s2 hx => ?_) fun _ _ x => x)
          rw [if_neg Bool.false_ne_true]; exact wpAny_pure hx
      have same_at : ∀ (h : Heap) (tk : Nat), ∃ h' tk', ({ s with heap := h, toks := tk } : Shared) = { sh with heap := h', toks := tk' } := fun h tk => by
        obtain ⟨h1, tk1, e⟩ := hsame; subst e; exact ⟨h, tk, rfl⟩
      by_cases hlast : cur < text.size
      · rw [if_pos hlast]
        refine wpAny_bind (slice_wp hk hbd hsz fun v hv' => ?_)
        refine wpAny_bind (push_wp (s := { s with toks := s.toks + 1 }) hl (fun h' hl' hs' => ?_) (Nat.le_trans (by omega : vs.size ≤ 100000) (by decide)))
        have e : xs ++ subPieces text rtext cur [] = xs ++ [text.extract cur text.size] := by simp only [subPieces, if_pos hlast]
        refine fin { s with heap := h', toks := s.toks + 1 } (vs.push v) hl' (by rw [e, Array.toList_push]; exact hv.append (.cons hv' .nil)) (fun b o hb => hs'.extBut b o (fun q => by rw [q, hpl] at hb; cases hb) (hke b o hb)) (Nat.le_succ_of_le htk) (same_at _ _) _ _ fun v => ⟨_, rfl⟩
      · rw [if_neg hlast]
        have e : xs ++ subPieces text rtext cur [] = xs := by simp only [subPieces, if_neg hlast, List.append_nil]
        refine fin s vs hl (by rw [e]; exact hv) hke htk hsame _ _ fun v => ⟨_, rfl⟩
  | cons m ms ih =>
    intro A s n cur vs xs hf hp hl hv hlen hke htk hsame k
    cases hf with
    | @some _ p h _ hcp hph hht hgo hrest =>
      refine codeAny_builtin entry_sub_loop ?_
      obtain ⟨j, hj, ho, hst, hha⟩ := hgo
      unfold «re.Pattern.sub.loop»
      refine wpAny_bind (whole_wp hp ht hk ?_)
      dsimp only
      rw [if_pos (by decide)]
      refine wpAny_bind (wpAny_of_eq (turned_piece hr) ?_)
      rw [if_neg (by simp)]
      rw [Int.toNat_natCast]
      refine wpAny_bind (show wpAny _ _ (reRunToEnd _) _ _ _ from run_end (b := true) (n := j) (by rw [if_pos rfl]; exact ho) (Nat.le_trans hj hB) ?_)
      rw [if_pos rfl]
      dsimp only
      rw [hst, hha]
      rw [List.length_cons] at hlen
      have hrn : (repl != Value.none) = true := by cases hr <;> rfl
      have hne : (h == p) = false := beq_eq_false_iff_ne.mpr (by omega)
      have same_at : ∀ (h : Heap) (tk : Nat), ∃ h' tk', ({ s with heap := h, toks := tk } : Shared) = { sh with heap := h', toks := tk' } := fun h tk => by
        obtain ⟨h1, tk1, e⟩ := hsame; subst e; exact ⟨h, tk, rfl⟩
      have patAt : ∀ {h1 : Heap}, (∀ b o, b ≠ L → s.heap.get? b = some o → h1.get? b = some o) → IsPat h1 P kind 0 code gi := fun {h1} hk1 => by
        obtain ⟨fs, sl, e, a2, a6, a3, C, its, a5, hti, hc⟩ := hp.get
        obtain ⟨nn, ee⟩ := hl
        obtain ⟨o', e', c', d'⟩ := id hti
        have hPL : P ≠ L := fun q => by rw [q, ee] at e; injection e with e; injection e with e1; injection e1 with e1; exact absurd e1 (by decide)
        have hCL : C ≠ L := fun q => by rw [q, ee] at e'; cases e'; injection c' with c'; exact absurd c' (by decide)
        exact ⟨fs, sl, hk1 _ _ hPL e, a2, a6, a3, C, its, a5, ⟨o', hk1 _ _ hCL e', c', d'⟩, hc⟩
      have nL : ∀ {b : Addr} {o : Obj}, h₀.get? b = some o → b ≠ L := fun hb q => by rw [q, hpl] at hb; cases hb
      have e2 : rawInt ((n : Int) + 1) = rawInt ((n + 1 : Nat) : Int) := by rw [Int.natCast_succ]
      by_cases hlast : cur < p
      · rw [if_pos hlast]
        refine wpAny_bind (slice_wp hk hbd hsz fun v hv' => ?_)
        refine wpAny_bind (push_wp (s := { s with toks := s.toks + 1 }) hl (fun h1 hl1 hs1 => ?_) (Nat.le_trans (by omega : vs.size ≤ 100000) (by decide)))
        rw [if_pos (by decide)]
        refine wpAny_bind (wpAny_pure ?_)
        rw [if_pos hrn]
        refine wpAny_bind (push_wp (s := { s with heap := h1, toks := s.toks + 1 }) hl1 (fun h2 hl2 hs2 => ?_) (by rw [Array.size_push]; exact Nat.le_trans (by omega : vs.size + 1 ≤ 100000) (by decide)))
        refine wpAny_pure ⟨Code.quiet_builtin _ (by decide +kernel), ?_⟩
        rw [hne, e2]
        have e : xs ++ subPieces text rtext cur ((p, h) :: ms) = (xs ++ [text.extract cur p] ++ [rtext]) ++ subPieces text rtext h ms := by
          simp only [subPieces, if_pos hlast, List.append_assoc, List.cons_append, List.nil_append]
        rw [e] at k
        refine ih _ { s with heap := h2, toks := s.toks + 1 } (n + 1) h ((vs.push v).push repl) (xs ++ [text.extract cur p] ++ [rtext]) hrest (patAt fun b o hb e => hs2.extBut b o hb (hs1.extBut b o hb e)) hl2
          (by rw [Array.toList_push, Array.toList_push]; exact (hv.append (.cons hv' .nil)).append (.cons hr .nil)) (by simp only [Array.size_push]; omega)
          (fun b o hb => hs2.extBut b o (nL hb) (hs1.extBut b o (nL hb) (hke b o hb))) (Nat.le_succ_of_le htk) (same_at _ _) k
      · rw [if_neg hlast]
        rw [if_pos (by decide)]
        refine wpAny_bind (wpAny_pure ?_)
        rw [if_pos hrn]
        refine wpAny_bind (push_wp hl (fun h2 hl2 hs2 => ?_) (Nat.le_trans (by omega : vs.size ≤ 100000) (by decide)))
        refine wpAny_pure ⟨Code.quiet_builtin _ (by decide +kernel), ?_⟩
        rw [hne, e2]
        have e : xs ++ subPieces text rtext cur ((p, h) :: ms) = (xs ++ [rtext]) ++ subPieces text rtext h ms := by
          simp only [subPieces, if_neg hlast, List.append_assoc, List.cons_append, List.nil_append]
        rw [e] at k
        refine ih _ { s with heap := h2 } (n + 1) h (vs.push repl) (xs ++ [rtext]) hrest (patAt fun b o hb e => hs2.extBut b o hb e) hl2
          (by rw [Array.toList_push]; exact hv.append (.cons hr .nil)) (by simp only [Array.size_push]; omega)
          (fun b o hb => hs2.extBut b o (nL hb) (hke b o hb)) htk (same_at _ _) k
end
end Mine
end

section
open PySem PySem.W PyProof.Rows PySem.Calls PySem.SeqAt
set_option maxRecDepth 100000
namespace Mine
open Builtin Builtin.Re

/-- the pieces as one text -/
noncomputable def gl (xs : List (Array Nat)) : List Nat := xs.flatMap (·.toList)
theorem gl_length (xs : List (Array Nat)) : (gl xs).length = (xs.map (·.size)).sum := by
  unfold gl
  induction xs with
  | nil => rfl
  | cons x xs ih => rw [List.flatMap_cons, List.length_append, ih, List.map_cons, List.sum_cons, Array.length_toList]

theorem join_empty : ∀ ys : List PySem.Str, Txt.join ⟨#[]⟩ ys = ⟨(gl (ys.map (·.cps))).toArray⟩ := by
  intro ys
  show Builtin.Str.glued _ _ = _
  unfold Builtin.Str.glued
  cases ys with
  | nil => rfl
  | cons y ys =>
    rw [List.drop_one, List.tail_cons, List.headD_cons]
    have : ∀ (ys : List PySem.Str) (acc : Array Nat), ys.foldl (fun acc p => acc ++ (#[] : Array Nat) ++ p.cps) acc = acc ++ (gl (ys.map (·.cps))).toArray := by
      intro ys
      induction ys with
      | nil => intro acc; simp [gl]
      | cons z zs ih => intro acc; rw [List.foldl_cons, ih]; apply Array.ext'; simp [gl]
    rw [this]
    congr 1
    apply Array.ext'
    simp [gl]
theorem joined_empty (bs : List (Array UInt8)) : Bytes.joined #[] bs = (bs.flatMap (·.toList)).toArray := by
  unfold Bytes.joined
  have : ∀ (l : List (Array UInt8 × Nat)) (acc : Array UInt8), l.foldl (fun out (p : Array UInt8 × Nat) => (if p.2 > 0 then out ++ #[] else out) ++ p.1) acc = acc ++ (l.flatMap (·.1.toList)).toArray := by
    intro l
    induction l with
    | nil => intro acc; simp
    | cons z zs ih =>
      intro acc
      rw [List.foldl_cons, ih]
      have : (if z.2 > 0 then acc ++ (#[] : Array UInt8) else acc) = acc := by split <;> simp
      rw [this]
      apply Array.ext'
      simp
  refine (this bs.zipIdx #[]).trans ?_
  have : bs.zipIdx.flatMap (fun p => p.1.toList) = bs.flatMap (·.toList) := by
    rw [← List.flatMap_map (f := fun p : Array UInt8 × Nat => p.1) (g := fun b => b.toList)]
    simp
  rw [this]
  simp

theorem IsPiece.asStr {v : Value} {x : Array Nat} (r : IsPiece 0 v x) : ∃ t, v = .str ⟨x⟩ t := by cases r; exact ⟨_, rfl⟩
theorem IsPiece.asBytes {v : Value} {x : Array Nat} (r : IsPiece 1 v x) : ∃ b t, v = .bytes b t ∧ x = b.map (·.toNat) := by cases r; exact ⟨_, _, rfl, rfl⟩
theorem pieces_strs {vs : List Value} {xs : List (Array Nat)} (r : Pieces 0 vs xs) : StrsAre vs (xs.map fun x => (⟨x⟩ : PySem.Str)) := by
  induction r with
  | nil => exact .nil
  | cons a _ ih =>
    obtain ⟨t, rfl⟩ := a.asStr
    exact .cons _ t ih
theorem pieces_bytes {vs : List Value} {xs : List (Array Nat)} (r : Pieces 1 vs xs) : ∃ bs : List (Array UInt8), BytesAre vs bs ∧ xs = bs.map fun b => b.map (·.toNat) := by
  induction r with
  | nil => exact ⟨[], .nil, rfl⟩
  | cons a _ ih =>
    obtain ⟨b, t, rfl, rfl⟩ := a.asBytes
    obtain ⟨bs, h, e⟩ := ih
    exact ⟨b :: bs, .cons b t h, by rw [e]; rfl⟩
theorem foldl_size : ∀ (bs : List (Array UInt8)) (n : Nat), bs.foldl (fun a b => a + b.size) n = n + (bs.map (·.size)).sum
  | [], n => rfl
  | b :: bs, n => by rw [List.foldl_cons, foldl_size bs, List.map_cons, List.sum_cons]; omega

theorem sum_flat : ∀ bs : List (Array UInt8), (bs.map (·.size)).sum = (bs.flatMap (·.toList)).length
  | [] => rfl
  | b :: bs => by rw [List.map_cons, List.sum_cons, List.flatMap_cons, List.length_append, sum_flat bs]; rfl

theorem join_pieces {prog : Program} {w : World} {A : Around} {E : Value → Shared → Prop} {s : Shared} {Q : Value → Shared → Prop} {kind : Nat} (hk : kind = 0 ∨ kind = 1) {L : Addr} {us : Array Value} {xs : List (Array Nat)} {v : Value}
    (hl : s.heap.PlainList L us) (hp : Pieces kind us.toList xs) (hv : IsPiece kind v #[]) (hsz : (gl xs).length ≤ 100000) (k : ∀ u tk, s.toks ≤ tk → IsPiece kind u (gl xs).toArray → Q u { s with toks := tk }) :
    wpAny (model prog w) A (if us.isEmpty = true then pure v else call (.builtin (if (kind == 0) = true then "str.join" else "bytes.join")) [v, .ref L]) Q E s := by
  by_cases hu : us.isEmpty = true
  · rw [if_pos hu]
    have h0 : us.toList = [] := by simpa using hu
    rw [h0] at hp
    cases hp
    exact wpAny_pure (k v s.toks (Nat.le_refl _) hv)
  · rw [if_neg hu]
    rcases hk with rfl | rfl
    · rw [if_pos (by decide)]
      cases hv with
      | str _ t =>
        have hS := pieces_strs hp
        refine wpAny_with_toks (Nat.le_refl s.toks) (PyProof.Rows.join_list hl.isList hS ?_ fun t' tk hle => ?_)
        · have : ((xs.map fun x => (⟨x⟩ : PySem.Str)).map (·.length)).sum = (gl xs).length := by
            rw [gl_length, List.map_map]; rfl
          rw [this]
          show _ + _ * 0 ≤ _
          omega
        · have e := join_empty (xs.map fun x => (⟨x⟩ : PySem.Str))
          have e2 : (xs.map fun x => (⟨x⟩ : PySem.Str)).map (·.cps) = xs := by rw [List.map_map]; exact List.map_id _
          rw [e2] at e
          have := k (.str ⟨(gl xs).toArray⟩ t') tk hle (.str _ t')
          rw [← e] at this
          exact this
    · rw [if_neg (by decide)]
      generalize hv0 : (#[] : Array Nat) = z at hv
      cases hv with
      | bytes b t =>
        have hb0 : b = #[] := by
          have : (b.map (·.toNat)).size = 0 := by rw [← hv0]; rfl
          rw [Array.size_map] at this
          exact Array.eq_empty_of_size_eq_zero this
        subst hb0
        obtain ⟨bs, hB, rfl⟩ := pieces_bytes hp
        have egl : (gl (bs.map fun b => b.map (·.toNat))).toArray = ((bs.flatMap (·.toList)).toArray).map (·.toNat) := by
          unfold gl
          apply Array.ext'
          simp [List.flatMap_map, List.map_flatMap]
        have hlen : (bs.flatMap (·.toList)).length = (gl (bs.map fun b => b.map (·.toNat))).length := by
          have := congrArg Array.size egl
          simpa using this.symm
        by_cases h1 : bs.length = 1
        · obtain ⟨b, rfl⟩ := List.length_eq_one_iff.mp h1
          · obtain ⟨l⟩ := us
            have hB' : BytesAre l [b] := hB
            clear hB
            cases hB' with
            | cons _ u hB =>
              cases hB
              refine call_meets slot_bytes_join (typeIs_bytes _ _ _) entry_bytes_join (args_bytes_join_2 _ _) join_one ⟨hl.isList, ?_⟩
              have := k (.bytes b u) s.toks (Nat.le_refl _)
              rw [egl] at this
              refine this ?_
              have : ([b].flatMap (·.toList)).toArray = b := by simp
              rw [this]
              exact .bytes b u
        · refine call_meets slot_bytes_join (typeIs_bytes _ _ _) entry_bytes_join (args_bytes_join_2 _ _) (join_meets hB h1) ⟨hl.isList, ?_, ?_, ?_⟩
          · have : Array.foldl (fun x1 x2 => x1 + x2.size) ((#[] : Array UInt8).size * (bs.length - 1)) bs.toArray ≤ 100000 := by
              rw [← Array.foldl_toList, foldl_size, sum_flat, hlen]
              simp
              exact hsz
            unfold Bytes.tooLong
            exact decide_eq_false fun q => absurd (Nat.lt_of_lt_of_le q this) (by decide)
          · rw [joined_empty, List.size_toArray, hlen]
            exact Nat.le_trans hsz (by decide)
          · rw [joined_empty]
            have := k (.bytes (bs.flatMap (·.toList)).toArray s.toks) (s.toks + 1) (Nat.le_succ _)
            rw [egl] at this
            exact this (.bytes _ _)
end Mine
end

section
open PySem PySem.W PyProof.Rows PySem.Calls PySem.SeqAt
set_option maxRecDepth 100000
namespace Mine
open Builtin Builtin.Re

theorem look_str_call : typeLookup (.type "str") (PySem.Str.ofString "__call__") = pure none := by rw [typeLookup_type, builtinLookup_eq_fast]; kernel_rfl
theorem look_bytes_call : typeLookup (.type "bytes") (PySem.Str.ofString "__call__") = pure none := by rw [typeLookup_type, builtinLookup_eq_fast]; kernel_rfl

theorem sub_call {prog : Program} {w : World} {A : Around} {E : Value → Shared → Prop} {s : Gs} {Q : Value → Shared → Prop} {kind : Nat} (hk : kind = 0 ∨ kind = 1) {P : Addr} {code : Array Nat} {gi repl str : Value} {text rtext : Array Nat} {B : Nat} {ms : List (Nat × Nat)}
    (hp : IsPat s.heap P kind 0 code gi) (hr : IsPiece kind repl rtext) (ht : IsPiece kind str text) (hbd : Bound text kind) (hsz : text.size ≤ 100000) (hB : B ≤ 2 ^ 66)
    (hlit : (kind = 0 → rtext.contains 92 = false) ∧ (kind = 1 → ∀ b t, repl = .bytes b t → b.contains 92 = false)) (hf : Found code text B 0 ms) (hms : 2 * ms.length + 1 ≤ 100000) (hgl : (gl (subPieces text rtext 0 ms)).length ≤ 100000)
    (k : ∀ v (s' : Gs), Grow s s' → IsPiece kind v (gl (subPieces text rtext 0 ms)).toArray → Q v s') : wpAny (model prog w) A (call (.builtin "re.Pattern.sub") [.ref P, repl, str]) Q E s := by
  have hT : s.sh.TypeIs (.ref P) "re.Pattern" := by
    obtain ⟨fs, sl, e, _⟩ := hp.get
    exact ⟨_, e, rfl⟩
  refine wpAny_call (codeAny_call_builtin slot_re_Pattern_sub.plain entry_re_Pattern_sub (slot_re_Pattern_sub.check _ _ _ _ _ _ _ _ hT (args_re_Pattern_sub_3 _ _ _) ?_))
  unfold «re.Pattern.sub» reSubstitute
  dsimp only
  refine wpAny_bind (wpAny_of_eq (a := [some repl, some str, none]) (by kernel_rfl) ?_)
  dsimp only
  refine wpAny_bind (wpAny_pure ?_)
  have called : ∀ {Q' : Option Value → Shared → Prop} {E' : Value → Shared → Prop} {A' : Around}, Q' none s.sh → wpAny (model prog w) A' (specialOf repl "__call__") Q' E' s.sh := fun q => by
    cases hr with
    | str x t => exact wpAny_specialOf (T := "str") (typeIs_str _ _ _) look_str_call q
    | bytes b t => exact wpAny_specialOf (T := "bytes") (typeIs_bytes _ _ _) look_bytes_call q
  refine wpAny_bind (called ?_)
  simp only [Option.isSome_none, Bool.false_eq_true, if_false]
  have tail : ∀ {E' : Value → Shared → Prop}, wpAny (model prog w) A.in1 (do
      let _ ← holding [repl] (reWholeTarget (.ref P) str)
      if ((0 : Nat) == 1) = true then do
        reNotHeld "re.Pattern.sub" str
        again (.builtin "re.Pattern.sub.loop" ⟨[.ref P, str, repl, rawInt ((0 : Nat) : Int), rawInt 0, rawInt 0, rawInt 0, rawInt 0, .bool false, ← newList [], .bool false], []⟩)
      else
        again (.builtin "re.Pattern.sub.loop" ⟨[.ref P, str, repl, rawInt ((0 : Nat) : Int), rawInt 0, rawInt 0, rawInt 0, rawInt 0, .bool false, ← newList [], .bool false], []⟩))
      (fun fin s' => match fin with | .done f => wants Q E (.ok f) s' | .again c' => c'.quiet = true ∧ codeAny (model prog w) A c' (wants Q E) s') E' s.sh := by
    intro E'
    refine wpAny_bind (wpAny_holding (whole_wp hp ht hk ?_))
    rw [if_neg (by decide)]
    refine wpAny_bind (wpAny_newList ?_ (Nat.zero_le _))
    refine wpAny_pure ⟨Code.quiet_builtin _ (by decide +kernel), ?_⟩
    have hpl : s.heap.get? s.heap.objs.size = none := dead_at _ (Nat.le_refl _)
    refine sub_loop (groups := 0) (gi := gi) hk ht hr hbd hsz hB rfl (h₀ := s.heap) (n₀ := s.toks) (sh := s.sh) hpl ms A { s.sh with heap := s.heap.push { cls := .type "list", data := .seq ([] : List Value).toArray } } 0 0 #[] [] hf ?_ ⟨_, Heap.get?_push_size _ rfl⟩ .nil (by simpa using hms) (fun b o e => Heap.get?_push_of_some _ e) (Nat.le_refl _) ⟨_, _, rfl⟩ ?_
    · exact hp.keeps fun b o e => Heap.get?_push_of_some _ e
    · intro s' us A' h1 h2 h3 h4 h5 v hv
      rw [List.nil_append] at h2
      refine wpAny_mono (join_pieces (Q := Q) (E := E) hk h1 h2 hv hgl fun u tk hle hu => ?_) (fun _ _ q => q) fun _ _ q => q
      obtain ⟨h, tk0, e⟩ := h5
      subst e
      exact k u (s.on h tk) (Grow.of h3 (Nat.le_trans h4 hle)) hu
  cases hr with
  | str x t =>
    refine wpAny_bind (wpAny_of_eq (a := some ⟨rtext⟩) rfl ?_)
    dsimp only
    rw [hlit.1 rfl]
    refine wpAny_bind (wpAny_pure ?_)
    rw [if_pos (by decide)]
    exact wpAny_bind (wpAny_pure tail)
  | bytes b t =>
    refine wpAny_bind (wpAny_of_eq (a := none) rfl ?_)
    dsimp only
    refine wpAny_bind (wpAny_of_eq KBy.quiet_eq ?_)
    dsimp only
    rw [hlit.2 rfl b t rfl]
    refine wpAny_bind (wpAny_pure ?_)
    rw [if_pos (by decide)]
    exact wpAny_bind (wpAny_pure tail)

/-! ### as expressions -/
section
variable {c : Cx} {ρ : Vars} {ω : Owns}
theorem Ev.subS {x : PySem.Str} {p1 apos pos : Pos} {P : Addr} {pl : Sem Bool} {e1 e2 : Expr} {code : Array Nat} {gi : Value} {rtext text : Array Nat} {B : Nat} {ms : List (Nat × Nat)} (ok : c.Ok) (hf : nsIn c.W.K mainGlobals x = some (some (.ref P))) (hx : c.env.kindOf x = some .globalImplicit)
    (hp : ∀ h, c.W.K.In h → IsPat h P 0 0 code gi ∧ ∃ o, h.get? P = some o ∧ o.cls = .type "re.Pattern" ∧ o.dict = none)
    (h1 : Ev c ρ ω e1 (.str ⟨rtext⟩)) (h2 : Ev c ρ ω e2 (.str ⟨text⟩)) (hsz : text.size ≤ 100000) (hB : B ≤ 2 ^ 66) (hlit : rtext.contains 92 = false)
    (hF : Found code text B 0 ms) (hms : 2 * ms.length + 1 ≤ 100000) (hgl : (gl (subPieces text rtext 0 ms)).length ≤ 100000)
    (hm : eval (.Call (.Attribute (.Name x p1) (PySem.Str.ofString "sub") apos) [e1, e2] [] pos) c.env = (do
      let ov ← eval (.Name x p1) c.env
      standAt apos.atName
      let (f, first) ← holding [ov] (getMethod ov (PySem.Str.ofString "sub") pl)
      callWith pos f first (backTo pos (starEach [e1, e2] c.env)) []) := by rfl)
    (he1 : starEach [e2] c.env = (false, eval e2 c.env) :: starEach [] c.env := by rfl)
    (he : starEach [e1, e2] c.env = (false, eval e1 c.env) :: starEach [e2] c.env := by rfl) (hpl : (backTo pos (starEach [e2] c.env)).any (·.1) = false := by rfl) (hd : (x == ("__debug__" : PySem.Str)) = false := by decide) :
    Ev c ρ ω (.Call (.Attribute (.Name x p1) (PySem.Str.ofString "sub") apos) [e1, e2] [] pos) (.str ⟨(gl (subPieces text rtext 0 ms)).toArray⟩) := .mk fun Y s F Q E k => by
  refine methG ok hf hx plainAttrs_Pattern slot_re_Pattern_sub type_re_Pattern_sub (Evs.cons h1 (Evs.cons h2 Evs.nil he1) he) F (hp _ (F.wd ok).k).2 (fun vs s₁ g₁ r₁ => ?_) hm he hpl hd
  cases r₁ with
  | cons a r => cases r with
    | cons b r =>
      cases r
      cases a with
      | str _ t => cases b with
        | str _ u =>
          refine sub_call (.inl rfl) (hp _ ((F.grow g₁).wd ok).k).1 (.str rtext t) (.str text u) (fun q => by cases q) hsz hB ⟨fun _ => hlit, fun q => by cases q⟩ hF hms hgl fun v s' g' hv => ?_
          cases hv with
          | str _ t' => exact k _ s' (g₁.trans g') (.str _ t')
theorem Ev.subB {x : PySem.Str} {p1 apos pos : Pos} {P : Addr} {pl : Sem Bool} {e1 e2 : Expr} {code : Array Nat} {gi : Value} {rb b : Array UInt8} {B : Nat} {ms : List (Nat × Nat)} (ok : c.Ok) (hf : nsIn c.W.K mainGlobals x = some (some (.ref P))) (hx : c.env.kindOf x = some .globalImplicit)
    (hp : ∀ h, c.W.K.In h → IsPat h P 1 0 code gi ∧ ∃ o, h.get? P = some o ∧ o.cls = .type "re.Pattern" ∧ o.dict = none)
    (h1 : Ev c ρ ω e1 (.bytes rb)) (h2 : Ev c ρ ω e2 (.bytes b)) (hsz : b.size ≤ 100000) (hB : B ≤ 2 ^ 66) (hlit : rb.contains 92 = false)
    (hF : Found code (b.map (·.toNat)) B 0 ms) (hms : 2 * ms.length + 1 ≤ 100000) (hgl : (gl (subPieces (b.map (·.toNat)) (rb.map (·.toNat)) 0 ms)).length ≤ 100000) {r : Array UInt8} (hr : (r.map (·.toNat)) = (gl (subPieces (b.map (·.toNat)) (rb.map (·.toNat)) 0 ms)).toArray)
    (hm : eval (.Call (.Attribute (.Name x p1) (PySem.Str.ofString "sub") apos) [e1, e2] [] pos) c.env = (do
      let ov ← eval (.Name x p1) c.env
      standAt apos.atName
      let (f, first) ← holding [ov] (getMethod ov (PySem.Str.ofString "sub") pl)
      callWith pos f first (backTo pos (starEach [e1, e2] c.env)) []) := by rfl)
    (he1 : starEach [e2] c.env = (false, eval e2 c.env) :: starEach [] c.env := by rfl)
    (he : starEach [e1, e2] c.env = (false, eval e1 c.env) :: starEach [e2] c.env := by rfl) (hpl : (backTo pos (starEach [e2] c.env)).any (·.1) = false := by rfl) (hd : (x == ("__debug__" : PySem.Str)) = false := by decide) :
    Ev c ρ ω (.Call (.Attribute (.Name x p1) (PySem.Str.ofString "sub") apos) [e1, e2] [] pos) (.bytes r) := .mk fun Y s F Q E k => by
  refine methG ok hf hx plainAttrs_Pattern slot_re_Pattern_sub type_re_Pattern_sub (Evs.cons h1 (Evs.cons h2 Evs.nil he1) he) F (hp _ (F.wd ok).k).2 (fun vs s₁ g₁ r₁ => ?_) hm he hpl hd
  cases r₁ with
  | cons a r => cases r with
    | cons b' r =>
      cases r
      cases a with
      | bytes _ t => cases b' with
        | bytes _ u =>
          refine sub_call (.inr rfl) (hp _ ((F.grow g₁).wd ok).k).1 (.bytes rb t) (.bytes b u) (fun _ c hc => ?_) (by rw [Array.size_map]; exact hsz) hB ⟨fun q => (by cases q), fun _ b' t' e => (by cases e; exact hlit)⟩ hF hms hgl fun v s' g' hv => ?_
          · rw [Array.toList_map] at hc
            obtain ⟨z, _, rfl⟩ := List.mem_map.mp hc
            exact z.toNat_lt
          · rw [← hr] at hv
            generalize hz : r.map (·.toNat) = z at hv
            cases hv with
            | bytes b' t' =>
              have : r = b' := by
                apply Array.ext'
                have := congrArg Array.toList hz
                rw [Array.toList_map, Array.toList_map] at this
                exact (List.map_inj_right fun a b e => UInt8.toNat_inj.mp e).mp this
              subst this
              exact k _ s' (g₁.trans g') (.bytes _ t')
end
end Mine
end

section
open PySem PySem.W PyProof.Rows PySem.Calls PySem.SeqAt
set_option maxRecDepth 100000
namespace Mine

theorem getD_at (l : List Nat) (k : Nat) : l.toArray.getD k 0 = l[k]?.getD 0 := by
  simp [Array.getD_eq_getD_getElem?]
theorem at_app (a b : List Nat) (k : Nat) : (a ++ b)[a.length + k]? = b[k]? := by
  rw [List.getElem?_append_right (Nat.le_add_right _ _), Nat.add_sub_cancel_left]
theorem ext_at (a b c : List Nat) {i j : Nat} (hi : i = a.length) (hj : j = a.length + b.length) : (a ++ (b ++ c)).toArray.extract i j = b.toArray := by
  subst hi; subst hj
  apply Array.ext'
  simp

/-! ## Ends of lines -/
noncomputable def IsEol (e : List Nat) : Prop := e = [10] ∨ e = [13] ∨ e = [13, 10]
noncomputable def lines (rows : List (Nat × List Nat)) : List Nat := rows.flatMap fun r => r.1 :: r.2
noncomputable def crlfs (rows : List (Nat × List Nat)) : List Nat := rows.flatMap fun r => [r.1, 13, 10]

theorem eols_found : ∀ (rows : List (Nat × List Nat)) (pre : List Nat), (∀ r ∈ rows, (r.1 ≠ 10 ∧ r.1 ≠ 13) ∧ IsEol r.2) →
    ∃ ms, Found ecode (pre ++ lines rows).toArray 100 pre.length ms ∧ gl (subPieces (pre ++ lines rows).toArray #[13, 10] pre.length ms) = crlfs rows ∧ ms.length = rows.length
  | [], pre, _ => by
    refine ⟨[], .none (by simp [lines]) ?_, ?_, rfl⟩
    · have e : (pre ++ lines []).toArray.size = pre.length := by simp [lines]
      have := eol_end (pre ++ lines []).toArray
      rw [e] at this
      rw [e]
      exact this.more (by decide)
    · simp [lines, subPieces, gl, crlfs]
  | (c, e) :: rows, pre, h => by
    obtain ⟨⟨h1, h2⟩, he⟩ := h (c, e) (.head _)
    dsimp only at h1 h2 he
    obtain ⟨ms, hF, hG, hL⟩ := eols_found rows (pre ++ c :: e) fun r hr => h r (.tail _ hr)
    have et : pre ++ c :: e ++ lines rows = pre ++ lines ((c, e) :: rows) := by simp [lines]
    rw [et] at hF hG
    have hlen : (pre ++ c :: e).length = pre.length + 1 + e.length := by simp; omega
    rw [hlen] at hF hG
    generalize hT : pre ++ lines ((c, e) :: rows) = T at *
    have eT : T = pre ++ (c :: e ++ lines rows) := by rw [← hT]; simp [lines]
    have sz : T.toArray.size = pre.length + 1 + e.length + (lines rows).length := by rw [eT]; simp; omega
    have g0 : T.toArray.getD pre.length 0 = c := by
      rw [getD_at, eT]
      have := at_app pre (c :: e ++ lines rows) 0
      rw [Nat.add_zero] at this
      rw [this]; rfl
    have g1 : ∀ k, T.toArray.getD (pre.length + 1 + k) 0 = (e ++ lines rows)[k]?.getD 0 := fun k => by
      rw [getD_at, eT]
      have := at_app pre (c :: e ++ lines rows) (k + 1)
      rw [show pre.length + 1 + k = pre.length + (k + 1) by omega, this]; rfl
    have nxt : (lines rows)[0]?.getD 0 ≠ 10 := by
      cases rows with
      | nil => decide
      | cons r rows => exact (h r (.tail _ (.head _))).1.1
    have hne : e ≠ [] := by rcases he with rfl | rfl | rfl <;> simp
    have hpos : 0 < e.length := List.length_pos_iff.mpr hne
    have first : (e ++ lines rows)[0]?.getD 0 = 10 ∨ (e ++ lines rows)[0]?.getD 0 = 13 := by
      rcases he with rfl | rfl | rfl
      · exact .inl rfl
      · exact .inr rfl
      · exact .inr rfl
    obtain ⟨sn, hi⟩ := eol_init T.toArray pre.length (by rw [sz]; omega) (by rw [g0]; intro q; exact q.elim h1 h2) (by have := g1 0; rw [Nat.add_zero] at this; rw [this]; exact first)
    have go : Goes 100 (Sre.forSearch ecode T.toArray 0 pre.length T.toArray.size false) fun m' => m'.outcome = some .matched ∧ m'.start = pre.length + 1 ∧ m'.handed = pre.length + 1 + e.length := by
      rw [hi]
      have g10 := g1 0
      rw [Nat.add_zero] at g10
      rcases he with rfl | rfl | rfl
      · exact (eol_lf (by rw [sz]; simp; omega) (by rw [g10]; rfl)).more (by decide)
      · refine (eol_cr (by rw [sz]; simp; omega) (by rw [g10]; rfl) fun q => ?_).more (by decide)
        have := g1 1
        rw [q.2] at this
        exact nxt this.symm
      · exact (eol_crlf (by rw [sz]; simp; omega) (by rw [g10]; rfl) (by have := g1 1; rw [this]; rfl)).more (by decide)
    refine ⟨(pre.length + 1, pre.length + 1 + e.length) :: ms, .some (by omega) (by omega) (by rw [sz]; omega) go hF, ?_, by rw [List.length_cons, hL, List.length_cons]⟩
    rw [subPieces, if_pos (by omega)]
    have ex : T.toArray.extract pre.length (pre.length + 1) = #[c] := by
      rw [eT]
      have := ext_at pre [c] (e ++ lines rows) (i := pre.length) (j := pre.length + 1) rfl rfl
      exact this
    rw [ex]
    show gl ([#[c]] ++ #[13, 10] :: subPieces T.toArray #[13, 10] (pre.length + 1 + e.length) ms) = _
    have : gl ([#[c]] ++ #[13, 10] :: subPieces T.toArray #[13, 10] (pre.length + 1 + e.length) ms) = c :: 13 :: 10 :: gl (subPieces T.toArray #[13, 10] (pre.length + 1 + e.length) ms) := rfl
    rw [this, hG]
    rfl

/-! ## Dots -/
noncomputable def rowsT (rows : List (List Nat)) : List Nat := rows.flatMap fun r => r ++ [13, 10]
noncomputable def dotted (r : List Nat) : List Nat := if r.head? = some 46 then 46 :: r else r

theorem dots_found : ∀ (rows : List (List Nat)) (pre : List Nat) (cur : Nat), (∀ r ∈ rows, 10 ∉ r) → (pre = [] ∨ pre.getLast? = some 10) → cur ≤ pre.length →
    (∀ k, cur ≤ k → k < pre.length → ¬ DotAt (pre ++ rowsT rows).toArray k) →
    ∃ ms, Found dcode (pre ++ rowsT rows).toArray (3 * (pre ++ rowsT rows).length + 5) cur ms ∧ gl (subPieces (pre ++ rowsT rows).toArray #[46, 46] cur ms) = pre.drop cur ++ rowsT (rows.map dotted) ∧ ms.length ≤ rows.length
  | [], pre, cur, _, hp, hc, hn => by
    have e : pre ++ rowsT [] = pre := by simp [rowsT]
    rw [e] at hn ⊢
    refine ⟨[], .none (by simpa using hc) ?_, ?_, Nat.le_refl _⟩
    · have := dot_none (text := pre.toArray) (s := cur) (by simpa using hc) fun k hk q => by
        by_cases h : k < pre.length
        · exact hn k hk h q
        · exact h (by have := q.2.1; simpa using this)
      simpa using this
    · rw [subPieces]
      by_cases h : cur < pre.toArray.size
      · rw [if_pos h]
        simp [gl, rowsT]
        exact List.take_of_length_le (by simp)
      · rw [if_neg h]
        have : pre.length ≤ cur := by simpa using h
        simp [gl, rowsT, List.drop_of_length_le this]
  | r :: rows, pre, cur, h, hp, hc, hn => by
    have h10 := h r (.head _)
    have e : pre ++ (r ++ [13, 10]) ++ rowsT rows = pre ++ rowsT (r :: rows) := by simp [rowsT]
    generalize hT : pre ++ rowsT (r :: rows) = T at *
    have hlen : (pre ++ (r ++ [13, 10])).length = pre.length + r.length + 2 := by simp; omega
    have lastok : (pre ++ (r ++ [13, 10])).getLast? = some 10 := by simp [List.getLast?_append]
    have sz : T.toArray.size = pre.length + r.length + 2 + (rowsT rows).length := by rw [← e]; simp; omega
    have g1 : ∀ k, T.toArray.getD (pre.length + k) 0 = (r ++ [13, 10] ++ rowsT rows)[k]?.getD 0 := fun k => by
      rw [getD_at, ← e, List.append_assoc, at_app]
    have inrow : ∀ k, k < r.length + 1 → T.toArray.getD (pre.length + k) 0 ≠ 10 := fun k hk q => by
      rw [g1, List.append_assoc] at q
      by_cases hk2 : k < r.length
      · rw [List.getElem?_append_left hk2] at q
        rw [List.getElem?_eq_getElem hk2] at q
        exact h10 (by simp at q; rw [← q]; exact List.getElem_mem _)
      · have : k = r.length + 0 := by omega
        rw [this, at_app] at q
        cases q
    have mid : ∀ k, pre.length < k → k < pre.length + r.length + 2 → ¬ DotAt T.toArray k := fun k h1 h2 q => by
      rcases q.1 with q | q
      · omega
      · have := inrow (k - 1 - pre.length) (by omega)
        rw [show pre.length + (k - 1 - pre.length) = k - 1 by omega] at this
        exact this q
    by_cases hd : r.head? = some 46
    · obtain ⟨r', rfl⟩ : ∃ r', r = 46 :: r' := by
        cases r with
        | nil => cases hd
        | cons a r' => simp at hd; exact ⟨r', by rw [hd]⟩
      have dot : DotAt T.toArray pre.length := by
        refine ⟨?_, by rw [sz]; simp; omega, by have := g1 0; rw [Nat.add_zero] at this; rw [this]; rfl⟩
        rcases hp with hp | hp
        · exact .inl (by rw [hp]; rfl)
        · refine .inr ?_
          have hne : pre ≠ [] := by rintro rfl; cases hp
          have hpos : 0 < pre.length := List.length_pos_iff.mpr hne
          rw [getD_at, ← e, List.append_assoc, List.getElem?_append_left (by omega)]
          rw [List.getLast?_eq_getElem?] at hp
          rw [hp]; rfl
      obtain ⟨ms, hF, hG, hL⟩ := dots_found rows (pre ++ (46 :: r' ++ [13, 10])) (pre.length + 1) (fun q hq => h q (.tail _ hq)) (.inr lastok) (by rw [hlen]; omega) (fun k hk hk2 => by
        rw [e]; rw [hlen] at hk2; exact mid k (by omega) hk2)
      rw [e] at hF hG
      refine ⟨(pre.length, pre.length + 1) :: ms, .some hc (Nat.lt_succ_self _) (by rw [sz]; omega) ?_ hF, ?_, Nat.succ_le_succ hL⟩
      · have := dot_find (text := T.toArray) hc dot fun k h1 h2 => hn k h1 h2
        simpa using this
      · rw [subPieces]
        have d1 : (pre ++ (46 :: r' ++ [13, 10])).drop (pre.length + 1) = r' ++ [13, 10] := by
          rw [← List.drop_drop, List.drop_left']
          · rfl
          · rfl
        rw [d1] at hG
        have hgl : ∀ a b : List (Array Nat), gl (a ++ b) = gl a ++ gl b := fun a b => List.flatMap_append
        have hpre : gl (if cur < pre.length then [T.toArray.extract cur pre.length] else []) = pre.drop cur := by
          by_cases hcl : cur < pre.length
          · rw [if_pos hcl]
            rw [← e]
            simp [gl, List.drop_append_of_le_length hc, List.take_append_of_le_length]
          · rw [if_neg hcl]
            rw [List.drop_of_length_le (by omega)]; rfl
        rw [hgl, hpre]
        have : gl (#[46, 46] :: subPieces T.toArray #[46, 46] (pre.length + 1) ms) = 46 :: 46 :: gl (subPieces T.toArray #[46, 46] (pre.length + 1) ms) := rfl
        rw [this, hG]
        simp [rowsT, dotted]
    · obtain ⟨ms, hF, hG, hL⟩ := dots_found rows (pre ++ (r ++ [13, 10])) cur (fun q hq => h q (.tail _ hq)) (.inr lastok) (by rw [hlen]; omega) (fun k hk hk2 => by
        rw [e]; rw [hlen] at hk2
        by_cases h1 : k < pre.length
        · exact hn k hk h1
        · by_cases h2 : k = pre.length
          · intro q
            have q3 := q.2.2
            rw [h2] at q3
            have := g1 0
            rw [Nat.add_zero, q3] at this
            cases r with
            | nil => cases this
            | cons a r => simp at this; exact hd (by rw [← this]; rfl)
          · exact mid k (by omega) hk2)
      rw [e] at hF hG
      refine ⟨ms, hF, ?_, Nat.le_succ_of_le hL⟩
      rw [hG, List.drop_append_of_le_length hc]
      simp [rowsT, dotted, hd]
end Mine
end

section
open PySem PySem.W PyProof.Rows PySem.Calls PySem.SeqAt
set_option maxRecDepth 100000
namespace Mine

theorem noBool_match : typeLookup (.type "re.Match") "__bool__" = pure none := by rw [typeLookup_type, builtinLookup_eq_fast]; kernel_rfl
theorem noLen_match : typeLookup (.type "re.Match") "__len__" = pure none := by rw [typeLookup_type, builtinLookup_eq_fast]; kernel_rfl

section
variable {c : Cx} {ρ : Vars} {ω : Owns}
theorem Truth.none : Truth c .none false := .mk fun X s v hX rv Q E k => by
  cases rv
  exact wpAny_pure (k s (Grow.refl s))
theorem Truth.mat {P : Addr} {b : Array UInt8} {p q : Nat} : Truth c (.mat P b p q) true := .mk fun X s v hX rv Q E k => by
  cases rv with
  | @mat a _ tup _ _ _ t f2 f3 f4 e0 e1 h1 h2 h3 h4 =>
    have hT : s.sh.TypeIs (.ref a) "re.Match" := ⟨_, h1, rfl⟩
    unfold truthy
    first
      | refine wpAny_bind (wpAny_callSpecial?_none (name := Str.ofString "__bool__") hT noBool_match ?_)
      | refine wpAny_bind (wpAny_pure (wpAny_bind (wpAny_callSpecial?_none (name := Str.ofString "__bool__") hT noBool_match ?_)))
    first
      | refine wpAny_bind (wpAny_specialOf (name := Str.ofString "__len__") hT noLen_match ?_)
      | refine wpAny_bind (wpAny_pure (wpAny_bind (wpAny_specialOf (name := Str.ofString "__len__") hT noLen_match ?_)))
    exact wpAny_pure (k s (Grow.refl s))

theorem Ev.matchB {x : PySem.Str} {p1 apos pos : Pos} {P : Addr} {pl : Sem Bool} {e1 : Expr} {code : Array Nat} {gi : Value} {b : Array UInt8} {p q n : Nat} (ok : c.Ok) (hf : nsIn c.W.K mainGlobals x = some (some (.ref P))) (hx : c.env.kindOf x = some .globalImplicit)
    (hp : ∀ h, c.W.K.In h → IsPat h P 1 1 code gi ∧ ∃ o, h.get? P = some o ∧ o.cls = .type "re.Pattern" ∧ o.dict = none)
    (h1 : Ev c ρ ω e1 (.bytes b)) (hs : b.size < 2 ^ 63) (hn : n ≤ 2 ^ 66) (hpq : p ≤ q)
    (hg : Goes n (Sre.forMatch code (b.map (·.toNat)) 1 0 b.size false false) fun m' => m'.outcome = some .matched ∧ m'.start = 0 ∧ m'.lastmark = 1 ∧ m'.marks = #[some p, some q])
    (hm : eval (.Call (.Attribute (.Name x p1) (PySem.Str.ofString "match") apos) [e1] [] pos) c.env = (do
      let ov ← eval (.Name x p1) c.env
      standAt apos.atName
      let (f, first) ← holding [ov] (getMethod ov (PySem.Str.ofString "match") pl)
      callWith pos f first (backTo pos (starEach [e1] c.env)) []) := by rfl)
    (he : starEach [e1] c.env = [(false, eval e1 c.env)] := by rfl) (hd : (x == ("__debug__" : PySem.Str)) = false := by decide) :
    Ev c ρ ω (.Call (.Attribute (.Name x p1) (PySem.Str.ofString "match") apos) [e1] [] pos) (.mat P b p q) := .mk fun Y s F Q E k => by
  refine methG ok hf hx plainAttrs_Pattern slot_re_Pattern_match type_re_Pattern_match (Evs.cons h1 Evs.nil he) F (hp _ (F.wd ok).k).2 (fun vs s₁ g₁ r₁ => ?_) hm he rfl hd
  cases r₁ with
  | cons a r =>
    cases r
    cases a with
    | bytes _ t =>
      have hp' := (hp _ ((F.grow g₁).wd ok).k)
      obtain ⟨o, ho, hc, hdn⟩ := hp'.2
      refine call_meets slot_re_Pattern_match ⟨o, ho, hc⟩ entry_re_Pattern_match (args_re_Pattern_match_2 _ _) (match_some (gi := gi) hs hn hpq hg) ⟨hp'.1, fun f2 f3 f4 e0 e1 => ?_⟩
      have g₂ := Grow.push2 s₁ { cls := .type "tuple", data := .seq #[e0, e1, rawInt p, rawInt q] } { cls := .type "re.Match", data := .fields #[.bytes b t, .ref P, f2, f3, f4, .ref s₁.heap.objs.size] }
      refine k _ _ (g₁.trans g₂) (.mat (tup := s₁.heap.objs.size) (t := t) (f2 := f2) (f3 := f3) (f4 := f4) (e0 := e0) (e1 := e1) ?_ ⟨_, Heap.get?_push_of_some _ (Heap.get?_push_size _ rfl)⟩ (fun q => ?_) (fun q => ?_))
      · have := Heap.get?_push_size (s₁.heap.push { cls := .type "tuple", data := .seq #[e0, e1, rawInt p, rawInt q] }) (o := { cls := .type "re.Match", data := .fields #[.bytes b t, .ref P, f2, f3, f4, .ref s₁.heap.objs.size] }) rfl
        rw [Heap.size_push] at this
        exact this
      · obtain ⟨o, e⟩ := (F.grow g₁).xlive _ q
        exact absurd (Heap.lt_size e) (fun z => Nat.lt_irrefl _ (Nat.lt_of_succ_lt z))
      · obtain ⟨o, e⟩ := (F.grow g₁).xlive _ q
        exact absurd (Heap.lt_size e) (Nat.lt_irrefl _)
theorem Ev.matchN {x : PySem.Str} {p1 apos pos : Pos} {P : Addr} {pl : Sem Bool} {e1 : Expr} {code : Array Nat} {gi : Value} {b : Array UInt8} {n : Nat} (ok : c.Ok) (hf : nsIn c.W.K mainGlobals x = some (some (.ref P))) (hx : c.env.kindOf x = some .globalImplicit)
    (hp : ∀ h, c.W.K.In h → IsPat h P 1 1 code gi ∧ ∃ o, h.get? P = some o ∧ o.cls = .type "re.Pattern" ∧ o.dict = none)
    (h1 : Ev c ρ ω e1 (.bytes b)) (hs : b.size < 2 ^ 63) (hn : n ≤ 2 ^ 66)
    (hg : Goes n (Sre.forMatch code (b.map (·.toNat)) 1 0 b.size false false) fun m' => m'.outcome = some .failed)
    (hm : eval (.Call (.Attribute (.Name x p1) (PySem.Str.ofString "match") apos) [e1] [] pos) c.env = (do
      let ov ← eval (.Name x p1) c.env
      standAt apos.atName
      let (f, first) ← holding [ov] (getMethod ov (PySem.Str.ofString "match") pl)
      callWith pos f first (backTo pos (starEach [e1] c.env)) []) := by rfl)
    (he : starEach [e1] c.env = [(false, eval e1 c.env)] := by rfl) (hd : (x == ("__debug__" : PySem.Str)) = false := by decide) :
    Ev c ρ ω (.Call (.Attribute (.Name x p1) (PySem.Str.ofString "match") apos) [e1] [] pos) .none := .mk fun Y s F Q E k => by
  refine methG ok hf hx plainAttrs_Pattern slot_re_Pattern_match type_re_Pattern_match (Evs.cons h1 Evs.nil he) F (hp _ (F.wd ok).k).2 (fun vs s₁ g₁ r₁ => ?_) hm he rfl hd
  cases r₁ with
  | cons a r =>
    cases r
    cases a with
    | bytes _ t =>
      have hp' := (hp _ ((F.grow g₁).wd ok).k)
      obtain ⟨o, ho, hc, hdn⟩ := hp'.2
      exact call_meets slot_re_Pattern_match ⟨o, ho, hc⟩ entry_re_Pattern_match (args_re_Pattern_match_2 _ _) (match_none (gi := gi) hs hn hg) ⟨hp'.1, k _ s₁ g₁ .none⟩
theorem Ev.group {apos pos : Pos} {P gd : Addr} {pl : Sem Bool} {o e1 : Expr} {code : Array Nat} {b : Array UInt8} {p q : Nat} {name : PySem.Str} {f : PySem.Str → Option Value} {tk : Tok} (ok : c.Ok)
    (hp : ∀ h, c.W.K.In h → IsPat h P 1 1 code (.ref gd) ∧ h.MapOf (PySem.strKind c.prog c.w) gd f) (hf : f name = some (.int 1 tk))
    (ho : Ev c ρ ω o (.mat P b p q)) (h1 : Ev c ρ ω e1 (.str name)) (hpq : p ≤ q) (hq : q ≤ b.size) (hsz : b.size ≤ 100000)
    (hm : eval (.Call (.Attribute o (PySem.Str.ofString "group") apos) [e1] [] pos) c.env = (do
      let ov ← eval o c.env
      standAt apos.atName
      let (f, first) ← holding [ov] (getMethod ov (PySem.Str.ofString "group") pl)
      callWith pos f first (backTo pos (starEach [e1] c.env)) []) := by rfl)
    (he : starEach [e1] c.env = [(false, eval e1 c.env)] := by rfl) :
    Ev c ρ ω (.Call (.Attribute o (PySem.Str.ofString "group") apos) [e1] [] pos) (.bytes (b.extract p q)) := .mk fun Y s F Q E k =>
  MethodCall_ (pl := pl) (ho.run Y s F _ E fun v s₁ g₁ r₁ => by
    cases r₁ with
    | @mat a _ tup _ _ _ t f2 f3 f4 e0 e1 m1 m2 m3 m4 =>
      have hT : s₁.sh.TypeIs (.ref a) "re.Match" := ⟨_, m1, rfl⟩
      with_reducible refine getMethod_builtin (T := "re.Match") hT plainAttrs_Match slot_re_Match_group type_re_Match_group (by intro a' e; cases e; exact ⟨_, m1, rfl⟩) ?_
      show wpAny _ _ (callWith pos (.builtin "re.Match.group") [.ref a] _ []) _ _ _
      refine (callWith_method1 ((Evs.cons h1 Evs.nil he).run pos Y s₁ (F.grow g₁) _ E fun vs s₂ g₂ r₂ => ?_) he rfl)
      cases r₂ with
      | cons x r =>
        cases r
        cases x with
        | str _ u =>
          have hp' := hp _ (((F.grow g₁).grow g₂).wd ok).k
          refine group_wp (u := u) hp'.1 hp'.2 hf hpq hq hsz (g₂.keep _ _ m1) (let ⟨n, e⟩ := m2; ⟨n, g₂.keep _ _ e⟩) fun t' tk' hle => ?_
          exact k _ (s₂.on s₂.heap tk') ((g₁.trans g₂).trans (Grow.tok s₂ hle)) (.bytes _ _)) hm
end
end Mine
end

section
open PySem PySem.W PyProof.Rows PySem.Calls PySem.SeqAt
set_option maxRecDepth 100000
namespace Mine

section
variable {c : Cx} {ρ : Vars} {ω : Owns} {P : Vars → Owns → Prop} {Rt : D → Prop}

/-! ## While -/
theorem Xs.while {test : Expr} {body : List Stmt} {pos : Pos} (Inv : Nat → Vars → Owns → Prop) (m₀ : Nat) (h0 : Inv m₀ ρ ω)
    (turn : ∀ n ρ' ω', Inv n ρ' ω' → ∃ b, Tr c ρ' ω' test b ∧ (b = true → Xq c body ρ' ω' (fun a o => ∃ m, m < n ∧ Inv m a o) Rt) ∧ (b = false → P ρ' ω')) :
    Xs c (.While test body [] pos) ρ ω P Rt := .mk fun Y s F Q E k1 k2 => by
  refine wpAny_While (codeAny_whileLoop (fun n sh' => ∃ (s' : Gs) (ρ' : Vars) (ω' : Owns), sh' = s'.sh ∧ Fs c Y ρ' ω' s' ∧ Inv n ρ' ω' ∧ Mv c ω ω' s s') ?_ m₀ ⟨s, ρ, ω, rfl, F, h0, Mv.refl c ω s⟩)
  rintro n _ ⟨s', ρ', ω', rfl, F', inv, mv⟩
  obtain ⟨b, ht, hb, hf⟩ := turn n ρ' ω' inv
  refine ht.run Y s' F' _ _ fun s₁ g₁ => ?_
  have mv₁ := mv.trans (Mv.of_grow g₁ (ω := ω'))
  cases b with
  | false =>
    simp only [Bool.false_eq_true, if_false]
    exact wpAny_execs_nil (k1 s₁ ρ' ω' (F'.grow g₁) mv₁ (hf rfl))
  | true =>
    simp only [if_true]
    refine (hb rfl).run Y s₁ (F'.grow g₁) _ _ (fun s₂ ρ₂ ω₂ F₂ mv₂ ⟨m, hm, i⟩ => ?_) fun v s₂ d fn r q => k2 v s₂ d fn r q
    exact ⟨m, hm, s₂, ρ₂, ω₂, rfl, F₂, i, mv₁.trans mv₂⟩

/-! ## Dicts -/
theorem pairs_any {p p' : Program} {w w' : World} {es : List DictEntry} {kvs : List (Int × Value)} (h : Pairs (PySem.intKind p w) es kvs) : Pairs (PySem.intKind p' w') es kvs := by
  induction h with
  | nil => exact .nil
  | cons a b _ ih => exact .cons a b ih
theorem tab_any {p p' : Program} {w w' : World} {l : List (PyData × PyData)} {o : Obj} (h : TabObj (PySem.intKind p w) PyData.int l o) : TabObj (PySem.intKind p' w') PyData.int l o := by
  obtain ⟨kvs, ⟨es, ep, h1, h2, h3, h4, h5⟩, hf⟩ := h
  exact ⟨kvs, ⟨es, ep, h1, h2, h3, pairs_any h4, h5⟩, hf⟩
theorem Ev.dict {keys : List (Option Expr)} {values : List Expr} {pos : Pos} {l : List (PyData × PyData)} (ok : c.Ok) (hD : litPairs keys values = some l) (hs : intKeyed l = true) (hn : (intKeysOf l).Nodup)
    (hall : keys.all (·.isSome) = true) (hl : keys.length = values.length) (h0 : keys ≠ []) (hlen : keys.length ≤ 15) : Ev c ρ ω (.Dict keys values pos) (.dic l) := .mk fun Y s F Q E k => by
  refine wpAny_with_toks (Nat.le_refl s.toks) (Dict_lits_int (s := s.sh) hD hs hn hall hl h0 hlen fun a o h₁ tk ha ho ht hk hle => ?_)
  have g : Grow s (s.on h₁ tk) := Grow.of hk hle
  have dead : s.heap.get? a = none := dead_at _ ha
  refine k _ (s.on h₁ tk) g (.dic ho (fun p w => tab_any ht) ?_ fun q => ?_)
  · have := modules_low (F.wd ok).t.nolimit
    exact beq_eq_false_iff_ne.mpr (Nat.ne_of_gt (Nat.lt_of_lt_of_le this ha))
  · obtain ⟨o', e⟩ := F.xlive _ q
    rw [e] at dead; cases dead
theorem flat_str {s : Gs} {X : Addr → Prop} {v : Value} {x : PySem.Str} (h : PyProof.V.Flat v (.str x)) : Rep s X v (.str x) := by
  obtain ⟨t, rfl⟩ := h.str_inv; exact .str x t
theorem flat_int {s : Gs} {X : Addr → Prop} {v : Value} {x : Int} (h : PyProof.V.Flat v (.int x)) : Rep s X v (.int x) := by
  obtain ⟨t, rfl⟩ := h.int_inv; exact .int x t
theorem Ev.item_dic {value slice : Expr} {pos : Pos} {l : List (PyData × PyData)} {i : Int} {di : D} {x : PySem.Str} [hdi : IntD di i] (hv : Ev c ρ ω value (.dic l)) (hi : Ev c ρ ω slice di) (hx : PySem.Spec.lookup (.int i) l = some (.str x))
    (hs : ∀ a u, subscripted slice false (.ref a) (.int i u) = operate [.ref a, .int i u] (getItem (.ref a) (.int i u)) := by intro _ _; rfl) : Ev c ρ ω (.Subscript value slice pos) (.str x) := .mk fun Y s F Q E k =>
  Subscript_ (hv.run Y s F _ E fun v s₁ g₁ r₁ => hi.run Y s₁ (F.grow g₁) _ E fun u s₂ g₂ r₂ => by
    obtain ⟨_, rfl⟩ := hdi.val r₂
    have r₁' := r₁.grow g₂
    cases r₁' with
    | @dic a o l e ht hm hn =>
      obtain ⟨kvs, hd, hf⟩ := ht c.prog c.w
      have T : TabAt (PySem.intKind c.prog c.w) PyData.int s₂.heap a l := TabAt.ofObj hm e hd hf
      obtain ⟨_, _, hd', _⟩ := id T
      with_reducible refine tail_any (T := "dict") hd'.typeIs PySem.slot_dict_getitem.lookup (getItem_tab PyProof.V.same_int (intKind_is _ _ _ _) T hx fun v hv => ?_) (hs _ _)
      exact k v (s₂.on s₂.heap (s₂.toks + 1)) ((g₁.trans g₂).trans (Grow.tok s₂ (Nat.le_succ _))) (flat_str hv))
/-- a table of the text's own, by a text -/
theorem Ev.item_tab {x : PySem.Str} {p1 pos : Pos} {slice : Expr} {a : Addr} {f : PySem.Str → Option Value} {y : PySem.Str} {i : Int} {t : Tok} (ok : c.Ok) (hf : nsIn c.W.K mainGlobals x = some (some (.ref a))) (hx : c.env.kindOf x = some .globalImplicit)
    (hT : ∀ h, c.W.K.In h → h.MapOf (PySem.strKind c.prog c.w) a f) (hi : Ev c ρ ω slice (.str y)) (hl : f y = some (.int i t)) (ht : c.W.nums t = some i) (hd : (x == ("__debug__" : PySem.Str)) = false := by decide)
    (hs : ∀ a u, subscripted slice false (.ref a) (.str y u) = operate [.ref a, .str y u] (getItem (.ref a) (.str y u)) := by intro _ _; rfl) : Ev c ρ ω (.Subscript (.Name x p1) slice pos) (.sol i) := .mk fun Y s F Q E k =>
  Subscript_ (global_val ok F hf hx (hi.run Y s F _ E fun u s₂ g₂ r₂ => by
    cases r₂ with
    | str _ u =>
      have wd := (F.grow g₂).wd ok
      have M := hT _ wd.k
      with_reducible refine tail_any (T := "dict") M.typeIs PySem.slot_dict_getitem.lookup (wpAny_getItem_of (strKind_is _ _ _ _) M hl ?_) (hs _ _)
      exact k _ (s₂.on s₂.heap (s₂.toks + 1)) (g₂.trans (Grow.tok s₂ (Nat.le_succ _))) (.sol i t (wd.nums t i ht))) hd)

/-! ## Bytes -/
theorem Ev.item_bytes {value slice : Expr} {pos : Pos} {b : List UInt8} {i : Int} {di : D} {y : UInt8} [hdi : IntD di i] (hv : Ev c ρ ω value (.bytes b.toArray)) (hi : Ev c ρ ω slice di) (h0 : 0 ≤ i) (hx : b[i.toNat]? = some y) (hsz : b.length ≤ 100000)
    (hs : ∀ l u t, subscripted slice false (.bytes l t) (.int i u) = operate [.bytes l t, .int i u] (getItem (.bytes l t) (.int i u)) := by intro _ _ _; rfl) : Ev c ρ ω (.Subscript value slice pos) (.int y.toNat) := .mk fun Y s F Q E k =>
  Subscript_ (hv.run Y s F _ E fun v s₁ g₁ r₁ => hi.run Y s₁ (F.grow g₁) _ E fun u s₂ g₂ r₂ => by
    obtain ⟨_, rfl⟩ := hdi.val r₂
    obtain ⟨hlt, hy⟩ := List.getElem?_eq_some_iff.mp hx
    cases r₁ with
    | bytes _ t =>
      refine tail_any (T := "bytes") (typeIs_bytes _ _ _) FB.slot_bytes_getitem.lookup (getItem_bytes (by omega) h0 (by omega) ?_) (hs _ _ _)
      have : b.getD i.toNat 0 = y := by rw [List.getD_eq_getElem?_getD, hx]; rfl
      rw [this]
      exact k _ (s₂.on s₂.heap (s₂.toks + 1)) ((g₁.trans g₂).trans (Grow.tok s₂ (Nat.le_succ _))) (.int _ _))

theorem eqAt_bytes {A : Around} {s : Shared} {b : Array UInt8} {t u : Tok} : EqAt A s (.bytes b t) (.bytes b u) true := fun prog w E Q h => by
  unfold eqBool
  show wpAny _ _ (if (Value.bytes b t == Value.bytes b u) = true then _ else _) Q E s
  by_cases hab : (Value.bytes b t == Value.bytes b u) = true
  · rw [if_pos hab]
    exact wpAny_bind (wpAny_rule (wpAny_pure h))
  · rw [if_neg hab]
    refine wpAny_bind (richCompare_gives (op := .Eq) (T := "bytes") rfl rfl FB.slot_bytes_eq FB.entry_bytes_eq (FB.args_bytes_eq_2 _ _) (gives_bytes_eq b b t u) (fun x => nomatch x) ?_)
    have : (b.toList == b.toList) = true := beq_self_eq_true _
    rw [this]
    exact wpAny_truthy_bool h
/-- two lists of bytes that are alike -/
theorem Op2.neBs {xs : List (Array UInt8)} (ok : c.Ok) : Op2 c (compareOp .NotEq) (.lst (xs.map D.bytes)) (.lst (xs.map D.bytes)) (.bool false) := .mk fun X s v u hX rv ru Q E k => by
  cases rv with
  | @lst a vs _ p hn rs => cases ru with
    | @lst a' vs' _ p' hn' rs' =>
      have e1 := bytesAre rs
      have e2 := bytesAre rs'
      have l1 : vs.size = xs.length := by have := e1.length; simpa using this
      have l2 : vs'.size = xs.length := by have := e2.length; simpa using this
      have hu : c.A.units < cLine := by have := ok.room.units; omega
      have := RcNeAt.lists (e := fun _ => true) p.isList p'.isList (by rw [l1, l2]) hu (fun j h1 h2 => by
        obtain ⟨b, t, q1, q2⟩ := e1.get j (by simpa using h1)
        obtain ⟨b', t', q1', q2'⟩ := e2.get j (by simpa using h2)
        rw [q2] at q2'; cases q2'
        have z1 : vs[j] = .bytes b t := by simpa [h1] using q1
        have z2 : vs'[j] = .bytes b t' := by simpa [h2] using q1'
        rw [z1, z2]
        exact eqAt_bytes)
      have ht : (List.range vs.size).all (fun _ => true) = true := by simp
      rw [ht] at this
      exact this c.prog c.w E Q (k _ s (Grow.refl s) (.bool _))
end
end Mine
end

section
open PySem PySem.W PyProof.Rows PySem.Calls PySem.SeqAt
set_option maxRecDepth 100000
namespace Mine

/-! ## Two sources side by side -/
section
variable {prog : Program} {w : World} {A : Around} {E : Value → Shared → Prop} {s : Shared}

theorem tup_draw {it t : Addr} {i : Nat} {items : Array Value} {x : Value} {Q : Value → Shared → Prop} (hit : s.heap.IsTupleIter it t i) (ht : s.heap.IsTuple t items) (hx : items[i]? = some x)
    (hQ : ∀ h', h'.IsTupleIter it t (i + 1) → Heap.SameBut it s.heap h' → Q x { s with heap := h' }) : wpAny (model prog w) A (Builtin.SmallTypes.nextOf (.ref it)) Q E s := by
  obtain ⟨o, ho, hc, hd⟩ := id hit
  obtain ⟨ol, hol, _, nl, hdl⟩ := ht
  unfold Builtin.SmallTypes.nextOf
  refine wpAny_bind (wpAny_callSpecial?_slot (name := Str.ofString "__next__") hit.typeIs F.slot_tuple_iterator_next (wpAny_call_entry F.slot_tuple_iterator_next hit.typeIs F.entry_tuple_iterator_next ?_ (F.args_tuple_iterator_next_1 _)))
  show wpAny _ _ (field (.ref it) 0 >>= _) _ _ s
  refine wpAny_bind (wpAny_field ho hd (x := .ref t) rfl ?_)
  show wpAny _ _ (if (Value.ref t == Value.none) = true then _ else _) _ _ s
  rw [if_neg (show ¬ ((Value.ref t == Value.none) = true) from Bool.false_ne_true)]
  show wpAny _ _ (field (.ref it) 1 >>= _) _ _ s
  refine wpAny_bind (wpAny_field ho hd (x := .int i 0) rfl ?_)
  show wpAny _ _ (seqItems? (.ref t) >>= _) _ _ s
  refine wpAny_bind (wpAny_seqItems hol hdl ?_)
  simp only [Int.toNat_natCast, hx]
  refine wpAny_bind (wpAny_setField ho hd (by simp) (wpAny_pure ⟨x, rfl, wpAny_pure (hQ _ ?_ (Heap.SameBut.update ..))⟩))
  exact ⟨_, Heap.get?_update_self _ ho (Obj.isFreed_of_fields (Obj.data_mapFields hd _)), (Obj.cls_mapFields ..).trans hc, by rw [Obj.data_mapFields hd]; simp [rawInt]⟩

/-- a source that has n items to give -/
structure Feed (prog : Program) (w : World) (A : Around) (it : Addr) (fp : List Addr) (n : Nat) (P : Nat → Value → Prop) (St : Nat → Heap → Prop) : Prop where
  live : ∀ i h, St i h → ∃ o, h.get? it = some o
  frame : ∀ i h h', St i h → (∀ b ∈ fp, ∀ o, h.get? b = some o → h'.get? b = some o) → St i h'
  item : ∀ i (s : Shared) (Q : Value → Shared → Prop) (E : Value → Shared → Prop), i < n → St i s.heap →
    (∀ x h' tk, P i x → St (i + 1) h' → Heap.SameBut it s.heap h' → Q x { s with heap := h', toks := tk }) → wpAny (model prog w) A (Builtin.SmallTypes.nextOf (.ref it)) Q E s
theorem Feed.of_draws {it : Addr} {fp : List Addr} {n : Nat} {P : Nat → Value → Prop} {St : Nat → Heap → Prop} (D : Draws prog w A it fp n P St) : Feed prog w A it fp n P St := ⟨D.live, D.frame, D.item⟩
theorem Feed.tuple (it t : Addr) (hne : t ≠ it) (items : Array Value) : Feed prog w A it [it, t] items.size (fun i v => items[i]? = some v) (fun i h => h.IsTupleIter it t i ∧ h.IsTuple t items) where
  live := fun _ _ st => let ⟨o, ho, _⟩ := st.1; ⟨o, ho⟩
  frame := fun _ _ _ st hk => ⟨let ⟨o, e, r⟩ := st.1; ⟨o, hk it (by simp) o e, r⟩, st.2.at fun o e => hk t (by simp) o e⟩
  item := fun i s Q E hi st hQ => by
    refine tup_draw st.1 st.2 (x := items[i]) (by simp [hi]) fun h' hit' hs' => ?_
    exact hQ _ h' s.toks (by simp [hi]) ⟨hit', st.2.extBut hs'.extBut hne⟩ hs'

theorem zipF_item {z TI TO i1 i2 : Addr} {fp1 fp2 : List Addr} {n k : Nat} {P1 P2 : Nat → Value → Prop} {S1 S2 : Nat → Heap → Prop} {a b : Value} {Q : Value → Shared → Prop}
    (F1 : Feed prog w A i1 fp1 n P1 S1) (F2 : Feed prog w A i2 fp2 n P2 S2) (d1 : z ∉ fp1 ∧ TO ∉ fp1 ∧ i2 ∉ fp1) (d2 : z ∉ fp2 ∧ TO ∉ fp2 ∧ i1 ∉ fp2) (m1 : i1 ∈ fp1) (m2 : i2 ∈ fp2) (e1 : TO ≠ z) (e2 : TI ≠ z)
    (hz : IsZip s.heap z TI TO .none) (hTI : IsPair s.heap TI (.ref i1) (.ref i2)) (hTO : IsPair s.heap TO a b) (h1 : S1 k s.heap) (h2 : S2 k s.heap) (hk : k < n)
    (hQ : ∀ x y h' tk, P1 k x → P2 k y → IsZip h' z TI TO (rawInt s.heap.objs.size) → IsPair h' TO x y → S1 (k + 1) h' → S2 (k + 1) h' → IsPair h' s.heap.objs.size x y →
      (∀ c o, c ≠ z → c ≠ TO → c ≠ i1 → c ≠ i2 → s.heap.get? c = some o → h'.get? c = some o) → Q (.ref s.heap.objs.size) { s with heap := h', toks := tk }) :
    wpAny (model prog w) A (Builtin.«zip.__next__» ⟨[.ref z], []⟩) (fun fin s' => ∃ v, fin = .done (.ret v) ∧ Q v s') E s := by
  have n1z : i1 ≠ z := fun q => d1.1 (q ▸ m1)
  have n2z : i2 ≠ z := fun q => d2.1 (q ▸ m2)
  have n1T : i1 ≠ TO := fun q => d1.2.1 (q ▸ m1)
  have n2T : i2 ≠ TO := fun q => d2.2.1 (q ▸ m2)
  have fr1 : ∀ {j h h' b}, S1 j h → b ∉ fp1 → Heap.SameBut b h h' → S1 j h' := fun st hb hs => F1.frame _ _ _ st fun c hc o e => hs.extBut c o (fun q => hb (q ▸ hc)) e
  have fr2 : ∀ {j h h' b}, S2 j h → b ∉ fp2 → Heap.SameBut b h h' → S2 j h' := fun st hb hs => F2.frame _ _ _ st fun c hc o e => hs.extBut c o (fun q => hb (q ▸ hc)) e
  show wpAny _ _ (field (.ref z) 2 >>= _) _ _ _
  refine wpAny_bind (wpAny_field hz rfl (x := .bool false) rfl ?_)
  show wpAny _ _ (field (.ref z) 3 >>= _) _ _ _
  refine wpAny_bind (wpAny_field hz rfl (x := .ref TI) rfl (wpAny_bind (wpAny_seqItems hTI rfl ?_)))
  show wpAny _ _ (Builtin.SmallTypes.ownedTupleIsFree (.ref z) >>= _) _ _ _
  unfold Builtin.SmallTypes.ownedTupleIsFree
  refine wpAny_bind (wpAny_bind (wpAny_field hz rfl (x := .none) rfl (wpAny_pure ?_)))
  simp only [if_true]
  refine wpAny_bind (wpAny_rule (wpAny_bind (wpAny_field hz rfl (x := .ref TO) rfl (wpAny_bind (wpAny_setField_rec hz (by simp) fun g₁ z₁ s₁ => ?_)))))
  replace z₁ : IsZip g₁ z TI TO .ellipsis := z₁
  refine wpAny_bind ?_
  simp only [List.zipIdx_cons, List.zipIdx_nil, List.forIn_cons, List.forIn_nil]
  refine wpAny_bind (wpAny_bind (wpAny_onRaise ?_))
  show wpAny _ _ (Builtin.SmallTypes.nextOf (.ref i1) >>= _) _ _ _
  refine wpAny_bind (F1.item k { s with heap := g₁ } _ _ hk (fr1 h1 d1.1 s₁) fun x g₂ tk₂ hx st₂ s₂ => wpAny_pure ?_)
  have t₂ : IsPair g₂ TO a b := s₂.extBut _ _ n1T.symm (s₁.extBut _ _ e1 hTO)
  refine wpAny_bind (wpAny_seqItems (s := { s with heap := g₂, toks := tk₂ }) t₂ rfl (wpAny_bind (wpAny_updateSeq_pair t₂ fun g₃ t₃ s₃ => wpAny_bind (wpAny_letGo (wpAny_pure ?_)))))
  replace t₃ : IsPair g₃ TO x b := t₃
  refine wpAny_bind (wpAny_bind (wpAny_onRaise ?_))
  show wpAny _ _ (Builtin.SmallTypes.nextOf (.ref i2) >>= _) _ _ _
  refine wpAny_bind (F2.item k { s with heap := g₃, toks := tk₂ } _ _ hk (fr2 (fr2 (fr2 h2 d2.1 s₁) d2.2.2 s₂) d2.2.1 s₃) fun y g₄ tk₄ hy st₄ s₄ => wpAny_pure ?_)
  have t₄ : IsPair g₄ TO x b := s₄.extBut _ _ n2T.symm t₃
  refine wpAny_bind (wpAny_seqItems (s := { s with heap := g₄, toks := tk₄ }) t₄ rfl (wpAny_bind (wpAny_updateSeq_pair t₄ fun g₅ t₅ s₅ => wpAny_bind (wpAny_letGo (wpAny_pure (wpAny_pure ?_))))))
  replace t₅ : IsPair g₅ TO x y := t₅
  refine wpAny_bind (wpAny_seqItems (s := { s with heap := g₅, toks := tk₄ }) t₅ rfl (wpAny_bind (wpAny_newTuple ?_)))
  have sz : g₅.objs.size = s.heap.objs.size := by rw [s₅.1, s₄.1, s₃.1, s₂.1, s₁.1]
  have z₅ : IsZip g₅ z TI TO .ellipsis := s₅.extBut _ _ e1.symm (s₄.extBut _ _ n2z.symm (s₃.extBut _ _ e1.symm (s₂.extBut _ _ n1z.symm z₁)))
  have k₅ : ∀ c o, c ≠ z → c ≠ TO → c ≠ i1 → c ≠ i2 → s.heap.get? c = some o → g₅.get? c = some o := fun c o c1 c2 c3 c4 e =>
    s₅.extBut _ _ c2 (s₄.extBut _ _ c4 (s₃.extBut _ _ c2 (s₂.extBut _ _ c3 (s₁.extBut _ _ c1 e))))
  have zl : z < g₅.objs.size := Heap.lt_size z₅
  show wpAny _ _ (Builtin.SmallTypes.ownedTupleHandOut (.ref z) (.ref g₅.objs.size) >>= _) _ _ _
  unfold Builtin.SmallTypes.ownedTupleHandOut
  refine wpAny_bind ?_
  have z₆ : IsZip (g₅.push { cls := .type "tuple", data := .seq #[x, y] }) z TI TO .ellipsis := Heap.get?_push_of_some _ z₅
  refine wpAny_bind (wpAny_setField_rec z₆ (by simp) fun g₇ z₇ s₇ => ?_)
  replace z₇ : IsZip g₇ z TI TO (rawInt g₅.objs.size) := z₇
  refine wpAny_setField_rec z₇ (by simp) fun g₈ z₈ s₈ => ?_
  replace z₈ : IsZip g₈ z TI TO (rawInt g₅.objs.size) := z₈
  have up : ∀ c o, c ≠ z → g₅.get? c = some o → g₈.get? c = some o := fun c o c1 e => s₈.extBut _ _ c1 (s₇.extBut _ _ c1 (Heap.get?_push_of_some _ e))
  have T₈ : IsPair g₈ g₅.objs.size x y := s₈.extBut _ _ (Nat.ne_of_gt zl) (s₇.extBut _ _ (Nat.ne_of_gt zl) (Heap.get?_push_size _ rfl))
  have S₁ : S1 (k + 1) g₈ := F1.frame _ _ _ (fr1 (fr1 (fr1 st₂ d1.2.1 s₃) d1.2.2 s₄) d1.2.1 s₅) fun c hc o e => up c o (fun q => d1.1 (q ▸ hc)) e
  have S₂ : S2 (k + 1) g₈ := F2.frame _ _ _ (fr2 st₄ d2.2.1 s₅) fun c hc o e => up c o (fun q => d2.1 (q ▸ hc)) e
  rw [sz] at z₈ T₈
  refine wpAny_pure ⟨_, rfl, ?_⟩
  show Q (.ref g₅.objs.size) _
  rw [sz]
  exact hQ x y g₈ tk₄ hx hy z₈ (up _ _ e1 t₅) S₁ S₂ T₈ fun c o c1 c2 c3 c4 e => up c o c1 (k₅ c o c1 c2 c3 c4 e)

theorem zipF_end {z TI TO i1 i2 : Addr} {fp1 : List Addr} {n : Nat} {P1 : Nat → Value → Prop} {S1 : Nat → Heap → Prop} {Q : PySem.Fin → Shared → Prop}
    (F1 : Draws prog w A i1 fp1 n P1 S1) (hz1 : z ∉ fp1) (m1 : i1 ∈ fp1)
    (hz : IsZip s.heap z TI TO .none) (hTI : IsPair s.heap TI (.ref i1) (.ref i2)) (h1 : S1 n s.heap)
    (hE : ∀ h' e, (∀ c o, c ≠ z → c ≠ i1 → s.heap.get? c = some o → h'.get? c = some o) → (∃ o, h'.get? e = some o ∧ o.cls = .type "StopIteration") → E (.ref e) { s with heap := h' }) :
    wpAny (model prog w) A (Builtin.«zip.__next__» ⟨[.ref z], []⟩) Q E s := by
  have n1z : i1 ≠ z := fun q => hz1 (q ▸ m1)
  show wpAny _ _ (field (.ref z) 2 >>= _) _ _ _
  refine wpAny_bind (wpAny_field hz rfl (x := .bool false) rfl ?_)
  show wpAny _ _ (field (.ref z) 3 >>= _) _ _ _
  refine wpAny_bind (wpAny_field hz rfl (x := .ref TI) rfl (wpAny_bind (wpAny_seqItems hTI rfl ?_)))
  show wpAny _ _ (Builtin.SmallTypes.ownedTupleIsFree (.ref z) >>= _) _ _ _
  unfold Builtin.SmallTypes.ownedTupleIsFree
  refine wpAny_bind (wpAny_bind (wpAny_field hz rfl (x := .none) rfl (wpAny_pure ?_)))
  simp only [if_true]
  refine wpAny_bind (wpAny_rule (wpAny_bind (wpAny_field hz rfl (x := .ref TO) rfl (wpAny_bind (wpAny_setField_rec hz (by simp) fun g₁ z₁ s₁ => ?_)))))
  replace z₁ : IsZip g₁ z TI TO .ellipsis := z₁
  refine wpAny_bind ?_
  simp only [List.zipIdx_cons, List.zipIdx_nil, List.forIn_cons, List.forIn_nil]
  refine wpAny_bind (wpAny_bind (wpAny_onRaise ?_))
  show wpAny _ _ (Builtin.SmallTypes.nextOf (.ref i1) >>= _) _ _ _
  refine wpAny_bind (F1.done { s with heap := g₁ } _ _ (F1.frame _ _ _ h1 fun c hc o e => s₁.extBut c o (fun q => hz1 (q ▸ hc)) e) fun g₂ e s₂ he => ?_)
  obtain ⟨oe, hoe, hce⟩ := he
  have z₂ : IsZip g₂ z TI TO .ellipsis := s₂ _ _ n1z.symm z₁
  have hez : e ≠ z := fun q => by subst q; rw [z₂] at hoe; cases hoe; simp at hce
  exact wpAny_setField_rec z₂ (by simp) fun g₃ _ s₃ => hE g₃ e (fun c o c1 c2 x => s₃.extBut _ _ c1 (s₂ _ _ c2 (s₁.extBut _ _ c1 x))) ⟨oe, s₃.extBut _ _ hez hoe, hce⟩
end

theorem Walks.zipF {prog : Program} {w : World} {A : Around} (hh : A.handled = none) {z TI TO i1 i2 : Addr} {fp1 fp2 : List Addr} {n : Nat} {P1 P2 : Nat → Value → Prop} {S1 S2 : Nat → Heap → Prop}
    (F1 : Draws prog w A.in1 i1 fp1 n P1 S1) (F2 : Feed prog w A.in1 i2 fp2 n P2 S2) (d1 : z ∉ fp1 ∧ TO ∉ fp1 ∧ i2 ∉ fp1) (d2 : z ∉ fp2 ∧ TO ∉ fp2 ∧ i1 ∉ fp2) (m1 : i1 ∈ fp1) (m2 : i2 ∈ fp2) (e1 : TO ≠ z) (e2 : TI ≠ z) (e3 : TI ≠ TO) (e4 : TI ≠ i1) (e5 : TI ≠ i2) :
    WalksU prog w A z ([z, TI, TO, i1, i2] ++ fp1 ++ fp2) [z, TO, i1, i2] n (fun i vals => ∃ x y, P1 i x ∧ P2 i y ∧ vals = #[x, y])
      (fun i h => IsZip h z TI TO .none ∧ IsPair h TI (.ref i1) (.ref i2) ∧ (∃ a b, IsPair h TO a b) ∧ S1 i h ∧ S2 i h)
      (fun i T h => IsZip h z TI TO (rawInt T) ∧ IsPair h TI (.ref i1) (.ref i2) ∧ (∃ a b, IsPair h TO a b) ∧ S1 (i + 1) h ∧ S2 (i + 1) h ∧ T ≠ z ∧ T ≠ TO ∧ T ≠ i1 ∧ T ≠ i2) where
  sub := fun c hc => by simp at hc ⊢; rcases hc with rfl | rfl | rfl | rfl <;> simp
  frame := fun i h h' hst hk => by
    obtain ⟨hz, hTI, ⟨a, b, hTO⟩, h1, h2⟩ := hst
    exact ⟨hk z (by simp) _ hz, hk TI (by simp) _ hTI, ⟨a, b, hk TO (by simp) _ hTO⟩, F1.frame _ _ _ h1 fun c hc o e => hk c (by simp [hc]) o e, F2.frame _ _ _ h2 fun c hc o e => hk c (by simp [hc]) o e⟩
  item := fun i s Q E hi hst hQ => by
    obtain ⟨hz, hTI, ⟨a, b, hTO⟩, h1, h2⟩ := hst
    have hT : s.TypeIs (.ref z) "zip" := ⟨_, hz, rfl⟩
    unfold pyNext
    refine wpAny_bind (wpAny_attempt (wpAny_callSpecial?_slot (name := Str.ofString "__next__") hT F.slot_zip_next (wpAny_call_entry F.slot_zip_next hT F.entry_zip_next
      (zipF_item (.of_draws F1) F2 d1 d2 m1 m2 e1 e2 hz hTI hTO h1 h2 hi fun x y h' tk hx hy b1 b2 b3 b4 b5 hk => wpAny_pure ?_) (F.args_zip_next_1 _))))
    have lt : ∀ {c o}, s.heap.get? c = some o → s.heap.objs.size ≠ c := fun e => Nat.ne_of_gt (Heap.lt_size e)
    exact hQ _ #[x, y] h' tk ⟨x, y, hx, hy, rfl⟩ ⟨_, b5, rfl, _, rfl⟩ ⟨b1, hk _ _ e2 e3 e4 e5 hTI, ⟨_, _, b2⟩, b3, b4, lt hz, lt hTO, (let ⟨_, e⟩ := F1.live _ _ h1; lt e), (let ⟨_, e⟩ := F2.live _ _ h2; lt e)⟩
      fun c o hc e => hk c o (fun x => hc (by simp [x])) (fun x => hc (by simp [x])) (fun x => hc (by simp [x])) (fun x => hc (by simp [x])) e
  go := fun elts k pos i T s Q E hm hQ => by
    obtain ⟨hz, hTI, ⟨a, b, hTO⟩, h1, h2, _⟩ := hm
    exact wpAny_letOwnedTupleGo_zip hz fun h' hz' hs' => hQ h' ⟨hz', hs'.extBut _ _ e2 hTI, ⟨a, b, hs'.extBut _ _ e1 hTO⟩, F1.frame _ _ _ h1 fun c hc o e => hs'.extBut c o (fun q => d1.1 (q ▸ hc)) e,
      F2.frame _ _ _ h2 fun c hc o e => hs'.extBut c o (fun q => d2.1 (q ▸ hc)) e⟩ fun c o hc e => hs'.extBut _ _ (fun x => hc (by simp [x])) e
  apart := fun i T h hm hT => by
    obtain ⟨_, _, _, _, _, t1, t2, t3, t4⟩ := hm
    simp at hT
    rcases hT with rfl | rfl | rfl | rfl
    · exact t1 rfl
    · exact t2 rfl
    · exact t3 rfl
    · exact t4 rfl
  done := fun s Q E hst hQ => by
    obtain ⟨hz, hTI, ⟨a, b, hTO⟩, h1, h2⟩ := hst
    have hT : s.TypeIs (.ref z) "zip" := ⟨_, hz, rfl⟩
    unfold pyNext
    refine wpAny_bind (wpAny_attempt (wpAny_callSpecial?_slot (name := Str.ofString "__next__") hT F.slot_zip_next (wpAny_call_entry F.slot_zip_next hT F.entry_zip_next
      (zipF_end F1 d1.1 m1 hz hTI h1 fun h' e hk he => ?_) (F.args_zip_next_1 _))))
    obtain ⟨o, ho, hc⟩ := he
    exact wpAny_bind (wpAny_isInstance (T := "StopIteration") (b := true) ⟨o, ho, hc⟩ isSubtype_stop (wpAny_pure (hQ _ s.toks fun c o hc e => hk c o (fun x => hc (by simp [x])) (fun x => hc (by simp [x])) e)))
  self := fun i s Q E hst hQ => wpAny_pyIter_zip hst.1 hQ

noncomputable def zp (h : Heap) (l t : Addr) : Heap := ((((h.push { cls := .type "list_iterator", data := .fields #[.ref l, .int 0 0] }).push { cls := .type "tuple_iterator", data := .fields #[.ref t, .int 0 0] }).push
  { cls := .type "tuple", data := .seq #[.ref h.objs.size, .ref (h.objs.size + 1)] }).push { cls := .type "tuple", data := .seq #[.none, .none] }).push { cls := .type "zip", data := .fields #[.none, .bool false, .bool false, .ref (h.objs.size + 2), .ref (h.objs.size + 3)] }
theorem zip_new_lt (l t : Addr) (xs ys : Array Value) : Meets (Builtin.«zip.__new__» ⟨[.type "zip", .ref l, .ref t], []⟩) (fun _ R s => s.heap.IsList l xs ∧ s.heap.IsTuple t ys ∧ R (.ok (.ret (.ref (s.heap.objs.size + 4)))) { s with heap := zp s.heap l t }) :=
  .of_wp fun prog w A R s h => by
    obtain ⟨hp, g, d, tk, os⟩ := s; obtain ⟨hl, ht, h⟩ := h
    have hsub := sub_zip
    have hL1 : Heap.IsList (Shared.heap ⟨hp, g, d, tk, os⟩) l xs := hl
    have hL2 : Heap.IsTuple (Shared.heap ⟨hp.push { cls := .type "list_iterator", data := .fields #[.ref l, .int 0 0] }, g, d, tk, os⟩) t ys := Heap.IsTuple.push ht _
    wp_walk using wpAny_pyIter_list hL1, wpAny_pyIter_tuple hL2
    refine ⟨_, rfl, ?_⟩
    simp only [Heap.size_push]
    exact h
end Mine
end

section
open PySem PySem.W PyProof.Rows PySem.Calls PySem.SeqAt
set_option maxRecDepth 100000
namespace Mine

noncomputable def zipD (xs ys : List D) : List D := List.zipWith (fun a b => .tup [a, b]) xs ys
theorem zipD_get {xs ys : List D} {i : Nat} {d : D} (h : (zipD xs ys)[i]? = some d) : ∃ a b, xs[i]? = some a ∧ ys[i]? = some b ∧ d = .tup [a, b] := by
  unfold zipD at h
  rw [List.getElem?_zipWith] at h
  cases hx : xs[i]? with
  | none => rw [hx] at h; simp at h
  | some a => cases hy : ys[i]? with
    | none => rw [hx, hy] at h; simp at h
    | some b => rw [hx, hy] at h; simp at h; exact ⟨a, b, rfl, rfl, h.symm⟩
theorem zipD_length {xs ys : List D} (h : xs.length = ys.length) : (zipD xs ys).length = xs.length := by unfold zipD; simp [h]

theorem zne {N a b : Nat} (h : a ≠ b) : N + a ≠ N + b := by omega
theorem zapart1 {N l : Nat} (h : l < N) : N + 4 ∉ [N, l] ∧ N + 3 ∉ [N, l] ∧ N + 1 ∉ [N, l] := by simp; omega
theorem zapart2 {N t : Nat} (h : t < N) : N + 4 ∉ [N + 1, t] ∧ N + 3 ∉ [N + 1, t] ∧ N ∉ [N + 1, t] := by simp; omega
section
variable {c : Cx} {ρ : Vars} {ω : Owns}
theorem It.zip {x : PySem.Str} {p1 pos : Pos} {e1 e2 : Expr} {xs ys : List D} (ok : c.Ok) (hx : TyName c x "zip") (h1 : Ev c ρ ω e1 (.lst xs)) (h2 : Ev c ρ ω e2 (.tup ys)) (hl : xs.length = ys.length)
    (he1 : starEach [e2] c.env = (false, eval e2 c.env) :: starEach [] c.env := by rfl)
    (he : starEach [e1, e2] c.env = (false, eval e1 c.env) :: starEach [e2] c.env := by rfl) (hpl : (backTo pos (starEach [e2] c.env)).any (·.1) = false := by rfl) :
    It c ρ ω (.Call (.Name x p1) [e1, e2] [] pos) true (zipD xs ys) := .mk fun Y s F Q E k => callType ok hx (Evs.cons h1 (Evs.cons h2 Evs.nil he1) he) F (fun vs s₁ g₁ rs => by
  cases rs with
  | cons r rs => cases rs with
    | cons r' rs =>
      cases rs
      cases r with
      | @lst l vs _ p hn rs => cases r' with
        | @tup t us _ q hm rt =>
          obtain ⟨n, e⟩ := id p
          obtain ⟨m, e'⟩ := id q
          generalize hN : s₁.heap.objs.size = N at *
          have alt : l < N := hN ▸ Heap.lt_size e
          have tlt : t < N := hN ▸ Heap.lt_size e'
          have l1 : vs.size = xs.length := by have := rs.length; simpa using this
          have l2 : us.size = ys.length := by have := rt.length; simpa using this
          refine callType_new PySem.F.called_zip (by decide) (PySem.F.typeCall_zip_2 _ _) (PySem.F.newCall_zip_2 _ _) (fun obj => PySem.F.args_object_init_3 obj _ _) PySem.F.entry_zip_new (zip_new_lt l t vs us) ⟨p.isList, q.isTuple, ?_⟩
          have keep : ∀ b o, s₁.heap.get? b = some o → (zp s₁.heap l t).get? b = some o := fun b o e =>
            Heap.get?_push_of_some _ (Heap.get?_push_of_some _ (Heap.get?_push_of_some _ (Heap.get?_push_of_some _ (Heap.get?_push_of_some _ e))))
          have g₂ : Grow s₁ (s₁.on (zp s₁.heap l t) s₁.toks) := Grow.of keep (Nat.le_refl _)
          have z5 : IsZip (zp s₁.heap l t) (N + 4) (N + 2) (N + 3) .none := by
            have := Heap.get?_push_size ((((s₁.heap.push { cls := .type "list_iterator", data := .fields #[.ref l, .int 0 0] }).push { cls := .type "tuple_iterator", data := .fields #[.ref t, .int 0 0] }).push { cls := .type "tuple", data := .seq #[.ref s₁.heap.objs.size, .ref (s₁.heap.objs.size + 1)] }).push { cls := .type "tuple", data := .seq #[.none, .none] }) (o := { cls := .type "zip", data := .fields #[.none, .bool false, .bool false, .ref (s₁.heap.objs.size + 2), .ref (s₁.heap.objs.size + 3)] }) rfl
            simp only [Heap.size_push, hN] at this
            unfold zp
            rw [hN]
            exact this
          have z4 : IsPair (zp s₁.heap l t) (N + 3) .none .none := by
            have := Heap.get?_push_of_some ({ cls := .type "zip", data := .fields #[.none, .bool false, .bool false, .ref (s₁.heap.objs.size + 2), .ref (s₁.heap.objs.size + 3)] }) (Heap.get?_push_size (((s₁.heap.push { cls := .type "list_iterator", data := .fields #[.ref l, .int 0 0] }).push { cls := .type "tuple_iterator", data := .fields #[.ref t, .int 0 0] }).push { cls := .type "tuple", data := .seq #[.ref s₁.heap.objs.size, .ref (s₁.heap.objs.size + 1)] }) (o := { cls := .type "tuple", data := .seq #[.none, .none] }) rfl)
            simp only [Heap.size_push, hN] at this
            unfold zp
            rw [hN]
            exact this
          have z3 : IsPair (zp s₁.heap l t) (N + 2) (.ref N) (.ref (N + 1)) := by
            have := Heap.get?_push_of_some ({ cls := .type "zip", data := .fields #[.none, .bool false, .bool false, .ref (s₁.heap.objs.size + 2), .ref (s₁.heap.objs.size + 3)] }) (Heap.get?_push_of_some ({ cls := .type "tuple", data := .seq #[.none, .none] }) (Heap.get?_push_size ((s₁.heap.push { cls := .type "list_iterator", data := .fields #[.ref l, .int 0 0] }).push { cls := .type "tuple_iterator", data := .fields #[.ref t, .int 0 0] }) (o := { cls := .type "tuple", data := .seq #[.ref s₁.heap.objs.size, .ref (s₁.heap.objs.size + 1)] }) rfl))
            simp only [Heap.size_push, hN] at this
            unfold zp
            rw [hN]
            exact this
          have z2 : (zp s₁.heap l t).IsTupleIter (N + 1) t 0 := by
            have := Heap.get?_push_of_some ({ cls := .type "zip", data := .fields #[.none, .bool false, .bool false, .ref (s₁.heap.objs.size + 2), .ref (s₁.heap.objs.size + 3)] }) (Heap.get?_push_of_some ({ cls := .type "tuple", data := .seq #[.none, .none] }) (Heap.get?_push_of_some ({ cls := .type "tuple", data := .seq #[.ref s₁.heap.objs.size, .ref (s₁.heap.objs.size + 1)] }) (Heap.get?_push_size (s₁.heap.push { cls := .type "list_iterator", data := .fields #[.ref l, .int 0 0] }) (o := { cls := .type "tuple_iterator", data := .fields #[.ref t, .int 0 0] }) rfl)))
            simp only [Heap.size_push, hN] at this
            unfold zp
            rw [hN]
            exact ⟨_, this, rfl, rfl⟩
          have z1 : (zp s₁.heap l t).IsListIter N l 0 := by
            have := Heap.get?_push_of_some ({ cls := .type "zip", data := .fields #[.none, .bool false, .bool false, .ref (s₁.heap.objs.size + 2), .ref (s₁.heap.objs.size + 3)] }) (Heap.get?_push_of_some ({ cls := .type "tuple", data := .seq #[.none, .none] }) (Heap.get?_push_of_some ({ cls := .type "tuple", data := .seq #[.ref s₁.heap.objs.size, .ref (s₁.heap.objs.size + 1)] }) (Heap.get?_push_of_some ({ cls := .type "tuple_iterator", data := .fields #[.ref t, .int 0 0] }) (Heap.get?_push_size s₁.heap (o := { cls := .type "list_iterator", data := .fields #[.ref l, .int 0 0] }) rfl))))
            simp only [Heap.size_push, hN] at this
            unfold zp
            rw [hN]
            exact ⟨_, this, rfl, rfl⟩
          have F1 := Draws.list (prog := c.prog) (w := c.w) (A := c.A.in1) ok.room.handled N l (Nat.ne_of_lt alt) vs
          have F2 := Feed.tuple (prog := c.prog) (w := c.w) (A := c.A.in1) (N + 1) t (Nat.ne_of_lt (Nat.lt_succ_of_lt tlt)) us
          rw [l2, ← hl, ← l1] at F2
          have W := Walks.zipF ok.room.handled F1 F2 (z := N + 4) (TI := N + 2) (TO := N + 3) (zapart1 alt) (zapart2 tlt) (by simp) (by simp) (zne (by decide)) (zne (by decide)) (zne (by decide)) (zne (b := 0) (by decide)) (zne (by decide))
          have hd : ∀ b ∈ [N + 4, N + 3, N, N + 1], s₁.heap.get? b = none := fun b hb => by
            simp at hb
            refine dead_at _ ?_
            rw [hN]; omega
          have S := Src.ofWalksU (its := zipD xs ys) (hp := s₁) (h₀ := zp s₁.heap l t) (X := Xω Y ω) W (l1.trans (zipD_length hl).symm) keep hd
            (fun b hb => by
              simp at hb
              have fr : s₁.heap.get? (N + 2) = none := dead_at _ (by rw [hN]; omega)
              rcases hb with rfl | rfl | rfl | rfl | rfl | rfl | rfl | rfl | rfl
              · exact .inl (by simp)
              · refine .inr ⟨fun q => ?_, _, z3⟩
                obtain ⟨o, e⟩ := (F.grow g₁).xlive _ q
                rw [e] at fr; cases fr
              · exact .inl (by simp)
              · exact .inl (by simp)
              · exact .inl (by simp)
              · exact .inl (by simp)
              · exact .inr ⟨hn, _, keep _ _ e⟩
              · exact .inl (by simp)
              · exact .inr ⟨hm, _, keep _ _ e'⟩)
            (fun i h st b hb => by
              simp at hb
              obtain ⟨a1, a2, ⟨_, _, a3⟩, ⟨⟨o1, a4, _⟩, _⟩, ⟨o2, a5, _⟩, _⟩ := st
              rcases hb with rfl | rfl | rfl | rfl
              · exact ⟨_, a1⟩
              · exact ⟨_, a3⟩
              · exact ⟨_, a4⟩
              · exact ⟨_, a5⟩)
            (fun i vals d hd hv => by
              obtain ⟨x, y, hx, hy, rfl⟩ := hv
              obtain ⟨a, b, ha, hb, rfl⟩ := zipD_get hd
              exact ⟨x, y, a, b, rfl, rfl, rs.at (by simpa using hx) ha, rt.at (by simpa using hy) hb⟩)
          have Wi : wpAny (model c.prog c.w) c.A (pyIter (.ref (N + 4))) Q E (s₁.on (zp s₁.heap l t) s₁.toks) := by
            refine wpAny_pyIter_zip z5 (k _ _ _ _ (g₁.trans g₂) (fun b hb => ⟨dead_back g₁ (hd b hb), ?_⟩) S ⟨Nat.zero_le _, ⟨z5, z3, ⟨_, _, z4⟩, ⟨z1, (plain_keep p (keep l)).isList⟩, z2, ?_⟩, fun b o _ e => keep b o e, g₂.ext⟩)
            · simp at hb
              rcases hb with rfl | rfl | rfl | rfl
              · exact ⟨_, z5⟩
              · exact ⟨_, z4⟩
              · obtain ⟨o, e, _⟩ := z1; exact ⟨o, e⟩
              · obtain ⟨o, e, _⟩ := z2; exact ⟨o, e⟩
            · exact ⟨_, keep _ _ e', rfl, _, rfl⟩
          show _ ∧ _
          refine ⟨⟨_, by rw [hN]; exact z5, rfl⟩, ?_⟩
          rw [hN]
          exact Wi) he hpl
end
end Mine
end

section
open PySem PySem.W PyProof.Rows PySem.Calls PySem.SeqAt
set_option maxRecDepth 100000
namespace Mine

/-! ## Comprehensions of two clauses -/
noncomputable def LC2 (elt tgt iter tgt2 iter2 : Expr) (scope : Scope) (pos : Pos) : Expr := .ListComp elt [⟨tgt, iter, [], 0⟩, ⟨tgt2, iter2, [], 0⟩] scope pos
noncomputable def emTwo (lc iter2 : Expr) (acc : Value) (env : Env) : Sem Unit := do
  let x ← eval iter2 env
  standAt iter2.pos
  let x ← foldedSetIterable iter2 env x
  let _ ← runOwn (.compStart lc 1 (← holding [x] (pyIter x)) acc env) env

theorem Emit.inner {c : Cx} (ok : c.Ok) (hown : c.own = false) {Dl : Addr} {ρ ρ₁ : Vars} {elt tgt iter tgt2 iter2 : Expr} {scope : Scope} {pos : Pos} {pair : Bool} {its : List D} {os : Nat → List D}
    (hit : It c ρ [] iter2 pair its) (htgt : TgtOk c [] pair tgt2) (hitem : ∀ i d, its[i]? = some d → Item c Dl ρ tgt2 [] (emOne elt (.ref Dl) c.env) d (os i)) (n₀ : c.s₀.heap.get? Dl = none) (hs : ∀ x, foldedSetIterable iter2 c.env x = pure x) (sub : Sub ρ₁ ρ) :
    Emit c Dl ρ ρ₁ (emTwo (.ListComp elt [⟨tgt, iter, [], 0⟩, ⟨tgt2, iter2, [], 0⟩] scope pos) iter2 (.ref Dl) c.env) ((List.range its.length).flatMap os) := .mk fun Y s out F yD hD hsz Q E k => by
  unfold emTwo
  refine wpAny_bind ?_
  refine wpAny_mono (hit.run Y s F (fun it s' => wpAny (model c.prog c.w) c.A (runOwn (.compStart (.ListComp elt [⟨tgt, iter, [], 0⟩, ⟨tgt2, iter2, [], 0⟩] scope pos) 1 it (.ref Dl) c.env) c.env) (fun _ => Q ()) E s') E fun it s₂ wr J g hwr src hJ => ?_) (fun x s₁ h₁ => ?_) fun _ _ x => x
  rotate_left
  · refine wpAny_bind (wpAny_standAt (wpAny_bind (wpAny_of_eq (hs x) (wpAny_bind (wpAny_holding (wpAny_mono h₁ (fun it s' h' => ?_) fun _ _ x => x))))))
    exact wpAny_bind (wpAny_mono h' (fun _ s'' h'' => wpAny_pure h'') fun _ _ x => x)
  · have hd : ∀ b, wr b → s.heap.get? b = none := fun b q => (hwr b q).1
    have F₂ := F.hide (Z := wr) g hd fun b q => (hwr b q).2
    have nw : ∀ {b o}, s.heap.get? b = some o → ¬ wr b := fun e q => by rw [hd _ q] at e; cases e
    have yw : ∀ b, Y b → ¬ wr b := fun b q => by obtain ⟨o, e⟩ := F.ylive b q; exact nw e
    have hD₂ : Filled c (fun b => Y b ∨ wr b) Dl out s₂ := by
      obtain ⟨vs, p, r⟩ := hD
      refine ⟨vs, plain_keep p (g.keep _), r.move g.ext (fun b o _ e => g.keep b o e) fun b o q e => ?_⟩
      rcases q with (q | q) | ⟨_, q, _⟩
      · exact .inl q
      · exact absurd q (nw e)
      · cases q
    refine wpAny_runOwn ?_
    have loop : codeAny (model c.prog c.w) c.A (.compLoop (.ListComp elt [⟨tgt, iter, [], 0⟩, ⟨tgt2, iter2, [], 0⟩] scope pos) 1 it (.ref Dl) c.env)
        (fun r s' => match r with | .ok f => Q () s' | .error e => cameBackBy (model c.prog c.w) c.A c.env E e s') s₂ := by
      refine comp_loop ok hown (turn_two1 elt tgt iter tgt2 iter2 scope pos it (.ref Dl) c.env) src htgt (os := os) hitem (n₀ := fun b q => ?_) (Y := Y) yw (fun b q => .inl (.inl q)) F.x₀ F.yl F.yc yD F₂ hJ hD₂ hsz fun s' F₅ hD₅ hk₅ hl₅ la => ?_
      · cases e : c.s₀.heap.get? b with
        | none => rfl
        | some o => exact absurd q (nw (F.keep _ _ e))
      · refine k s' (F₅.less sub) hD₅ (fun b o h1 h2 e => hk₅ b o h1 h2 (nw e) (g.keep b o e)) (fun b o e => hl₅ b o (nw e) (g.keep b o e)) (g.later.trans la)
    exact compStart_any (g := ⟨tgt2, iter2, [], 0⟩) rfl rfl loop (src.self 0 s₂ hJ _ _ loop)

section
variable {c : Cx} {ρ ρ' : Vars} {ω : Owns} {scope : Scope} {cl : List (Str × Addr)} {elt tgt iter : Expr} {ifs : List Expr} {pos ppos : Pos} {pair : Bool} {its : List D} {os : Nat → List D} {gs : List Comprehension} {em : Value → Env → Sem Unit}

end

/-- the two clauses' items, each by itself -/
structure Body2 (c : Cx) (scope : Scope) (cl : List (Str × Addr)) (ρ' : Vars) (pair : Bool) (tgt : Expr) (pair2 : Bool) (tgt2 iter2 elt : Expr) (its : List D) (its2 : Nat → List D) (os : Nat → Nat → D) : Prop where
  run : ∀ C s₂ X₀, (c.comp scope cl C s₂ X₀).Ok → TgtOk (c.comp scope cl C s₂ X₀) [] pair tgt ∧ TgtOk (c.comp scope cl C s₂ X₀) [] pair2 tgt2 ∧
    ∀ i d, its[i]? = some d → Sub ρ' (binds tgt d ++ ρ') ∧ It (c.comp scope cl C s₂ X₀) (binds tgt d ++ ρ') [] iter2 pair2 (its2 i) ∧ (∀ x, foldedSetIterable iter2 (c.comp scope cl C s₂ X₀).env x = pure x) ∧
      ∀ j e, (its2 i)[j]? = some e → Sub (binds tgt d ++ ρ') (binds tgt2 e ++ (binds tgt d ++ ρ')) ∧ Ev (c.comp scope cl C s₂ X₀) (binds tgt2 e ++ (binds tgt d ++ ρ')) [] elt (os i j)
theorem Body2.toG {c : Cx} {scope : Scope} {cl : List (Str × Addr)} {ρ' : Vars} {pair pair2 : Bool} {tgt iter tgt2 iter2 elt : Expr} {pos : Pos} {its : List D} {its2 : Nat → List D} {os : Nat → Nat → D}
    (h : Body2 c scope cl ρ' pair tgt pair2 tgt2 iter2 elt its its2 os) :
    BodyG c scope cl ρ' pair tgt [] (emTwo (.ListComp elt [⟨tgt, iter, [], 0⟩, ⟨tgt2, iter2, [], 0⟩] scope pos) iter2) its (fun i => (List.range (its2 i).length).flatMap fun j => [os i j]) := .mk fun C s₂ X₀ Dl ok hD => by
  obtain ⟨h1, h2, h3⟩ := h.run C s₂ X₀ ok
  refine ⟨h1, fun i d hd => ?_⟩
  obtain ⟨s1, hit, hs, hj⟩ := h3 i d hd
  refine ⟨true, Tests.nil, fun _ => ?_, fun q => (by cases q), s1⟩
  refine Emit.inner ok rfl hit h2 (fun j e he => ?_) hD hs s1
  obtain ⟨s2, hev⟩ := hj j e he
  exact ⟨true, Tests.nil, fun _ => Emit.append hD hev s2, fun q => (by cases q), s2⟩
end Mine
end

section
open PySem PySem.W PyProof.Rows PySem.Calls PySem.SeqAt
namespace Mine

/-! ## The text's functions -/
structure FnIs (K : Frag) (x : PySem.Str) (i : Nat) : Prop where
  ex : ∃ f oc od fd osl, nsIn K mainGlobals x = some (some (.ref f)) ∧ K.lookup f = some ⟨oc, od, .func fd, osl⟩ ∧ codeIn K fd.code fd.qualname = true ∧ fd.body = .stmts (bodyOf i) ∧ fd.scope = scopeOf i ∧ fd.params = paramsOf i ∧
    fd.closure = [] ∧ fd.globals = mainGlobals ∧ fd.builtins = builtinsNs ∧ fd.defaults = .none ∧ fd.kwdefaults = .none

/-- a call of the text's own function by its name -/
structure Fun (prog : Program) (w : World) (W : Wld) (n : Nat) (x : PySem.Str) (ds : List D) (d : D) : Prop where
  ex : ∃ f oc od fd osl, nsIn W.K mainGlobals x = some (some (.ref f)) ∧ W.K.lookup f = some ⟨oc, od, .func fd, osl⟩ ∧ CallTo prog w W n (.ref f) ds d

theorem Fun.more {prog : Program} {w : World} {W : Wld} {n m : Nat} {x : PySem.Str} {ds : List D} {d : D} (h : Fun prog w W n x ds d) (hm : n ≤ m) : Fun prog w W m x ds d := by
  obtain ⟨f, oc, od, fd, osl, a, b, c⟩ := h.ex
  exact ⟨f, oc, od, fd, osl, a, b, c.more hm⟩

theorem Ev.fn {c : Cx} {ρ : Vars} {ω : Owns} {x : PySem.Str} {p1 pos : Pos} {e : Expr} {es : List Expr} {ds : List D} {d : D} {n : Nat} (hc : Fun c.prog c.w c.W n x ds d) (ok : c.Ok) (hx : c.env.kindOf x = some .globalImplicit)
    (ha : Evs c ρ ω (e :: es) ds) (hn : n ≤ c.n := by exact Nat.le_refl _) (hd : (x == ("__debug__" : PySem.Str)) = false := by decide)
    (he : starEach (e :: es) c.env = (false, eval e c.env) :: starEach es c.env := by rfl) :
    Ev c ρ ω (.Call (.Name x p1) (e :: es) [] pos) d := by
  obtain ⟨f, oc, od, fd, osl, a, b, h⟩ := hc.ex
  exact Ev.callG ok a b hx ha (h.more hn) hd he

theorem Fun.of {prog : Program} {w : World} {W : Wld} {n : Nat} {x : PySem.Str} {i : Nat} {names : List PySem.Str} {ds : List D} {d : D} (H : FnIs W.K x i)
    (h : ∀ A L s₀ X₀ f qual code, Cx.Ok ⟨prog, w, W, A, n, envD (scopeOf i) L f qual code, s₀, X₀, true⟩ → Xq ⟨prog, w, W, A, n, envD (scopeOf i) L f qual code, s₀, X₀, true⟩ (bodyOf i) (names.zip ds) [] (fun _ _ => False) (· = d))
    (hl : names.length = ds.length := by rfl)
    (hbind : ∀ (fd : FuncData) (vs : List Value), fd.params = paramsOf i → fd.defaults = .none → fd.kwdefaults = .none → vs.length = names.length → bindArgs fd ⟨vs, []⟩ = pure (names.zip vs))
    (hnd : names.Nodup := by decide)
    (hkind : ∀ x ∈ names, (scopeOf i).names.lookup x = some .local ∨ (scopeOf i).names.lookup x = some .cell := by decide)
    (hco : (scopeOf i).isCoroutine = false := by rfl) (hgen : (scopeOf i).isGenerator = false := by rfl) (hk : (scopeOf i).kind = .function := by rfl) :
    Fun prog w W (n + 1) x ds d := by
  obtain ⟨f, oc, od, fd, osl, a, b, c, e1, e2, e3, e4, e5, e6, e7, e8⟩ := H.ex
  exact ⟨f, oc, od, fd, osl, a, b, callTo_def b c e1 e2 e4 e5 e6 (fun vs hv => hbind fd vs e3 e7 e8 hv) hl hnd hkind hco hgen hk fun A L s₀ X₀ q cd ok => h A L s₀ X₀ f q cd ok⟩


end Mine
end

section
open PySem PySem.W PyProof.Rows PySem.Calls PySem.SeqAt
set_option maxRecDepth 100000
namespace Mine

/-- what the proof reads of the text's state -/
structure Known (prog : Program) (w : World) (K : Frag) (nums : Tok → Option Int) : Prop where
  fInt2AP : FnIs K "Int2AP" 3
  fParseFlags : FnIs K "ParseFlags" 4
  fAnd : FnIs K "and_" 6
  fShl : FnIs K "lshift" 7
  fContains : FnIs K "contains" 8
  fIndexOf : FnIs K "indexOf" 9
  fIor : FnIs K "ior" 10
  fQuote : FnIs K "_quote_periods" 15
  fEols : FnIs K "_fix_eols" 16
  fTerm : FnIs K "ISTERMINAL" 69
  fNonterm : FnIs K "ISNONTERMINAL" 70
  fEof : FnIs K "ISEOF" 71
  fDrawn : FnIs K "_law_drawn" 73
  fHeard : FnIs K "_law_heard" 74
  fPile : FnIs K "_law_pile" 75
  fEmpty : FnIs K "_law_empty" 76
  fPut : FnIs K "_law_put" 77
  fLeft : FnIs K "_law_left" 78
  fBehind : FnIs K "_law_behind" 79
  fLed : FnIs K "_law_led" 80
  fSpots : FnIs K "_law_spots" 81
  fLaw : FnIs K "law" 82
  offset : ∃ t, nsIn K mainGlobals "NT_OFFSET" = some (some (.int 256 t))
  marker : ∃ t, nsIn K mainGlobals "ENDMARKER" = some (some (.int 0 t))
  crlf : ∃ t, nsIn K mainGlobals "CRLF" = some (some (.str ⟨#[13, 10]⟩ t))
  bEnumerate : nsIn K mainGlobals "enumerate" = some none
  bRange : nsIn K mainGlobals "range" = some none
  bZip : nsIn K mainGlobals "zip" = some none
  bTuple : nsIn K mainGlobals "tuple" = some none
  bInt : nsIn K mainGlobals "int" = some none
  bLen : nsIn K mainGlobals "len" = some none
  bAbs : nsIn K mainGlobals "abs" = some none
  bDivmod : nsIn K mainGlobals "divmod" = some none
  flags : ∃ P gd f tk, nsIn K mainGlobals "Flags" = some (some (.ref P)) ∧ (∀ h, K.In h → IsPat h P 1 1 fcode (.ref gd) ∧ (∃ o, h.get? P = some o ∧ o.cls = .type "re.Pattern" ∧ o.dict = none) ∧ h.MapOf (PySem.strKind prog w) gd f) ∧ f "flags" = some (.int 1 tk)
  dots : ∃ P gi, nsIn K mainGlobals "_twin_re_1" = some (some (.ref P)) ∧ ∀ h, K.In h → IsPat h P 1 0 dcode gi ∧ ∃ o, h.get? P = some o ∧ o.cls = .type "re.Pattern" ∧ o.dict = none
  eols : ∃ P gi, nsIn K mainGlobals "_twin_re_2" = some (some (.ref P)) ∧ ∀ h, K.In h → IsPat h P 0 0 ecode gi ∧ ∃ o, h.get? P = some o ∧ o.cls = .type "re.Pattern" ∧ o.dict = none
  table : ∃ a f t1 t2 t3 t4 t5, nsIn K mainGlobals "EXACT_TOKEN_TYPES" = some (some (.ref a)) ∧ (∀ h, K.In h → h.MapOf (PySem.strKind prog w) a f) ∧ (f "." = some (.int 23 t1) ∧ nums t1 = some 23) ∧ (f "|" = some (.int 18 t2) ∧ nums t2 = some 18) ∧
    (f "*" = some (.int 16 t3) ∧ nums t3 = some 16) ∧ (f "<" = some (.int 20 t4) ∧ nums t4 = some 20) ∧ (f ">" = some (.int 21 t5) ∧ nums t5 = some 21)

theorem vs1 {vs : List Value} (h : vs.length = 1) : ∃ v, vs = [v] := List.length_eq_one_iff.mp h
theorem vsS {n : Nat} {vs : List Value} (h : vs.length = n + 1) : ∃ v us, vs = v :: us ∧ us.length = n := by
  cases vs with
  | nil => cases h
  | cons v us => exact ⟨v, us, rfl, Nat.succ.inj h⟩
theorem vs2 {vs : List Value} (h : vs.length = 2) : ∃ v u, vs = [v, u] := by
  obtain ⟨v, us, rfl, h'⟩ := vsS h
  obtain ⟨u, rfl⟩ := vs1 h'
  exact ⟨v, u, rfl⟩
theorem vs3 {vs : List Value} (h : vs.length = 3) : ∃ v u x, vs = [v, u, x] := by
  obtain ⟨v, us, rfl, h'⟩ := vsS h
  obtain ⟨u, x, rfl⟩ := vs2 h'
  exact ⟨v, u, x, rfl⟩
theorem vs4 {vs : List Value} (h : vs.length = 4) : ∃ v u x y, vs = [v, u, x, y] := by
  obtain ⟨v, us, rfl, h'⟩ := vsS h
  obtain ⟨u, x, y, rfl⟩ := vs3 h'
  exact ⟨v, u, x, y, rfl⟩
theorem bindsArgs {i : Nat} {names : List PySem.Str} {n : Nat} (hn : names.length = n)
    (h : ∀ (fd : FuncData) (vs : List Value), vs.length = n → bindArgs { fd with params := paramsOf i, defaults := .none, kwdefaults := .none } ⟨vs, []⟩ = pure (names.zip vs)) :
    ∀ (fd : FuncData) (vs : List Value), fd.params = paramsOf i → fd.defaults = .none → fd.kwdefaults = .none → vs.length = names.length → bindArgs fd ⟨vs, []⟩ = pure (names.zip vs) := by
  intro fd vs h1 h2 h3 hv
  have := h fd vs (hv.trans hn)
  obtain ⟨n, q, params, body, sc, g, cl, df, kd⟩ := fd
  cases h1; cases h2; cases h3
  exact this

section
variable {prog : Program} {w : World} {W : Wld}

theorem c_isterm {x : Int} {d : D} [hd : IntD d x] (H : Known prog w W.K W.nums) : Fun prog w W 1 "ISTERMINAL" [d] (.bool (decide (x < 256))) := by
  obtain ⟨t, hn⟩ := H.offset
  exact Fun.of (names := ["x"]) H.fTerm (fun A L s₀ X₀ f qual code ok => Xq.ret (Ev.cmp (Ev.name ok rfl) (Ev.gint ok hn rfl) Op2.lt) rfl)
    (hbind := bindsArgs rfl fun fd vs hv => by obtain ⟨v, rfl⟩ := vs1 hv; rfl)
theorem c_isnonterm {x : Int} {d : D} [hd : IntD d x] (H : Known prog w W.K W.nums) : Fun prog w W 1 "ISNONTERMINAL" [d] (.bool (decide (256 ≤ x))) := by
  obtain ⟨t, hn⟩ := H.offset
  exact Fun.of (names := ["x"]) H.fNonterm (fun A L s₀ X₀ f qual code ok => Xq.ret (Ev.cmp (Ev.name ok rfl) (Ev.gint ok hn rfl) Op2.ge) rfl)
    (hbind := bindsArgs rfl fun fd vs hv => by obtain ⟨v, rfl⟩ := vs1 hv; rfl)
theorem c_iseof {x : Int} {d : D} [hd : IntD d x] (H : Known prog w W.K W.nums) : Fun prog w W 1 "ISEOF" [d] (.bool (x == 0)) := by
  obtain ⟨t, hn⟩ := H.marker
  exact Fun.of (names := ["x"]) H.fEof (fun A L s₀ X₀ f qual code ok => Xq.ret (Ev.cmp (Ev.name ok rfl) (Ev.gint ok hn rfl) Op2.eq) rfl)
    (hbind := bindsArgs rfl fun fd vs hv => by obtain ⟨v, rfl⟩ := vs1 hv; rfl)
theorem c_and {x y : Int} {d e : D} [hd : IntD d x] [he : IntD e y] (H : Known prog w W.K W.nums) : Fun prog w W 1 "and_" [d, e] (.sol (Builtin.bitAnd x y)) :=
  Fun.of (names := ["a", "b"]) H.fAnd (fun A L s₀ X₀ f qual code ok => Xq.ret (Ev.bin (Ev.name ok rfl) (Ev.name ok rfl) Op2.and) rfl)
    (hbind := bindsArgs rfl fun fd vs hv => by obtain ⟨v, u, rfl⟩ := vs2 hv; rfl)
theorem c_shl {x y : Int} {d e : D} [hd : IntD d x] [he : IntD e y] (H : Known prog w W.K W.nums) (h0 : 0 ≤ y) (h1 : y ≤ 1000000) (h2 : x.natAbs < 2 ^ 64) : Fun prog w W 1 "lshift" [d, e] (.sol (x * 2 ^ y.toNat)) :=
  Fun.of (names := ["a", "b"]) H.fShl (fun A L s₀ X₀ f qual code ok => Xq.ret (Ev.bin (Ev.name ok rfl) (Ev.name ok rfl) (Op2.shl h0 h1 h2)) rfl)
    (hbind := bindsArgs rfl fun fd vs hv => by obtain ⟨v, u, rfl⟩ := vs2 hv; rfl)
theorem c_ior {x y : Int} {d e : D} [hd : IntD d x] [he : IntD e y] (H : Known prog w W.K W.nums) : Fun prog w W 1 "ior" [d, e] (.sol (Builtin.bitOr x y)) :=
  Fun.of (names := ["a", "b"]) H.fIor (fun A L s₀ X₀ f qual code ok =>
      Xq.consAt (Xs.augName ok rfl (Ev.name ok rfl) Op2.ior (.inl rfl) (by simp)) (Xq.ret (Ev.name ok rfl) rfl))
    (hbind := bindsArgs rfl fun fd vs hv => by obtain ⟨v, u, rfl⟩ := vs2 hv; rfl)
theorem c_contains {xs : List D} {d : D} {n m : Nat} (H : Known prog w W.K W.nums) (hd : Num d n) (hl : Num (.lst xs) m) (hn : n ≤ 1000) : Fun prog w W 1 "contains" [.lst xs, d] (.bool (xs.any fun y => y.eqv d)) :=
  Fun.of (names := ["a", "b"]) H.fContains (fun A L s₀ X₀ f qual code ok => Xq.ret (Ev.cmp (Ev.name ok rfl) (Ev.name ok rfl) (Op2.isin ok hd hl hn)) rfl)
    (hbind := bindsArgs rfl fun fd vs hv => by obtain ⟨v, u, rfl⟩ := vs2 hv; rfl)
end
end Mine
end

section
open PySem PySem.W PyProof.Rows PySem.Calls PySem.SeqAt
set_option maxRecDepth 100000
namespace Mine

/-! ## Expressions as trees -/
inductive T where
  | leaf (l : Int)
  | star (a : T)
  | alt (a b : T)
  | cat (a b : T)
  deriving DecidableEq
namespace T
noncomputable def enc : T → D
  | leaf l => .tup [.sol l]
  | star a => .tup [.sol 258, a.enc]
  | alt a b => .tup [.sol 257, a.enc, b.enc]
  | cat a b => .tup [.sol 256, a.enc, b.enc]
noncomputable def sym : T → Int
  | leaf l => l
  | star _ => 258
  | alt _ _ => 257
  | cat _ _ => 256
noncomputable def h : T → Nat
  | leaf _ => 0
  | star a => a.h + 1
  | alt a b => max a.h b.h + 1
  | cat a b => max a.h b.h + 1
/-- letters are small, none of them a sign -/
noncomputable def ok : T → Prop
  | leaf l => l < 256
  | star a => a.ok
  | alt a b => a.ok ∧ b.ok
  | cat a b => a.ok ∧ b.ok
noncomputable def empty : T → Bool
  | leaf l => l == 0
  | star _ => true
  | alt a b => a.empty || b.empty
  | cat a b => a.empty && b.empty
/-- is it the empty word alone? -/
noncomputable def isEps : T → Bool
  | leaf l => l == 0
  | _ => false
theorem isEps_sym (e : T) : (e.sym == 0) = e.isEps := by cases e <;> rfl
noncomputable def put (ps : List (Int × T)) (e : T) : List (Int × T) := ps.map fun p => (p.1, if p.2.isEps then e else cat p.2 e)
noncomputable def left : T → List (Int × T)
  | leaf l => if l = 0 then [] else [(l, leaf 0)]
  | star a => put a.left (star a)
  | alt a b => a.left ++ b.left.filter fun p => decide (p ∉ a.left)
  | cat a b => if a.empty then put a.left b ++ b.left.filter (fun p => decide (p ∉ put a.left b)) else put a.left b
noncomputable def behind : T → List (Int × T)
  | leaf l => [(l, leaf 0)]
  | star a => put a.behind (star a)
  | alt a b => a.behind ++ b.behind
  | cat a b => put a.behind b ++ b.behind
end T
noncomputable def encP (p : Int × T) : D := .tup [.sol p.1, p.2.enc]
theorem enc_num : ∀ e : T, Num e.enc (e.h + 1)
  | .leaf l => .tup fun d hd => by simp at hd; subst hd; exact .sol _ _
  | .star a => .tup fun d hd => by
    simp at hd
    rcases hd with rfl | rfl
    · exact .sol _ _
    · exact enc_num a
  | .alt a b => .tup fun d hd => by
    simp at hd
    rcases hd with rfl | rfl | rfl
    · exact .sol _ _
    · exact (enc_num a).more (Nat.succ_le_succ (Nat.le_max_left _ _))
    · exact (enc_num b).more (Nat.succ_le_succ (Nat.le_max_right _ _))
  | .cat a b => .tup fun d hd => by
    simp at hd
    rcases hd with rfl | rfl | rfl
    · exact .sol _ _
    · exact (enc_num a).more (Nat.succ_le_succ (Nat.le_max_left _ _))
    · exact (enc_num b).more (Nat.succ_le_succ (Nat.le_max_right _ _))
theorem encP_num (p : Int × T) : Num (encP p) (p.2.h + 2) := .tup fun d hd => by
  simp at hd
  rcases hd with rfl | rfl
  · exact .sol _ _
  · exact enc_num _
theorem enc_sol : ∀ e : T, Sol e.enc
  | .leaf l => .tup fun d hd => by simp at hd; subst hd; exact .sol _
  | .star a => .tup fun d hd => by
    simp at hd
    rcases hd with rfl | rfl
    · exact .sol _
    · exact enc_sol a
  | .alt a b => .tup fun d hd => by
    simp at hd
    rcases hd with rfl | rfl | rfl
    · exact .sol _
    · exact enc_sol a
    · exact enc_sol b
  | .cat a b => .tup fun d hd => by
    simp at hd
    rcases hd with rfl | rfl | rfl
    · exact .sol _
    · exact enc_sol a
    · exact enc_sol b

/-! ## Equality of trees -/
theorem eqv_tup {xs ys : List D} : D.eqv (.tup xs) (.tup ys) = PyData.eqvAll (xs.map D.py) (ys.map D.py) := by
  show PyData.eqvAll (D.pys xs) (D.pys ys) = _
  rw [D.pys_map, D.pys_map]
theorem eqv_lst {xs ys : List D} : D.eqv (.lst xs) (.lst ys) = PyData.eqvAll (xs.map D.py) (ys.map D.py) := by
  show PyData.eqvAll (D.pys xs) (D.pys ys) = _
  rw [D.pys_map, D.pys_map]
theorem eqvAll_cons {x y : D} {xs ys : List PyData} : PyData.eqvAll (x.py :: xs) (y.py :: ys) = (D.eqv x y && PyData.eqvAll xs ys) := rfl
theorem eqvAll_nil : PyData.eqvAll [] [] = true := rfl
theorem eqvAll_nil_cons {y : PyData} {ys : List PyData} : PyData.eqvAll [] (y :: ys) = false := rfl
theorem eqvAll_cons_nil {y : PyData} {ys : List PyData} : PyData.eqvAll (y :: ys) [] = false := rfl
theorem eqv_sol {i j : Int} : D.eqv (.sol i) (.sol j) = (i == j) := rfl
theorem eqv_int_sol {i j : Int} : D.eqv (.int i) (.sol j) = (i == j) := rfl

theorem enc_eqv : ∀ a b : T, D.eqv a.enc b.enc = decide (a = b)
  | .leaf l, b => by cases b <;> simp [T.enc, eqv_tup, eqvAll_cons, eqvAll_nil, eqvAll_nil_cons, eqvAll_cons_nil, eqv_sol, enc_eqv, Bool.beq_eq_decide_eq]
  | .star a, b => by cases b <;> simp [T.enc, eqv_tup, eqvAll_cons, eqvAll_nil, eqvAll_nil_cons, eqvAll_cons_nil, eqv_sol, enc_eqv a, Bool.beq_eq_decide_eq]
  | .alt a a', b => by cases b <;> simp [T.enc, eqv_tup, eqvAll_cons, eqvAll_nil, eqvAll_nil_cons, eqvAll_cons_nil, eqv_sol, enc_eqv a, enc_eqv a', Bool.beq_eq_decide_eq, Bool.decide_and]
  | .cat a a', b => by cases b <;> simp [T.enc, eqv_tup, eqvAll_cons, eqvAll_nil, eqvAll_nil_cons, eqvAll_cons_nil, eqv_sol, enc_eqv a, enc_eqv a', Bool.beq_eq_decide_eq, Bool.decide_and]
theorem encP_eqv (p q : Int × T) : D.eqv (encP p) (encP q) = decide (p = q) := by
  unfold encP
  rw [eqv_tup]
  obtain ⟨a, e⟩ := p
  obtain ⟨b, f⟩ := q
  simp [eqvAll_cons, eqvAll_nil, eqv_sol, enc_eqv, Bool.beq_eq_decide_eq, Bool.decide_and]
theorem any_encP (l : List (Int × T)) (p : Int × T) : ((l.map encP).any fun y => y.eqv (encP p)) = decide (p ∈ l) := by
  induction l with
  | nil => simp
  | cons q l ih =>
    rw [List.map_cons, List.any_cons, ih, encP_eqv]
    simp [List.mem_cons, Bool.decide_or, eq_comm]
theorem any_enc (l : List T) (p : T) : ((l.map T.enc).any fun y => y.eqv p.enc) = decide (p ∈ l) := by
  induction l with
  | nil => simp
  | cons q l ih =>
    rw [List.map_cons, List.any_cons, ih, enc_eqv]
    simp [List.mem_cons, Bool.decide_or, eq_comm]
end Mine
end

section
open PySem PySem.W PyProof.Rows PySem.Calls PySem.SeqAt
set_option maxRecDepth 100000
namespace Mine

section
variable {c : Cx} {ρ : Vars} {ω : Owns} {P : Vars → Owns → Prop} {Rt : D → Prop}
theorem Xq.skipB {t : Expr} {pos : Pos} {body rest : List Stmt} {b : Bool} (h : Tr c ρ ω t b) (hb : b = false) (hr : Xq c rest ρ ω P Rt) : Xq c (.If t body [] pos :: rest) ρ ω P Rt := by
  subst hb; exact Xq.skip h hr
theorem Xq.takenB {t : Expr} {pos : Pos} {body orelse rest : List Stmt} {b : Bool} (h : Tr c ρ ω t b) (hb : b = true) (hr : Xq c body ρ ω (fun _ _ => False) Rt) : Xq c (.If t body orelse pos :: rest) ρ ω P Rt := by
  subst hb; exact Xq.taken h hr
theorem Ev.to {e : Expr} {d d' : D} (h : Ev c ρ ω e d) (hd : d = d') : Ev c ρ ω e d' := hd ▸ h
theorem Tr.to {e : Expr} {d d' : Bool} (h : Tr c ρ ω e d) (hd : d = d') : Tr c ρ ω e d' := hd ▸ h
theorem Ev.sym {value : Expr} {k : Nat} {p pos : Pos} {e : T} (hv : Ev c ρ ω value e.enc) : Ev c ρ ω (.Subscript value (.Constant (.int 0) k p) pos) (.sol e.sym) := by
  cases e <;> exact Ev.item_tup hv Ev.int (by decide) rfl (by decide)
theorem Ev.at0 {value : Expr} {k : Nat} {p pos : Pos} {a : D} {l : List D} (hv : Ev c ρ ω value (.tup (a :: l))) : Ev c ρ ω (.Subscript value (.Constant (.int 0) k p) pos) a := Ev.item_tup hv Ev.int (by decide) rfl (by decide)
theorem Ev.at1 {value : Expr} {k : Nat} {p pos : Pos} {a b : D} {l : List D} (hv : Ev c ρ ω value (.tup (a :: b :: l))) : Ev c ρ ω (.Subscript value (.Constant (.int 1) k p) pos) b := Ev.item_tup hv Ev.int (by decide) rfl (by decide)
theorem Ev.at2 {value : Expr} {k : Nat} {p pos : Pos} {a b d : D} {l : List D} (hv : Ev c ρ ω value (.tup (a :: b :: d :: l))) : Ev c ρ ω (.Subscript value (.Constant (.int 2) k p) pos) d := Ev.item_tup hv Ev.int (by decide) rfl (by decide)
theorem Ev.at3 {value : Expr} {k : Nat} {p pos : Pos} {a b d f : D} {l : List D} (hv : Ev c ρ ω value (.tup (a :: b :: d :: f :: l))) : Ev c ρ ω (.Subscript value (.Constant (.int 3) k p) pos) f := Ev.item_tup hv Ev.int (by decide) rfl (by decide)
theorem Ev.tup {es : List Expr} {n : Nat} {pos : Pos} {ds : List D} (h : Evs c ρ ω es ds) (hsz : ds.length ≤ 1000 := by simp) : Ev c ρ ω (.Tuple es n pos) (.tup ds) := Ev.tuple h hsz
theorem Ev.lis {es : List Expr} {pos : Pos} {ds : List D} (h : Evs c ρ ω es ds) (hsz : ds.length ≤ 1000 := by simp) : Ev c ρ ω (.List es pos) (.lst ds) := Ev.list h hsz
theorem Evs.one {e : Expr} {d : D} (h : Ev c ρ ω e d) (he : starEach [e] c.env = (false, eval e c.env) :: starEach [] c.env := by rfl) : Evs c ρ ω [e] [d] := Evs.cons h Evs.nil he
end

section
variable {prog : Program} {w : World} {W : Wld}

theorem ne_sym {l k : Int} (h : l < 256) (hk : 256 ≤ k) : (l == k) = false := beq_eq_false_iff_ne.mpr (by omega)

theorem c_empty (H : Known prog w W.K W.nums) : ∀ t : T, t.ok → Fun prog w W (t.h + 2) "_law_empty" [t.enc] (.bool t.empty)
  | .leaf l, h => Fun.of (names := ["e"]) H.fEmpty (fun A L s₀ X₀ f qual code ok => by
      refine Xq.skipB (Tr.cmp (Ev.sym (e := .leaf l) (Ev.name ok rfl)) Ev.int Op2.eq) (ne_sym h (by decide)) ?_
      refine Xq.skipB (Tr.cmp (Ev.sym (e := .leaf l) (Ev.name ok rfl)) Ev.int Op2.eq) (ne_sym h (by decide)) ?_
      refine Xq.skipB (Tr.cmp (Ev.sym (e := .leaf l) (Ev.name ok rfl)) Ev.int Op2.eq) (ne_sym h (by decide)) ?_
      exact Xq.ret (Ev.fn (c_iseof H) ok rfl (Evs.one (Ev.sym (e := .leaf l) (Ev.name ok rfl)))) rfl)
    (hbind := bindsArgs rfl fun fd vs hv => by obtain ⟨v, rfl⟩ := vs1 hv; rfl)
  | .star a, h => Fun.of (names := ["e"]) H.fEmpty (fun A L s₀ X₀ f qual code ok => by
      exact Xq.takenB (Tr.cmp (Ev.sym (e := .star a) (Ev.name ok rfl)) Ev.int Op2.eq) rfl (Xq.ret Ev.cbool rfl))
    (hbind := bindsArgs rfl fun fd vs hv => by obtain ⟨v, rfl⟩ := vs1 hv; rfl)
  | .alt a b, h => Fun.of (names := ["e"]) H.fEmpty (fun A L s₀ X₀ f qual code ok => by
      refine Xq.skipB (Tr.cmp (Ev.sym (e := .alt a b) (Ev.name ok rfl)) Ev.int Op2.eq) rfl ?_
      refine Xq.takenB (Tr.cmp (Ev.sym (e := .alt a b) (Ev.name ok rfl)) Ev.int Op2.eq) rfl (Xq.ret ?_ rfl)
      exact Ev.or2 (Ev.fn (c_empty H a h.1) ok rfl (Evs.one (Ev.at1 (Ev.name ok rfl))) (by show a.h + 2 ≤ max a.h b.h + 1 + 1; omega))
        fun _ => (Ev.fn (c_empty H b h.2) ok rfl (Evs.one (Ev.at2 (Ev.name ok rfl))) (by show b.h + 2 ≤ max a.h b.h + 1 + 1; omega)))
    (hbind := bindsArgs rfl fun fd vs hv => by obtain ⟨v, rfl⟩ := vs1 hv; rfl)
  | .cat a b, h => Fun.of (names := ["e"]) H.fEmpty (fun A L s₀ X₀ f qual code ok => by
      refine Xq.skipB (Tr.cmp (Ev.sym (e := .cat a b) (Ev.name ok rfl)) Ev.int Op2.eq) rfl ?_
      refine Xq.skipB (Tr.cmp (Ev.sym (e := .cat a b) (Ev.name ok rfl)) Ev.int Op2.eq) rfl ?_
      refine Xq.takenB (Tr.cmp (Ev.sym (e := .cat a b) (Ev.name ok rfl)) Ev.int Op2.eq) rfl (Xq.ret ?_ rfl)
      exact Ev.and2 (Ev.fn (c_empty H a h.1) ok rfl (Evs.one (Ev.at1 (Ev.name ok rfl))) (by show a.h + 2 ≤ max a.h b.h + 1 + 1; omega))
        fun _ => (Ev.fn (c_empty H b h.2) ok rfl (Evs.one (Ev.at2 (Ev.name ok rfl))) (by show b.h + 2 ≤ max a.h b.h + 1 + 1; omega)))
    (hbind := bindsArgs rfl fun fd vs hv => by obtain ⟨v, rfl⟩ := vs1 hv; rfl)
end

/-! ## Comprehensions by a function -/
theorem Sub.new {ρ : Vars} {x : Str} {d : D} (h : ρ.lookup x = none) : Sub ρ ((x, d) :: ρ) := fun y e q => by
  rw [List.lookup_cons]
  cases hy : y == x with
  | true => rw [beq_iff_eq.mp hy, h] at q; cases q
  | false => exact q
theorem Captures.var {c : Cx} {scope : Scope} {cl : List (Str × Addr)} {ρ ρ' : Vars} {x : Str} {d : D} {a : Addr} (h1 : ρ.lookup x = some d) (h2 : c.env.kindOf x = some .cell) (h3 : (relabel scope c.env).names.lookup x = some .cell)
    (h4 : cl.lookup x = some a) (h5 : c.env.cells.lookup x = some a) (r : Captures c scope cl ρ ρ') : Captures c scope cl ρ ((x, d) :: ρ') := .cons h1 (by rw [h2]; intro q; cases q) (.inl h3) h4 h5 r
theorem mem_lookup' {cl : List (Str × Addr)} : ∀ {x : Str} {a : Addr}, cl.lookup x = some a → (x, a) ∈ cl := by
  induction cl with
  | nil => intro x a h; cases h
  | cons p cl ih =>
    intro x a h
    obtain ⟨y, b⟩ := p
    rw [List.lookup_cons] at h
    cases hy : x == y with
    | true => rw [hy] at h; cases h; rw [beq_iff_eq.mp hy]; exact .head _
    | false => rw [hy] at h; exact .tail _ (ih h)
theorem CompOk.of {c : Cx} {scope : Scope} {cl : List (Str × Addr)} (clos : closureFor scope c.env = pure cl) (sub : ∀ p ∈ cl, c.env.cells.lookup p.1 = some p.2) (nocell : ∀ y ∈ scope.names, y.2 ≠ .cell := by decide)
    (kind : scope.kind = .function := by rfl) (names : ∀ y ∈ scope.names, y.2 = .local → scope.names.lookup y.1 = some .local := by decide) : CompOk c scope cl := ⟨clos, fun x a h => sub _ (mem_lookup' h), nocell, kind, names⟩
theorem flat_map {α : Type} (g : α → D) : ∀ (ps : List α), (List.range ps.length).flatMap (fun i => (ps[i]?.map g).toList) = ps.map g
  | [] => rfl
  | a :: ps => by
    rw [List.length_cons, List.range_succ_eq_map, List.flatMap_cons, List.flatMap_map]
    have := flat_map g ps
    simp only [List.getElem?_cons_succ, List.getElem?_cons_zero, Option.map_some, Option.toList_some, List.singleton_append, List.map_cons]
    exact congrArg _ this
theorem flat_filter {α : Type} (g : α → D) (q : α → Bool) : ∀ (ps : List α), (List.range ps.length).flatMap (fun i => ((ps[i]?.filter q).map g).toList) = (ps.filter q).map g
  | [] => rfl
  | a :: ps => by
    rw [List.length_cons, List.range_succ_eq_map, List.flatMap_cons, List.flatMap_map]
    have := flat_filter g q ps
    simp only [List.getElem?_cons_succ, List.getElem?_cons_zero]
    rw [this, List.filter_cons]
    cases h : q a <;> simp [Option.filter, h]

section
variable {c : Cx} {ρ ρ' : Vars} {ω : Owns} {scope : Scope} {cl : List (Str × Addr)} {elt tgt iter : Expr} {ifs : List Expr} {pos ppos : Pos} {pair : Bool}
theorem Body.mapped {α : Type} {f g : α → D} {ps : List α} (htgt : ∀ C s₂ X₀, TgtOk (c.comp scope cl C s₂ X₀) [] pair tgt) (sub : ∀ a, a ∈ ps → Sub ρ' (binds tgt (f a) ++ ρ'))
    (helt : ∀ C s₂ X₀, (c.comp scope cl C s₂ X₀).Ok → ∀ a, a ∈ ps → Ev (c.comp scope cl C s₂ X₀) (binds tgt (f a) ++ ρ') [] elt (g a)) :
    Body c scope cl ρ' pair tgt [] elt (ps.map f) (fun i => (ps[i]?.map g).toList) := .mk fun C s₂ X₀ ok => ⟨htgt C s₂ X₀, fun i d hd => by
  rw [List.getElem?_map] at hd
  cases ha : ps[i]? with
  | none => rw [ha] at hd; cases hd
  | some a =>
    rw [ha] at hd; simp at hd; subst hd
    have hm := List.mem_of_getElem? ha
    exact ⟨true, Tests.nil, fun _ => ⟨g a, by simp, helt C s₂ X₀ ok a hm⟩, fun q => (by cases q), sub a hm⟩⟩
theorem Body.filtered {α : Type} {f g : α → D} {q : α → Bool} {ps : List α} {t : Expr} (htgt : ∀ C s₂ X₀, TgtOk (c.comp scope cl C s₂ X₀) [] pair tgt) (sub : ∀ a, a ∈ ps → Sub ρ' (binds tgt (f a) ++ ρ'))
    (htest : ∀ C s₂ X₀, (c.comp scope cl C s₂ X₀).Ok → ∀ a, a ∈ ps → Tr (c.comp scope cl C s₂ X₀) (binds tgt (f a) ++ ρ') [] t (q a))
    (helt : ∀ C s₂ X₀, (c.comp scope cl C s₂ X₀).Ok → ∀ a, a ∈ ps → q a = true → Ev (c.comp scope cl C s₂ X₀) (binds tgt (f a) ++ ρ') [] elt (g a)) :
    Body c scope cl ρ' pair tgt [t] elt (ps.map f) (fun i => ((ps[i]?.filter q).map g).toList) := .mk fun C s₂ X₀ ok => ⟨htgt C s₂ X₀, fun i d hd => by
  rw [List.getElem?_map] at hd
  cases ha : ps[i]? with
  | none => rw [ha] at hd; cases hd
  | some a =>
    rw [ha] at hd; simp at hd; subst hd
    have hm := List.mem_of_getElem? ha
    refine ⟨q a, Tests.one (htest C s₂ X₀ ok a hm), fun hq => ⟨g a, by simp [Option.filter, hq], helt C s₂ X₀ ok a hm hq⟩, fun hq => by simp [Option.filter, hq], sub a hm⟩⟩
theorem Ev.compMap {α : Type} {f g : α → D} {ps : List α} (ok : c.Ok) (co : CompOk c scope cl) (hit : It c ρ ω iter pair (ps.map f)) (hcap : Captures c scope cl ρ ρ')
    (htgt : ∀ C s₂ X₀, TgtOk (c.comp scope cl C s₂ X₀) [] pair tgt) (sub : ∀ a, a ∈ ps → Sub ρ' (binds tgt (f a) ++ ρ'))
    (helt : ∀ C s₂ X₀, (c.comp scope cl C s₂ X₀).Ok → ∀ a, a ∈ ps → Ev (c.comp scope cl C s₂ X₀) (binds tgt (f a) ++ ρ') [] elt (g a)) (hsz : ps.length ≤ 100000)
    (hs : ∀ x, foldedSetIterable iter c.env x = pure x := by intro _; rfl) : Ev c ρ ω (.ListComp elt [⟨tgt, iter, [], 0⟩] scope pos) (.lst (ps.map g)) := by
  have e := flat_map g ps
  have e2 : (ps.map f).length = ps.length := List.length_map ..
  have := Ev.comp (pos := pos) ok co hit hcap (Body.mapped htgt sub helt) (by rw [e2, e, List.length_map]; exact hsz) hs
  rw [e2, e] at this
  exact this
theorem Ev.compFilter {α : Type} {f g : α → D} {q : α → Bool} {ps : List α} {t : Expr} (ok : c.Ok) (co : CompOk c scope cl) (hit : It c ρ ω iter pair (ps.map f)) (hcap : Captures c scope cl ρ ρ')
    (htgt : ∀ C s₂ X₀, TgtOk (c.comp scope cl C s₂ X₀) [] pair tgt) (sub : ∀ a, a ∈ ps → Sub ρ' (binds tgt (f a) ++ ρ'))
    (htest : ∀ C s₂ X₀, (c.comp scope cl C s₂ X₀).Ok → ∀ a, a ∈ ps → Tr (c.comp scope cl C s₂ X₀) (binds tgt (f a) ++ ρ') [] t (q a))
    (helt : ∀ C s₂ X₀, (c.comp scope cl C s₂ X₀).Ok → ∀ a, a ∈ ps → q a = true → Ev (c.comp scope cl C s₂ X₀) (binds tgt (f a) ++ ρ') [] elt (g a)) (hsz : ps.length ≤ 100000)
    (hs : ∀ x, foldedSetIterable iter c.env x = pure x := by intro _; rfl) : Ev c ρ ω (.ListComp elt [⟨tgt, iter, [t], 0⟩] scope pos) (.lst ((ps.filter q).map g)) := by
  have e := flat_filter g q ps
  have e2 : (ps.map f).length = ps.length := List.length_map ..
  have := Ev.comp (pos := pos) ok co hit hcap (Body.filtered htgt sub htest helt) (by rw [e2, e, List.length_map]; exact Nat.le_trans (List.length_filter_le ..) hsz) hs
  rw [e2, e] at this
  exact this
theorem Xs.compMap {α : Type} {f g : α → D} {ps : List α} {x : Str} {p1 spos : Pos} {Rt : D → Prop} (ok : c.Ok) (co : CompOk c scope cl) (hit : It c ρ ω iter pair (ps.map f)) (hcap : Captures c scope cl ρ ρ')
    (htgt : ∀ C s₂ X₀, TgtOk (c.comp scope cl C s₂ X₀) [] pair tgt) (sub : ∀ a, a ∈ ps → Sub ρ' (binds tgt (f a) ++ ρ'))
    (helt : ∀ C s₂ X₀, (c.comp scope cl C s₂ X₀).Ok → ∀ a, a ∈ ps → Ev (c.comp scope cl C s₂ X₀) (binds tgt (f a) ++ ρ') [] elt (g a)) (hsz : ps.length ≤ 100000) (hx : c.stores x) (hω : x ∉ ω.map (·.1))
    (hsw : swapsWith (.ListComp elt [⟨tgt, iter, [], 0⟩] scope pos) (some (.Name x p1)) spos.line c.env = pure true)
    (hs : ∀ x, foldedSetIterable iter c.env x = pure x := by intro _; rfl) : Xs c (.Assign [.Name x p1] (.ListComp elt [⟨tgt, iter, [], 0⟩] scope pos) spos) ρ ω (fun a b => a = (x, .lst (ps.map g)) :: ρ ∧ b = ω) Rt := by
  have e := flat_map g ps
  have e2 : (ps.map f).length = ps.length := List.length_map ..
  have := Xs.assignComp (Rt := Rt) (P := fun _ _ => True) (pos := pos) (p1 := p1) (spos := spos) ok co hit hcap (Body.mapped htgt sub helt) (by rw [e2, e, List.length_map]; exact hsz) hx hω hsw hs
  rw [e2, e] at this
  exact this
end

section
variable {prog : Program} {w : World} {W : Wld}
theorem c_put (H : Known prog w W.K W.nums) (ps : List (Int × T)) (e : T) (hsz : ps.length ≤ 1000) : Fun prog w W 2 "_law_put" [.lst (ps.map encP), e.enc] (.lst ((T.put ps e).map encP)) :=
  Fun.of (names := ["pairs", "e"]) H.fPut (fun A L s₀ X₀ f qual code ok => by
      refine Xq.ret ?_ rfl
      rw [T.put, List.map_map]
      refine Ev.compMap (cl := [("e", L + 1)]) ok (CompOk.of rfl ?_) (It.pairs ok (Ev.name ok rfl) ?_) (.var (x := "e") rfl rfl rfl rfl rfl .nil) ?_ ?_ ?_ (Nat.le_trans hsz (by decide))
      · exact List.forall_mem_cons.mpr ⟨rfl, fun _ h => by cases h⟩
      · intro d hd
        obtain ⟨p, _, rfl⟩ := List.mem_map.mp hd
        exact ⟨_, _, rfl⟩
      · intro C s₂ X₀
        exact ⟨_, _, _, _, _, _, rfl, .inl rfl, .inl rfl, by simp, by simp⟩
      · intro p _
        exact (Sub.new rfl).trans (Sub.new rfl)
      · intro C s₂ X₀ ok' p _
        refine Ev.to (d := .tup [.sol p.1, T.enc (if p.2.isEps = true then e else T.cat p.2 e)]) (Ev.tup (Evs.cons (Ev.name ok' rfl) (Evs.one (Ev.ifexp (Tr.of (Ev.fn (c_iseof H) ok' rfl (Evs.one (Ev.sym (e := p.2) (Ev.name ok' rfl)))) Truth.bool) (fun hq => ?_) fun hq => ?_)))) rfl
        · rw [T.isEps_sym] at hq
          rw [if_pos hq]
          exact Ev.name ok' rfl
        · rw [T.isEps_sym] at hq
          rw [if_neg (by rw [hq]; exact Bool.false_ne_true)]
          exact Ev.tup (Evs.cons Ev.int (Evs.cons (Ev.name ok' rfl) (Evs.one (Ev.name ok' rfl)))))
    (hbind := bindsArgs rfl fun fd vs hv => by obtain ⟨v, u, rfl⟩ := vs2 hv; rfl)
end
end Mine
end

section
open PySem PySem.W PyProof.Rows PySem.Calls PySem.SeqAt
set_option maxRecDepth 100000
namespace Mine

namespace T
/-- how many letters -/
noncomputable def n : T → Nat
  | leaf _ => 1
  | star a => a.n
  | alt a b => a.n + b.n
  | cat a b => a.n + b.n
theorem h_star (a : T) : (star a).h = a.h + 1 := rfl
theorem h_alt (a b : T) : (alt a b).h = max a.h b.h + 1 := rfl
theorem h_cat (a b : T) : (cat a b).h = max a.h b.h + 1 := rfl
theorem put_length (ps : List (Int × T)) (e : T) : (put ps e).length = ps.length := List.length_map ..
theorem left_length : ∀ e : T, e.left.length ≤ e.n
  | leaf l => by unfold left n; split <;> simp
  | star a => by unfold left n; rw [put_length]; exact left_length a
  | alt a b => by
    unfold left n
    rw [List.length_append]
    exact Nat.add_le_add (left_length a) (Nat.le_trans (List.length_filter_le ..) (left_length b))
  | cat a b => by
    unfold left n
    split
    · rw [List.length_append, put_length]
      exact Nat.add_le_add (left_length a) (Nat.le_trans (List.length_filter_le ..) (left_length b))
    · rw [put_length]; exact Nat.le_trans (left_length a) (Nat.le_add_right _ _)
theorem behind_length : ∀ e : T, e.behind.length = e.n
  | leaf l => rfl
  | star a => by unfold behind n; rw [put_length]; exact behind_length a
  | alt a b => by unfold behind n; rw [List.length_append, behind_length a, behind_length b]
  | cat a b => by unfold behind n; rw [List.length_append, put_length, behind_length a, behind_length b]
theorem put_h {ps : List (Int × T)} {e : T} {k : Nat} (h : ∀ p ∈ ps, p.2.h ≤ k) (he : e.h ≤ k) : ∀ p ∈ put ps e, p.2.h ≤ k + 1 := fun p hp => by
  obtain ⟨q, hq, rfl⟩ := List.mem_map.mp hp
  dsimp only
  split
  · omega
  · show max q.2.h e.h + 1 ≤ _
    have := h q hq
    omega
theorem left_h : ∀ e : T, ∀ p ∈ e.left, p.2.h ≤ 2 * e.h
  | leaf l => by
    unfold left
    split
    · simp
    · intro p hp; simp at hp; subst hp; exact Nat.le_refl _
  | star a => by
    unfold left
    intro p hp
    have := put_h (k := 2 * a.h + 1) (fun p hp => Nat.le_succ_of_le (left_h a p hp)) (e := star a) (by rw [h_star]; omega) p hp
    rw [h_star]; omega
  | alt a b => by
    unfold left
    intro p hp
    rw [h_alt]
    rcases List.mem_append.mp hp with hp | hp
    · have := left_h a p hp; omega
    · have := left_h b p ((List.mem_filter.mp hp).1); omega
  | cat a b => by
    unfold left
    intro p hp
    rw [h_cat]
    have key : ∀ p ∈ put a.left b, p.2.h ≤ 2 * (max a.h b.h + 1) := fun p hp => by
      have := put_h (k := 2 * max a.h b.h) (fun p hp => Nat.le_trans (left_h a p hp) (by omega)) (e := b) (by omega) p hp
      omega
    split at hp
    · rcases List.mem_append.mp hp with hp | hp
      · exact key p hp
      · have := left_h b p ((List.mem_filter.mp hp).1); omega
    · exact key p hp
end T
theorem lst_num {ps : List (Int × T)} {k : Nat} (h : ∀ p ∈ ps, p.2.h ≤ k) : Num (.lst (ps.map encP)) (k + 2 + 1) := .lst fun d hd => by
  obtain ⟨p, hp, rfl⟩ := List.mem_map.mp hd
  exact (encP_num p).more (by have := h p hp; omega)
theorem lst_num' {ps : List T} {k : Nat} (h : ∀ p ∈ ps, p.h ≤ k) : Num (.lst (ps.map T.enc)) (k + 1 + 1) := .lst fun d hd => by
  obtain ⟨p, hp, rfl⟩ := List.mem_map.mp hd
  exact (enc_num p).more (by have := h p hp; omega)

section
variable {prog : Program} {w : World} {W : Wld}

theorem left_tail (H : Known prog w W.K W.nums) {A : Around} {L f : Addr} {s₀ : Gs} {X₀ : Addr → Prop} {qual : Str} {code : Value} {n : Nat} (ok : Cx.Ok ⟨prog, w, W, A, n, envD (scopeOf 78) L f qual code, s₀, X₀, true⟩)
    {ρ : Vars} {x : D} {e : T} {ds : List D} {got more : List (Int × T)} (hg : ρ.lookup ("got" : PySem.Str) = some (.lst (got.map encP))) (he : ρ.lookup ("e" : PySem.Str) = some (.tup ds)) (h2 : ds[2]? = some e.enc) {m : Nat} (hl : Fun prog w W m "_law_left" [e.enc] (.lst (more.map encP))) (hm : m ≤ n) (hn : 1 ≤ n)
    (k1 : ∀ p ∈ got, p.2.h ≤ 900) (k2 : ∀ p ∈ more, p.2.h ≤ 900) (l1 : got.length ≤ 1000) (l2 : more.length ≤ 1000) :
    Xq ⟨prog, w, W, A, n, envD (scopeOf 78) L f qual code, s₀, X₀, true⟩ ((bodyOf 78).drop 5) ρ [] (fun _ _ => False) (· = .lst ((got ++ more.filter fun p => decide (p ∉ got)).map encP)) := by
  refine Xq.ret ?_ rfl
  rw [List.map_append]
  refine Ev.bin (Ev.name ok hg) (Ev.compFilter (cl := [("got", L + 1)]) (f := encP) (ps := more) (pair := false) ok (CompOk.of rfl ?_) (It.list ok (Ev.fn hl ok rfl (Evs.one (Ev.item_tup (i := 2) (Ev.name ok he) Ev.int (by decide) h2 (by decide))) hm)) (.var (x := "got") hg rfl rfl rfl rfl .nil) ?_ ?_ ?_ ?_ (Nat.le_trans l2 (by decide))) (Op2.cat ?_)
  · exact List.forall_mem_cons.mpr ⟨rfl, fun _ h => by cases h⟩
  · intro C s₂ X₀
    exact ⟨_, _, rfl, .inl rfl, by simp⟩
  · intro p _
    exact Sub.new rfl
  · intro C s₂ X₀ ok' p hp
    refine (Tr.not (Tr.of (Ev.fn (c_contains H (encP_num p) (lst_num k1) ?_) ok' rfl (Evs.cons (Ev.name ok' rfl) (Evs.one (Ev.name ok' rfl))) hn) Truth.bool)).to ?_
    · have := k2 p hp; omega
    · rw [any_encP]; simp
  · intro C s₂ X₀ ok' p hp _
    exact Ev.name ok' rfl
  · rw [List.length_map, List.length_map]
    have := List.length_filter_le (fun p => decide (p ∉ got)) more
    omega

theorem c_left (H : Known prog w W.K W.nums) : ∀ t : T, t.ok → t.n ≤ 1000 → t.h ≤ 400 → Fun prog w W (t.h + 3) "_law_left" [t.enc] (.lst (t.left.map encP))
  | .leaf l, h, hn, hh => by
      refine Fun.of (names := ["e"]) H.fLeft ?_ (hbind := bindsArgs rfl fun fd vs hv => by obtain ⟨v, rfl⟩ := vs1 hv; rfl)
      intro A L s₀ X₀ f qual code ok
      by_cases h0 : l = 0
      · subst h0
        exact Xq.takenB (Tr.of (Ev.fn (c_iseof H) ok rfl (Evs.one (Ev.sym (e := .leaf 0) (Ev.name ok rfl))) (by show 1 ≤ 0 + 2; decide)) Truth.bool) rfl (Xq.ret (Ev.lis Evs.nil) rfl)
      · refine Xq.skipB (Tr.of (Ev.fn (c_iseof H) ok rfl (Evs.one (Ev.sym (e := .leaf l) (Ev.name ok rfl))) (by show 1 ≤ 0 + 2; decide)) Truth.bool) (beq_eq_false_iff_ne.mpr h0) ?_
        refine Xq.takenB (Tr.not (Tr.of (Ev.fn (c_isnonterm H) ok rfl (Evs.one (Ev.sym (e := .leaf l) (Ev.name ok rfl))) (by show 1 ≤ 0 + 2; decide)) Truth.bool)) ?_ (Xq.ret (Ev.lis (Evs.one (Ev.tup (Evs.cons (Ev.sym (e := .leaf l) (Ev.name ok rfl)) (Evs.one (Ev.tup (Evs.one Ev.int))))))) ?_)
        · have : ¬ (256 ≤ l) := by have : l < 256 := h; omega
          simp [T.sym, this]
        · unfold T.left
          rw [if_neg h0]
          rfl
  | .star a, h, hn, hh => by
      refine Fun.of (names := ["e"]) H.fLeft ?_ (hbind := bindsArgs rfl fun fd vs hv => by obtain ⟨v, rfl⟩ := vs1 hv; rfl)
      intro A L s₀ X₀ f qual code ok
      have ih := c_left H a h hn (by have : a.h + 1 ≤ 400 := hh; omega)
      refine Xq.skipB (Tr.of (Ev.fn (c_iseof H) ok rfl (Evs.one (Ev.sym (e := .star a) (Ev.name ok rfl))) (by show 1 ≤ _ + 1; omega)) Truth.bool) rfl ?_
      refine Xq.skipB (Tr.not (Tr.of (Ev.fn (c_isnonterm H) ok rfl (Evs.one (Ev.sym (e := .star a) (Ev.name ok rfl))) (by show 1 ≤ _ + 1; omega)) Truth.bool)) rfl ?_
      refine Xq.consAt (Xs.assign ok (Ev.fn ih ok rfl (Evs.one (Ev.at1 (Ev.name ok rfl))) (by show a.h + 3 ≤ a.h + 1 + 2; omega)) (.inr ⟨rfl, rfl, rfl⟩) (by simp) rfl) ?_
      refine Xq.takenB (Tr.cmp (Ev.sym (e := .star a) (Ev.name ok rfl)) Ev.int Op2.eq) rfl (Xq.ret (Ev.fn (c_put H a.left (.star a) (Nat.le_trans (T.left_length a) hn)) ok rfl (Evs.cons (Ev.name ok rfl) (Evs.one (Ev.name ok rfl))) (by show 2 ≤ a.h + 1 + 2; omega)) rfl)
  | .alt a b, h, hn, hh => by
      refine Fun.of (names := ["e"]) H.fLeft ?_ (hbind := bindsArgs rfl fun fd vs hv => by obtain ⟨v, rfl⟩ := vs1 hv; rfl)
      intro A L s₀ X₀ f qual code ok
      have na : a.n + b.n ≤ 1000 := hn
      have ha : max a.h b.h + 1 ≤ 400 := hh
      have ih := c_left H a h.1 (by omega) (by omega)
      have ih2 := c_left H b h.2 (by omega) (by omega)
      refine Xq.skipB (Tr.of (Ev.fn (c_iseof H) ok rfl (Evs.one (Ev.sym (e := .alt a b) (Ev.name ok rfl))) (by show 1 ≤ _ + 1; omega)) Truth.bool) rfl ?_
      refine Xq.skipB (Tr.not (Tr.of (Ev.fn (c_isnonterm H) ok rfl (Evs.one (Ev.sym (e := .alt a b) (Ev.name ok rfl))) (by show 1 ≤ _ + 1; omega)) Truth.bool)) rfl ?_
      refine Xq.consAt (Xs.assign ok (Ev.fn ih ok rfl (Evs.one (Ev.at1 (Ev.name ok rfl))) (by show a.h + 3 ≤ max a.h b.h + 1 + 2; omega)) (.inr ⟨rfl, rfl, rfl⟩) (by simp) rfl) ?_
      refine Xq.skipB (Tr.cmp (Ev.sym (e := .alt a b) (Ev.name ok rfl)) Ev.int Op2.eq) rfl ?_
      refine Xq.skipB (Tr.cmp (Ev.sym (e := .alt a b) (Ev.name ok rfl)) Ev.int Op2.eq) rfl ?_
      exact left_tail H ok (x := .none) (e := b) (got := a.left) (more := b.left) rfl rfl rfl ih2 (by show b.h + 3 ≤ max a.h b.h + 1 + 2; omega) (by show 1 ≤ max a.h b.h + 1 + 2; omega)
        (fun p hp => by have := T.left_h a p hp; omega) (fun p hp => by have := T.left_h b p hp; omega) (by have := T.left_length a; omega) (by have := T.left_length b; omega)
  | .cat a b, h, hn, hh => by
      refine Fun.of (names := ["e"]) H.fLeft ?_ (hbind := bindsArgs rfl fun fd vs hv => by obtain ⟨v, rfl⟩ := vs1 hv; rfl)
      intro A L s₀ X₀ f qual code ok
      have na : a.n + b.n ≤ 1000 := hn
      have ha : max a.h b.h + 1 ≤ 400 := hh
      have ih := c_left H a h.1 (by omega) (by omega)
      have ih2 := c_left H b h.2 (by omega) (by omega)
      have lp := T.put_length a.left b
      have ll := T.left_length a
      refine Xq.skipB (Tr.of (Ev.fn (c_iseof H) ok rfl (Evs.one (Ev.sym (e := .cat a b) (Ev.name ok rfl))) (by show 1 ≤ _ + 1; omega)) Truth.bool) rfl ?_
      refine Xq.skipB (Tr.not (Tr.of (Ev.fn (c_isnonterm H) ok rfl (Evs.one (Ev.sym (e := .cat a b) (Ev.name ok rfl))) (by show 1 ≤ _ + 1; omega)) Truth.bool)) rfl ?_
      refine Xq.consAt (Xs.assign ok (Ev.fn ih ok rfl (Evs.one (Ev.at1 (Ev.name ok rfl))) (by show a.h + 3 ≤ max a.h b.h + 1 + 2; omega)) (.inr ⟨rfl, rfl, rfl⟩) (by simp) rfl) ?_
      refine Xq.skipB (Tr.cmp (Ev.sym (e := .cat a b) (Ev.name ok rfl)) Ev.int Op2.eq) rfl ?_
      have put := c_put H a.left b (by omega)
      have emp := c_empty H a h.1
      by_cases he : a.empty = true
      · refine Xq.consAt (ρ' := [("got", .lst ((T.put a.left b).map encP)), ("got", .lst (a.left.map encP)), ("e", (T.cat a b).enc)]) (ω' := []) (Xs.ite (Tr.cmp (Ev.sym (e := .cat a b) (Ev.name ok rfl)) Ev.int Op2.eq) (fun _ => ?_) fun q => by cases q) ?_
        · refine Xq.consAt (Xs.assign ok (Ev.fn put ok rfl (Evs.cons (Ev.name ok rfl) (Evs.one (Ev.at2 (Ev.name ok rfl)))) (by show 2 ≤ max a.h b.h + 1 + 2; omega)) (.inr ⟨rfl, rfl, rfl⟩) (by simp) rfl) ?_
          exact Xq.skipB (Tr.not (Tr.of (Ev.fn emp ok rfl (Evs.one (Ev.at1 (Ev.name ok rfl))) (by show a.h + 2 ≤ max a.h b.h + 1 + 2; omega)) Truth.bool)) (by rw [he]; rfl) (Xq.nil ⟨rfl, rfl⟩)
        · have := left_tail H ok (x := .none) (e := b) (got := T.put a.left b) (more := b.left) (ρ := [("got", .lst ((T.put a.left b).map encP)), ("got", .lst (a.left.map encP)), ("e", (T.cat a b).enc)]) rfl rfl rfl ih2 (by show b.h + 3 ≤ max a.h b.h + 1 + 2; omega) (by show 1 ≤ max a.h b.h + 1 + 2; omega)
            (fun p hp => by
              have := T.put_h (k := 2 * max a.h b.h) (fun p hp => Nat.le_trans (T.left_h a p hp) (by omega)) (e := b) (by omega) p hp
              omega) (fun p hp => by have := T.left_h b p hp; omega) (by omega) (by have := T.left_length b; omega)
          have e : (T.cat a b).left = T.put a.left b ++ b.left.filter fun p => decide (p ∉ T.put a.left b) := by
            rw [T.left, if_pos he]
          rw [e]
          exact this
      · refine Xq.takenB (Tr.cmp (Ev.sym (e := .cat a b) (Ev.name ok rfl)) Ev.int Op2.eq) rfl ?_
        refine Xq.consAt (Xs.assign ok (Ev.fn put ok rfl (Evs.cons (Ev.name ok rfl) (Evs.one (Ev.at2 (Ev.name ok rfl)))) (by show 2 ≤ max a.h b.h + 1 + 2; omega)) (.inr ⟨rfl, rfl, rfl⟩) (by simp) rfl) ?_
        refine Xq.takenB (Tr.not (Tr.of (Ev.fn emp ok rfl (Evs.one (Ev.at1 (Ev.name ok rfl))) (by show a.h + 2 ≤ max a.h b.h + 1 + 2; omega)) Truth.bool)) (by simpa using he) (Xq.ret (Ev.name ok rfl) ?_)
        rw [T.left, if_neg he]

theorem c_behind (H : Known prog w W.K W.nums) : ∀ t : T, t.ok → t.n ≤ 1000 → Fun prog w W (t.h + 3) "_law_behind" [t.enc] (.lst (t.behind.map encP))
  | .leaf l, h, hn => by
      refine Fun.of (names := ["e"]) H.fBehind ?_ (hbind := bindsArgs rfl fun fd vs hv => by obtain ⟨v, rfl⟩ := vs1 hv; rfl)
      intro A L s₀ X₀ f qual code ok
      refine Xq.takenB (Tr.not (Tr.of (Ev.fn (c_isnonterm H) ok rfl (Evs.one (Ev.sym (e := .leaf l) (Ev.name ok rfl))) (by show 1 ≤ 0 + 2; decide)) Truth.bool)) ?_ (Xq.ret (Ev.lis (Evs.one (Ev.tup (Evs.cons (Ev.sym (e := .leaf l) (Ev.name ok rfl)) (Evs.one (Ev.tup (Evs.one Ev.int))))))) rfl)
      have : ¬ (256 ≤ l) := by have : l < 256 := h; omega
      simp [T.sym, this]
  | .star a, h, hn => by
      refine Fun.of (names := ["e"]) H.fBehind ?_ (hbind := bindsArgs rfl fun fd vs hv => by obtain ⟨v, rfl⟩ := vs1 hv; rfl)
      intro A L s₀ X₀ f qual code ok
      have ih := c_behind H a h hn
      refine Xq.skipB (Tr.not (Tr.of (Ev.fn (c_isnonterm H) ok rfl (Evs.one (Ev.sym (e := .star a) (Ev.name ok rfl))) (by show 1 ≤ _ + 1; omega)) Truth.bool)) rfl ?_
      refine Xq.consAt (Xs.assign ok (Ev.fn ih ok rfl (Evs.one (Ev.at1 (Ev.name ok rfl))) (by show a.h + 3 ≤ a.h + 1 + 2; omega)) (.inl rfl) (by simp) rfl) ?_
      refine Xq.takenB (Tr.cmp (Ev.sym (e := .star a) (Ev.name ok rfl)) Ev.int Op2.eq) rfl (Xq.ret (Ev.fn (c_put H a.behind (.star a) (by rw [T.behind_length]; exact hn)) ok rfl (Evs.cons (Ev.name ok rfl) (Evs.one (Ev.name ok rfl))) (by show 2 ≤ a.h + 1 + 2; omega)) rfl)
  | .alt a b, h, hn => by
      refine Fun.of (names := ["e"]) H.fBehind ?_ (hbind := bindsArgs rfl fun fd vs hv => by obtain ⟨v, rfl⟩ := vs1 hv; rfl)
      intro A L s₀ X₀ f qual code ok
      have na : a.n + b.n ≤ 1000 := hn
      have ih := c_behind H a h.1 (by omega)
      have ih2 := c_behind H b h.2 (by omega)
      refine Xq.skipB (Tr.not (Tr.of (Ev.fn (c_isnonterm H) ok rfl (Evs.one (Ev.sym (e := .alt a b) (Ev.name ok rfl))) (by show 1 ≤ _ + 1; omega)) Truth.bool)) rfl ?_
      refine Xq.consAt (Xs.assign ok (Ev.fn ih ok rfl (Evs.one (Ev.at1 (Ev.name ok rfl))) (by show a.h + 3 ≤ max a.h b.h + 1 + 2; omega)) (.inl rfl) (by simp) rfl) ?_
      refine Xq.skipB (Tr.cmp (Ev.sym (e := .alt a b) (Ev.name ok rfl)) Ev.int Op2.eq) rfl ?_
      refine Xq.skipB (Tr.cmp (Ev.sym (e := .alt a b) (Ev.name ok rfl)) Ev.int Op2.eq) rfl ?_
      refine Xq.ret (Ev.bin (Ev.name ok rfl) (Ev.fn ih2 ok rfl (Evs.one (Ev.at2 (Ev.name ok rfl))) (by show b.h + 3 ≤ max a.h b.h + 1 + 2; omega)) (Op2.cat (by rw [List.length_map, List.length_map, T.behind_length, T.behind_length]; omega))) ?_
      rw [← List.map_append]; rfl
  | .cat a b, h, hn => by
      refine Fun.of (names := ["e"]) H.fBehind ?_ (hbind := bindsArgs rfl fun fd vs hv => by obtain ⟨v, rfl⟩ := vs1 hv; rfl)
      intro A L s₀ X₀ f qual code ok
      have na : a.n + b.n ≤ 1000 := hn
      have ih := c_behind H a h.1 (by omega)
      have ih2 := c_behind H b h.2 (by omega)
      refine Xq.skipB (Tr.not (Tr.of (Ev.fn (c_isnonterm H) ok rfl (Evs.one (Ev.sym (e := .cat a b) (Ev.name ok rfl))) (by show 1 ≤ _ + 1; omega)) Truth.bool)) rfl ?_
      refine Xq.consAt (Xs.assign ok (Ev.fn ih ok rfl (Evs.one (Ev.at1 (Ev.name ok rfl))) (by show a.h + 3 ≤ max a.h b.h + 1 + 2; omega)) (.inl rfl) (by simp) rfl) ?_
      refine Xq.skipB (Tr.cmp (Ev.sym (e := .cat a b) (Ev.name ok rfl)) Ev.int Op2.eq) rfl ?_
      refine Xq.consAt (ρ' := [("got", .lst ((T.put a.behind b).map encP)), ("got", .lst (a.behind.map encP)), ("e", (T.cat a b).enc)]) (ω' := []) (Xs.ite (Tr.cmp (Ev.sym (e := .cat a b) (Ev.name ok rfl)) Ev.int Op2.eq) (fun _ => ?_) fun q => by cases q) ?_
      · exact Xq.consAt (Xs.assign ok (Ev.fn (c_put H a.behind b (by rw [T.behind_length]; omega)) ok rfl (Evs.cons (Ev.name ok rfl) (Evs.one (Ev.at2 (Ev.name ok rfl)))) (by show 2 ≤ max a.h b.h + 1 + 2; omega)) (.inl rfl) (by simp) rfl) (Xq.nil ⟨rfl, rfl⟩)
      · refine Xq.ret (Ev.bin (Ev.name ok rfl) (Ev.fn ih2 ok rfl (Evs.one (Ev.at2 (Ev.name ok rfl))) (by show b.h + 3 ≤ max a.h b.h + 1 + 2; omega)) (Op2.cat (by rw [List.length_map, List.length_map, T.put_length, T.behind_length, T.behind_length]; omega))) ?_
        rw [← List.map_append]; rfl
end
end Mine
end

section
open PySem PySem.W PyProof.Rows PySem.Calls PySem.SeqAt
set_option maxRecDepth 100000
namespace Mine

/-! ## The interpreter's names -/
theorem boot_len : bootBuiltins "len" = some (.builtin "len") := by kernel_rfl
theorem boot_abs : bootBuiltins "abs" = some (.builtin "abs") := by kernel_rfl
theorem boot_divmod : bootBuiltins "divmod" = some (.builtin "divmod") := by kernel_rfl
theorem boot_int : bootBuiltins "int" = some (.type "int") := by kernel_rfl
theorem boot_tuple : bootBuiltins "tuple" = some (.type "tuple") := by kernel_rfl
theorem boot_range : bootBuiltins "range" = some (.type "range") := by kernel_rfl
theorem boot_zip : bootBuiltins "zip" = some (.type "zip") := by kernel_rfl
theorem boot_enumerate : bootBuiltins "enumerate" = some (.type "enumerate") := by kernel_rfl

section
variable {prog : Program} {w : World} {c : Cx}
theorem n_len (H : Known prog w c.W.K c.W.nums) (hx : c.env.kindOf "len" = some .globalImplicit) : FnName c "len" "len" := ⟨H.bLen, boot_len, hx, by decide, by decide⟩
theorem n_abs (H : Known prog w c.W.K c.W.nums) (hx : c.env.kindOf "abs" = some .globalImplicit) : FnName c "abs" "abs" := ⟨H.bAbs, boot_abs, hx, by decide, by decide⟩
theorem n_divmod (H : Known prog w c.W.K c.W.nums) (hx : c.env.kindOf "divmod" = some .globalImplicit) : FnName c "divmod" "divmod" := ⟨H.bDivmod, boot_divmod, hx, by decide, by decide⟩
theorem n_int (H : Known prog w c.W.K c.W.nums) (hx : c.env.kindOf "int" = some .globalImplicit) : TyName c "int" "int" := ⟨H.bInt, boot_int, hx, by decide, by decide⟩
theorem n_tuple (H : Known prog w c.W.K c.W.nums) (hx : c.env.kindOf "tuple" = some .globalImplicit) : TyName c "tuple" "tuple" := ⟨H.bTuple, boot_tuple, hx, by decide, by decide⟩
theorem n_range (H : Known prog w c.W.K c.W.nums) (hx : c.env.kindOf "range" = some .globalImplicit) : TyName c "range" "range" := ⟨H.bRange, boot_range, hx, by decide, by decide⟩
theorem n_zip (H : Known prog w c.W.K c.W.nums) (hx : c.env.kindOf "zip" = some .globalImplicit) : TyName c "zip" "zip" := ⟨H.bZip, boot_zip, hx, by decide, by decide⟩
theorem n_enumerate (H : Known prog w c.W.K c.W.nums) (hx : c.env.kindOf "enumerate" = some .globalImplicit) : TyName c "enumerate" "enumerate" := ⟨H.bEnumerate, boot_enumerate, hx, by decide, by decide⟩
end

theorem all_nil {α : Type} {P : α → Prop} : ∀ p ∈ ([] : List α), P p := fun _ h => by cases h
theorem all_cons {α : Type} {P : α → Prop} {a : α} {l : List α} (h : P a) (t : ∀ p ∈ l, P p) : ∀ p ∈ a :: l, P p := List.forall_mem_cons.mpr ⟨h, t⟩
/-! ## Bits -/
theorem band_nat (a b : Nat) : Builtin.bitAnd (a : Int) (b : Int) = ((a &&& b : Nat) : Int) := by
  rw [bitAnd_pp (by omega) (by omega)]; rfl
theorem bor_nat (a b : Nat) : Builtin.bitOr (a : Int) (b : Int) = ((a ||| b : Nat) : Int) := by
  unfold Builtin.bitOr
  rw [bitAnd_nn (by unfold Builtin.bitNot; omega) (by unfold Builtin.bitNot; omega)]
  have e : ∀ x : Int, Builtin.bitNot (Builtin.bitNot x) = x := fun x => by unfold Builtin.bitNot; omega
  rw [e, e, e]
  rfl
theorem shl_nat (k : Nat) : (1 : Int) * 2 ^ ((k : Int)).toNat = ((2 ^ k : Nat) : Int) := by
  rw [Int.toNat_natCast, Int.one_mul, Int.natCast_pow]; rfl
theorem and_pow (m k : Nat) : (((m &&& 2 ^ k : Nat) : Int) != 0) = m.testBit k := by
  cases h : m.testBit k with
  | false =>
    have : m &&& 2 ^ k = 0 := by
      apply Nat.eq_of_testBit_eq
      intro i
      rw [Nat.testBit_and, Nat.testBit_two_pow, Nat.zero_testBit]
      by_cases hi : k = i
      · subst hi; simp [h]
      · simp [hi]
    rw [this]; rfl
  | true =>
    have : m &&& 2 ^ k ≠ 0 := fun q => by
      have := congrArg (fun x => x.testBit k) q
      simp [Nat.testBit_and, h] at this
    simpa using this

noncomputable def solN (m : Nat) : D := .sol m
namespace T
structure S where
  null : Bool
  first : Nat
  last : Nat
  follow : List Nat
noncomputable def led (ms : List Nat) (last first p : Nat) : List Nat := ms.zipIdx.map fun q => if last.testBit (p + q.2) then q.1 ||| first else q.1
noncomputable def spots : T → Nat → S
  | leaf _, p => ⟨false, 2 ^ p, 2 ^ p, [0]⟩
  | star a, p => ⟨true, (a.spots p).first, (a.spots p).last, led (a.spots p).follow (a.spots p).last (a.spots p).first p⟩
  | alt a b, p =>
    let one := a.spots p
    let two := b.spots (p + one.follow.length)
    ⟨one.null || two.null, one.first ||| two.first, one.last ||| two.last, one.follow ++ two.follow⟩
  | cat a b, p =>
    let one := a.spots p
    let two := b.spots (p + one.follow.length)
    ⟨one.null && two.null, if one.null then one.first ||| two.first else one.first, if two.null then one.last ||| two.last else two.last, led one.follow one.last two.first p ++ two.follow⟩
theorem led_length (ms : List Nat) (l f p : Nat) : (led ms l f p).length = ms.length := by unfold led; simp
theorem spots_length : ∀ (e : T) (p : Nat), (e.spots p).follow.length = e.n
  | leaf _, p => rfl
  | star a, p => by unfold spots n; dsimp only; rw [led_length, spots_length a]
  | alt a b, p => by unfold spots n; dsimp only; rw [List.length_append, spots_length a, spots_length b]
  | cat a b, p => by unfold spots n; dsimp only; rw [List.length_append, led_length, spots_length a, spots_length b]
noncomputable def S.enc (s : S) : D := .tup [.bool s.null, solN s.first, solN s.last, .lst (s.follow.map solN)]
end T

theorem enumD_map {α : Type} (g : α → D) (ms : List α) : enumD (ms.map g) = ms.zipIdx.map fun q => .tup [.int (q.2 : Nat), g q.1] := by
  unfold enumD
  rw [List.zipIdx_map, List.map_map]
  rfl

section
variable {prog : Program} {w : World} {W : Wld}
theorem c_shl1 (H : Known prog w W.K W.nums) {d e : D} {k : Nat} [hd : IntD d 1] [he : IntD e k] (hk : k ≤ 10000) : Fun prog w W 1 "lshift" [d, e] (solN (2 ^ k)) := by
  have := c_shl (x := 1) (y := k) (d := d) (e := e) H (by omega) (by omega) (by decide)
  rw [shl_nat] at this
  exact this
theorem c_orN (H : Known prog w W.K W.nums) {a b : Nat} : Fun prog w W 1 "ior" [solN a, solN b] (solN (a ||| b)) := by
  have := c_ior (x := a) (y := b) (d := solN a) (e := solN b) (hd := .s) (he := .s) H
  rw [bor_nat] at this
  exact this
theorem c_andN (H : Known prog w W.K W.nums) {a b : Nat} : Fun prog w W 1 "and_" [solN a, solN b] (solN (a &&& b)) := by
  have := c_and (x := a) (y := b) (d := solN a) (e := solN b) (hd := .s) (he := .s) H
  rw [band_nat] at this
  exact this
instance {m : Nat} : IntD (solN m) (m : Int) := .s

theorem c_led (H : Known prog w W.K W.nums) (ms : List Nat) (last first p : Nat) (hsz : ms.length ≤ 1000) (hp : p ≤ 1000) : Fun prog w W 2 "_law_led" [.lst (ms.map solN), solN last, solN first, solN p] (.lst ((T.led ms last first p).map solN)) := by
  refine Fun.of (names := ["masks", "last", "first", "at"]) H.fLed ?_ (hbind := bindsArgs rfl fun fd vs hv => by obtain ⟨v, u, x, y, rfl⟩ := vs4 hv; rfl)
  intro A L s₀ X₀ f qual code ok
  refine Xq.ret ?_ rfl
  rw [T.led, List.map_map]
  refine Ev.compMap (cl := _) (f := fun q : Nat × Nat => .tup [.int (q.2 : Nat), solN q.1]) ok (CompOk.of rfl ?_) ((enumD_map solN ms) ▸ It.enum ok (n_enumerate H rfl) (Ev.name ok rfl)) (.var (x := "last") rfl rfl rfl rfl rfl (.var (x := "first") rfl rfl rfl rfl rfl (.var (x := "at") rfl rfl rfl rfl rfl .nil))) ?_ ?_ ?_ ?_
  · exact all_cons rfl (all_cons rfl (all_cons rfl all_nil))
  · intro C s₂ X₀
    exact ⟨_, _, _, _, _, _, rfl, .inl rfl, .inl rfl, by simp, by simp⟩
  · intro q _
    exact (Sub.new rfl).trans (Sub.new rfl)
  · intro C s₂ X₀ ok' q hq
    have hk : q.2 < ms.length := by
      have := (List.mem_zipIdx_iff_getElem?.mp hq)
      exact (List.getElem?_eq_some_iff.mp this).1
    refine Ev.to (d := solN (if last.testBit (p + q.2) then q.1 ||| first else q.1)) (Ev.ifexp (Tr.of (Ev.fn (c_andN H (a := last) (b := 2 ^ (p + q.2))) ok' rfl (Evs.cons (Ev.name ok' rfl) (Evs.one ?_))) Truth.int) (fun h => ?_) fun h => ?_) rfl
    · refine Ev.fn (c_shl1 H (k := p + q.2) (d := .sol 1) (e := .sol ((p : Int) + (q.2 : Nat))) (he := ?_) (by omega)) ok' rfl (Evs.cons Ev.int (Evs.one (Ev.bin (Ev.name ok' rfl) (Ev.name ok' rfl) (Op2.add (a := (p : Int)) (b := ((q.2 : Nat) : Int)) (hd := .s) (he := .i)))))
      rw [← Int.natCast_add]; exact .s
    · rw [and_pow] at h
      rw [if_pos h]
      exact Ev.fn (c_orN H) ok' rfl (Evs.cons (Ev.name ok' rfl) (Evs.one (Ev.name ok' rfl)))
    · rw [and_pow] at h
      rw [if_neg (by rw [h]; exact Bool.false_ne_true)]
      exact Ev.name ok' rfl
  · rw [List.length_zipIdx]; omega

theorem c_spots (H : Known prog w W.K W.nums) : ∀ (t : T) (p : Nat), t.ok → t.n + p ≤ 1000 → Fun prog w W (t.h + 3) "_law_spots" [t.enc, solN p] (t.spots p).enc
  | .leaf l, p, h, hp => by
    refine Fun.of (names := ["e", "at"]) H.fSpots ?_ (hbind := bindsArgs rfl fun fd vs hv => by obtain ⟨v, u, rfl⟩ := vs2 hv; rfl)
    intro A L s₀ X₀ f qual code ok
    refine Xq.takenB (Tr.not (Tr.of (Ev.fn (c_isnonterm H) ok rfl (Evs.one (Ev.sym (e := .leaf l) (Ev.name ok rfl))) (by show 1 ≤ 0 + 2; decide)) Truth.bool)) ?_ (Xq.ret (Ev.tup (Evs.cons Ev.cbool (Evs.cons ?_ (Evs.cons ?_ (Evs.one (Ev.lis (Evs.one Ev.int))))))) rfl)
    · have : ¬ (256 ≤ l) := by have : l < 256 := h; omega
      simp [T.sym, this]
    · exact Ev.fn (c_shl1 H (d := .sol 1) (e := solN p) (by omega)) ok rfl (Evs.cons Ev.int (Evs.one (Ev.name ok rfl))) (by show 1 ≤ 0 + 2; decide)
    · exact Ev.fn (c_shl1 H (d := .sol 1) (e := solN p) (by omega)) ok rfl (Evs.cons Ev.int (Evs.one (Ev.name ok rfl))) (by show 1 ≤ 0 + 2; decide)
  | .star a, p, h, hp => by
    refine Fun.of (names := ["e", "at"]) H.fSpots ?_ (hbind := bindsArgs rfl fun fd vs hv => by obtain ⟨v, u, rfl⟩ := vs2 hv; rfl)
    intro A L s₀ X₀ f qual code ok
    have hn : a.n + p ≤ 1000 := hp
    refine Xq.skipB (Tr.not (Tr.of (Ev.fn (c_isnonterm H) ok rfl (Evs.one (Ev.sym (e := .star a) (Ev.name ok rfl))) (by show 1 ≤ _ + 1; omega)) Truth.bool)) rfl ?_
    refine Xq.consAt (Xs.assign ok (Ev.fn (c_spots H a p h hn) ok rfl (Evs.cons (Ev.at1 (Ev.name ok rfl)) (Evs.one (Ev.name ok rfl))) (by show a.h + 3 ≤ a.h + 1 + 2; omega)) (.inl rfl) (by simp) rfl) ?_
    refine Xq.takenB (Tr.cmp (Ev.sym (e := .star a) (Ev.name ok rfl)) Ev.int Op2.eq) rfl (Xq.ret (Ev.tup (Evs.cons Ev.cbool (Evs.cons (Ev.at1 (Ev.name ok rfl)) (Evs.cons (Ev.at2 (Ev.name ok rfl)) (Evs.one ?_))))) rfl)
    exact Ev.fn (c_led H (a.spots p).follow (a.spots p).last (a.spots p).first p (by rw [T.spots_length]; omega) (by omega)) ok rfl (Evs.cons (Ev.at3 (Ev.name ok rfl)) (Evs.cons (Ev.at2 (Ev.name ok rfl)) (Evs.cons (Ev.at1 (Ev.name ok rfl)) (Evs.one (Ev.name ok rfl))))) (by show 2 ≤ a.h + 1 + 2; omega)
  | .alt a b, p, h, hp => by
    refine Fun.of (names := ["e", "at"]) H.fSpots ?_ (hbind := bindsArgs rfl fun fd vs hv => by obtain ⟨v, u, rfl⟩ := vs2 hv; rfl)
    intro A L s₀ X₀ f qual code ok
    have hn : a.n + b.n + p ≤ 1000 := hp
    have l1 := T.spots_length a p
    refine Xq.skipB (Tr.not (Tr.of (Ev.fn (c_isnonterm H) ok rfl (Evs.one (Ev.sym (e := .alt a b) (Ev.name ok rfl))) (by show 1 ≤ _ + 1; omega)) Truth.bool)) rfl ?_
    refine Xq.consAt (Xs.assign ok (Ev.fn (c_spots H a p h.1 (by omega)) ok rfl (Evs.cons (Ev.at1 (Ev.name ok rfl)) (Evs.one (Ev.name ok rfl))) (by show a.h + 3 ≤ max a.h b.h + 1 + 2; omega)) (.inl rfl) (by simp) rfl) ?_
    refine Xq.skipB (Tr.cmp (Ev.sym (e := .alt a b) (Ev.name ok rfl)) Ev.int Op2.eq) rfl ?_
    refine Xq.consAt (Xs.assign ok (Ev.fn (c_spots H b (p + (a.spots p).follow.length) h.2 (by omega)) ok rfl (Evs.cons (Ev.at2 (Ev.name ok rfl)) (Evs.one (Ev.to (Ev.bin (Ev.name ok rfl) (Ev.len_lst ok (n_len H rfl) (Ev.at3 (Ev.name ok rfl)) (by rw [List.length_map]; omega)) (Op2.add (a := (p : Int)) (hd := .s))) ?_))) (by show b.h + 3 ≤ max a.h b.h + 1 + 2; omega)) (.inl rfl) (by simp) rfl) ?_
    · rw [List.length_map, ← Int.natCast_add]; rfl
    refine Xq.takenB (Tr.cmp (Ev.sym (e := .alt a b) (Ev.name ok rfl)) Ev.int Op2.eq) rfl (Xq.ret (Ev.tup (Evs.cons (Ev.or2 (Ev.at0 (Ev.name ok rfl)) fun _ => Ev.at0 (Ev.name ok rfl)) (Evs.cons (Ev.fn (c_orN H) ok rfl (Evs.cons (Ev.at1 (Ev.name ok rfl)) (Evs.one (Ev.at1 (Ev.name ok rfl)))) (by show 1 ≤ _ + 1; omega))
      (Evs.cons (Ev.fn (c_orN H) ok rfl (Evs.cons (Ev.at2 (Ev.name ok rfl)) (Evs.one (Ev.at2 (Ev.name ok rfl)))) (by show 1 ≤ _ + 1; omega)) (Evs.one (Ev.bin (Ev.at3 (Ev.name ok rfl)) (Ev.at3 (Ev.name ok rfl)) (Op2.cat (by rw [List.length_map, List.length_map, T.spots_length, T.spots_length]; omega)))))))) ?_)
    rw [← List.map_append]; rfl
  | .cat a b, p, h, hp => by
    refine Fun.of (names := ["e", "at"]) H.fSpots ?_ (hbind := bindsArgs rfl fun fd vs hv => by obtain ⟨v, u, rfl⟩ := vs2 hv; rfl)
    intro A L s₀ X₀ f qual code ok
    have hn : a.n + b.n + p ≤ 1000 := hp
    have l1 := T.spots_length a p
    refine Xq.skipB (Tr.not (Tr.of (Ev.fn (c_isnonterm H) ok rfl (Evs.one (Ev.sym (e := .cat a b) (Ev.name ok rfl))) (by show 1 ≤ _ + 1; omega)) Truth.bool)) rfl ?_
    refine Xq.consAt (Xs.assign ok (Ev.fn (c_spots H a p h.1 (by omega)) ok rfl (Evs.cons (Ev.at1 (Ev.name ok rfl)) (Evs.one (Ev.name ok rfl))) (by show a.h + 3 ≤ max a.h b.h + 1 + 2; omega)) (.inl rfl) (by simp) rfl) ?_
    refine Xq.skipB (Tr.cmp (Ev.sym (e := .cat a b) (Ev.name ok rfl)) Ev.int Op2.eq) rfl ?_
    refine Xq.consAt (Xs.assign ok (Ev.fn (c_spots H b (p + (a.spots p).follow.length) h.2 (by omega)) ok rfl (Evs.cons (Ev.at2 (Ev.name ok rfl)) (Evs.one (Ev.to (Ev.bin (Ev.name ok rfl) (Ev.len_lst ok (n_len H rfl) (Ev.at3 (Ev.name ok rfl)) (by rw [List.length_map]; omega)) (Op2.add (a := (p : Int)) (hd := .s))) ?_))) (by show b.h + 3 ≤ max a.h b.h + 1 + 2; omega)) (.inl rfl) (by simp) rfl) ?_
    · rw [List.length_map, ← Int.natCast_add]; rfl
    refine Xq.skipB (Tr.cmp (Ev.sym (e := .cat a b) (Ev.name ok rfl)) Ev.int Op2.eq) rfl ?_
    generalize hS : a.spots p = S1
    generalize hS2 : b.spots (p + S1.follow.length) = S2
    have e : ((T.cat a b).spots p) = ⟨S1.null && S2.null, if S1.null then S1.first ||| S2.first else S1.first, if S2.null then S1.last ||| S2.last else S2.last, T.led S1.follow S1.last S2.first p ++ S2.follow⟩ := by
      rw [T.spots, hS, hS2]
    rw [e]
    refine Xq.consAt (Xs.assign ok (d := solN (if S1.null then S1.first ||| S2.first else S1.first)) (Ev.ifexp (q := S1.null) (Tr.of (Ev.at0 (Ev.name ok rfl)) Truth.bool) (fun q => ?_) fun q => ?_) (.inl rfl) (by simp) rfl) ?_
    · exact Ev.to (Ev.fn (c_orN H) ok rfl (Evs.cons (Ev.at1 (Ev.name ok rfl)) (Evs.one (Ev.at1 (Ev.name ok rfl)))) (by show 1 ≤ _ + 1; omega)) (by rw [q]; rfl)
    · exact Ev.to (Ev.at1 (Ev.name ok rfl)) (by rw [q]; rfl)
    generalize (if S1.null then S1.first ||| S2.first else S1.first) = first
    refine Xq.consAt (Xs.assign ok (d := solN (if S2.null then S1.last ||| S2.last else S2.last)) (Ev.ifexp (q := S2.null) (Tr.of (Ev.at0 (Ev.name ok rfl)) Truth.bool) (fun q => ?_) fun q => ?_) (.inl rfl) (by simp) rfl) ?_
    · exact Ev.to (Ev.fn (c_orN H) ok rfl (Evs.cons (Ev.at2 (Ev.name ok rfl)) (Evs.one (Ev.at2 (Ev.name ok rfl)))) (by show 1 ≤ _ + 1; omega)) (by rw [q]; rfl)
    · exact Ev.to (Ev.at2 (Ev.name ok rfl)) (by rw [q]; rfl)
    generalize (if S2.null then S1.last ||| S2.last else S2.last) = last
    have ls1 : S1.follow.length = a.n := by rw [← hS]; exact l1
    have ls2 : S2.follow.length = b.n := by rw [← hS2]; exact T.spots_length _ _
    refine Xq.ret (Ev.tup (Evs.cons (Ev.and2 (Ev.at0 (Ev.name ok rfl)) fun _ => Ev.at0 (Ev.name ok rfl)) (Evs.cons (Ev.name ok rfl) (Evs.cons (Ev.name ok rfl) (Evs.one (Ev.bin (Ev.fn (c_led H S1.follow S1.last S2.first p (by omega) (by omega)) ok rfl (Evs.cons (Ev.at3 (Ev.name ok rfl)) (Evs.cons (Ev.at2 (Ev.name ok rfl)) (Evs.cons (Ev.at1 (Ev.name ok rfl)) (Evs.one (Ev.name ok rfl))))) (by show 2 ≤ max a.h b.h + 1 + 2; omega))
      (Ev.at3 (Ev.name ok rfl)) (Op2.cat (by rw [List.length_map, List.length_map, T.led_length]; omega)))))))) ?_
    rw [← List.map_append]; rfl
end
end Mine
end

section
open PySem PySem.W PyProof.Rows PySem.Calls PySem.SeqAt
set_option maxRecDepth 100000
namespace Mine

section
variable {prog : Program} {w : World} {W : Wld}

theorem c_indexOf (H : Known prog w W.K W.nums) {xs : List D} {d : D} {k n : Nat} (hs : ∀ z ∈ xs, Sol z) (hd : Sol d) (hn : ∀ z ∈ xs, Num z n) (hdn : Num d n) (hn' : n ≤ 1000) (hr : d.eqv d = true)
    (hk : ∃ y, xs[k]? = some y ∧ y.eqv d = true) (hlt : ∀ i z, i < k → xs[i]? = some z → z.eqv d = false) : Fun prog w W 1 "indexOf" [.lst xs, d] (.int k) := by
  refine Fun.of (names := ["a", "b"]) H.fIndexOf ?_ (hbind := bindsArgs rfl fun fd vs hv => by obtain ⟨v, u, rfl⟩ := vs2 hv; rfl)
  intro A L s₀ X₀ f qual code ok
  obtain ⟨y, hy, hye⟩ := hk
  have hlen : k < xs.length := (List.getElem?_eq_some_iff.mp hy).1
  refine Xq.cons (P' := fun _ _ => False) ?_ fun _ _ q => q.elim
  refine Xs.for ok (It.enum ok (n_enumerate H rfl) (Ev.name ok rfl)) (fun i ρ' ω' => i ≤ k ∧ ω' = [] ∧ ρ'.lookup ("b" : PySem.Str) = some d) (fun i ρ' ω' inv => ?_) ⟨Nat.zero_le _, rfl, rfl⟩ (fun i z ρ' ω' hz inv => ?_) fun ρ' ω' inv => ?_
  · obtain ⟨_, rfl, _⟩ := inv
    exact ⟨_, _, _, _, _, _, rfl, .inl rfl, .inl rfl, by simp, by simp⟩
  · obtain ⟨hi, rfl, hb⟩ := inv
    obtain ⟨x, hx, rfl⟩ := enumD_get hz
    have hm := List.mem_of_getElem? hx
    by_cases hik : i = k
    · subst hik
      rw [hx] at hy; cases hy
      refine Xq.takenB (Tr.isOr ok (Ev.name ok rfl) (Ev.name ok ?_) (hs _ hm) hd (Tr.cmp (Ev.name ok rfl) (Ev.name ok ?_) (Op2.eqD ok (hn _ hm) hdn hn')) (fun q => by rw [q]; exact hr)) hye (Xq.ret (Ev.name ok rfl) rfl)
      · exact hb
      · exact hb
    · refine Xq.skipB (Tr.isOr ok (Ev.name ok rfl) (Ev.name ok ?_) (hs _ hm) hd (Tr.cmp (Ev.name ok rfl) (Ev.name ok ?_) (Op2.eqD ok (hn _ hm) hdn hn')) (fun q => by rw [q]; exact hr)) (hlt i x (by omega) hx) (Xq.nil ⟨by omega, rfl, hb⟩)
      · exact hb
      · exact hb
  · rw [enumD_length] at inv
    exact absurd inv.1 (by omega)
end
end Mine
end

section
open PySem PySem.W PyProof.Rows PySem.Calls PySem.SeqAt
set_option maxRecDepth 100000
namespace Mine

namespace T
/-- symbol by symbol, operators ahead -/
noncomputable def ser : T → List Int
  | leaf l => [l]
  | star a => 258 :: a.ser
  | alt a b => 257 :: (a.ser ++ b.ser)
  | cat a b => 256 :: (a.ser ++ b.ser)
inductive Step : List T → Int → List T → Prop
  | leaf {s : List T} {x : Int} : x < 256 → Step s x (s ++ [.leaf x])
  | star {s : List T} {a : T} : Step (s ++ [a]) 258 (s ++ [.star a])
  | alt {s : List T} {a b : T} : Step (s ++ [b] ++ [a]) 257 (s ++ [.alt a b])
  | cat {s : List T} {a b : T} : Step (s ++ [b] ++ [a]) 256 (s ++ [.cat a b])
inductive Runs : List Int → List T → List T → Prop
  | nil {s : List T} : Runs [] s s
  | cons {x : Int} {xs : List Int} {s s' s'' : List T} : Step s x s' → Runs xs s' s'' → Runs (x :: xs) s s''
theorem Runs.append {xs ys : List Int} {s s' s'' : List T} (h : Runs xs s s') (k : Runs ys s' s'') : Runs (xs ++ ys) s s'' := by
  induction h with
  | nil => exact k
  | cons a _ ih => exact .cons a (ih k)
theorem runs : ∀ (t : T) (s : List T), t.ok → Runs t.ser.reverse s (s ++ [t])
  | leaf l, s, h => .cons (.leaf h) .nil
  | star a, s, h => by
    rw [ser, List.reverse_cons]
    exact (runs a s h).append (.cons .star .nil)
  | alt a b, s, h => by
    rw [ser, List.reverse_cons, List.reverse_append]
    exact ((runs b s h.2).append (runs a _ h.1)).append (.cons .alt .nil)
  | cat a b, s, h => by
    rw [ser, List.reverse_cons, List.reverse_append]
    exact ((runs b s h.2).append (runs a _ h.1)).append (.cons .cat .nil)
theorem Runs.path {xs : List Int} {s s' : List T} (h : Runs xs s s') : ∃ f : Nat → List T, f 0 = s ∧ f xs.length = s' ∧ ∀ i x, xs[i]? = some x → Step (f i) x (f (i + 1)) := by
  induction h with
  | @nil s => exact ⟨fun _ => s, rfl, rfl, fun i x q => by simp at q⟩
  | @cons x xs s s₁ s₂ a _ ih =>
    obtain ⟨f, h0, h1, h2⟩ := ih
    refine ⟨fun i => match i with | 0 => s | i + 1 => f i, rfl, h1, fun i y q => ?_⟩
    cases i with
    | zero => simp at q; subst q; show Step s x (f 0); rw [h0]; exact a
    | succ i => simp at q; exact h2 i y q
end T

section
variable {prog : Program} {w : World} {W : Wld}

theorem c_pile (H : Known prog w W.K W.nums) (t : T) (ht : t.ok) (hsz : t.ser.length ≤ 900) : Fun prog w W 2 "_law_pile" [.lst (t.ser.map D.sol)] (.lst [t.enc]) := by
  refine Fun.of (names := ["symbols"]) H.fPile ?_ (hbind := bindsArgs rfl fun fd vs hv => by obtain ⟨v, rfl⟩ := vs1 hv; rfl)
  intro A L s₀ X₀ f qual code ok
  obtain ⟨st, h0, h1, h2⟩ := (T.runs t [] ht).path
  rw [List.nil_append, List.length_reverse] at h1
  refine Xq.new ok Evs.nil (.inl rfl) (by simp) rfl (by decide) fun a => ?_
  refine Xq.cons (P' := fun ρ' ω' => ω' = [(("pile" : PySem.Str), a, [t.enc])]) (Xs.for ok (pair := false) (its := (t.ser.map D.sol).reverse) (It.list ok (Ev.slice_rev (Ev.name ok rfl) (Ev.un Ev.int Op1.neg) (by rw [List.length_map]; omega)))
    (fun i ρ' ω' => ω' = [(("pile" : PySem.Str), a, (st i).map T.enc)] ∧ (st i).length ≤ i) (fun i ρ' ω' inv => ?_) ⟨by rw [h0]; rfl, by rw [h0]; exact Nat.le_refl _⟩ (fun i z ρ' ω' hz inv => ?_) fun ρ' ω' inv => Xq.nil ?_) fun ρ' ω' inv => ?_
  · obtain ⟨rfl, _⟩ := inv
    exact ⟨_, _, rfl, .inl rfl, by show _ ∉ [("pile" : PySem.Str)]; decide⟩
  · obtain ⟨rfl, hl⟩ := inv
    rw [← List.map_reverse, List.getElem?_map] at hz
    cases hx : t.ser.reverse[i]? with
    | none => rw [hx] at hz; cases hz
    | some x =>
      rw [hx] at hz; simp at hz; subst hz
      have hil : i < t.ser.length := by
        have := (List.getElem?_eq_some_iff.mp hx).1
        rwa [List.length_reverse] at this
      have hs := h2 i x hx
      have hle : ∀ {n : Nat}, n = (st i).length → n ≤ 1000 := fun h => by omega
      generalize st (i + 1) = s' at *
      generalize st i = s at *
      cases hs with
      | leaf hlt =>
        refine Xq.cons (Xs.ite (Tr.of (Ev.fn (c_isterm H) ok rfl (Evs.one (Ev.name ok rfl))) Truth.bool) (fun _ => ?_) fun q => ?_) fun ρ' ω' q => Xq.nil q
        · refine Xq.cons (Xs.append (ω₁ := []) (ω₂ := []) ok (EvX.pure (Ev.tup (Evs.one (Ev.name ok rfl)))) (by rw [List.length_map]; exact hle rfl)) fun ρ' ω' q => Xq.nil ?_
          obtain ⟨rfl, rfl⟩ := q
          exact ⟨by simp [T.enc], by simp; omega⟩
        · simp at q; omega
      | @star s a' =>
        refine Xq.cons (Xs.ite (Tr.of (Ev.fn (c_isterm H) ok rfl (Evs.one (Ev.name ok rfl))) Truth.bool) (fun q => ?_) fun _ => ?_) fun ρ' ω' q => Xq.nil q
        · simp at q
        · refine Xq.cons (Xs.ite (Tr.cmp (Ev.name ok rfl) Ev.int Op2.eq) (fun _ => ?_) fun q => ?_) fun ρ' ω' q => Xq.nil q
          · refine Xq.cons (Xs.append (ω₁ := []) (ω₂ := []) (ds' := s.map T.enc) (d := .tup [.sol 258, a'.enc]) ok ?_ (by rw [List.length_map]; simp at hl; omega)) fun ρ' ω' q => Xq.nil ?_
            · rw [List.map_append]
              exact EvX.tuple (EvsX.cons (EvX.pure (Ev.name ok rfl)) (EvsX.cons (EvX.pop (ω₁ := []) (ω₂ := []) ok (by rw [List.length_map]; simp at hl; omega)) EvsX.nil)) (by simp)
            · obtain ⟨rfl, rfl⟩ := q
              exact ⟨by simp [T.enc], by simp at hl ⊢; omega⟩
          · simp at q
      | @alt s a' b' =>
        refine Xq.cons (Xs.ite (Tr.of (Ev.fn (c_isterm H) ok rfl (Evs.one (Ev.name ok rfl))) Truth.bool) (fun q => ?_) fun _ => ?_) fun ρ' ω' q => Xq.nil q
        · simp at q
        · refine Xq.cons (Xs.ite (Tr.cmp (Ev.name ok rfl) Ev.int Op2.eq) (fun q => ?_) fun _ => ?_) fun ρ' ω' q => Xq.nil q
          · simp at q
          · rw [List.map_append, List.map_append]
            refine Xq.consAt (Xs.assignX ok (EvX.pop (ω₁ := []) (ω₂ := []) ok (by simp at hl ⊢; omega)) (.inl rfl) (by show _ ∉ [("pile" : PySem.Str)]; decide) rfl) ?_
            refine Xq.cons (Xs.append (ω₁ := []) (ω₂ := []) (ds' := s.map T.enc) (d := .tup [.sol 257, a'.enc, b'.enc]) ok ?_ (by rw [List.length_map]; simp at hl; omega)) fun ρ' ω' q => Xq.nil ?_
            · exact EvX.tuple (EvsX.cons (EvX.pure (Ev.name ok rfl)) (EvsX.cons (EvX.pure (Ev.name ok rfl)) (EvsX.cons (EvX.pop (ω₁ := []) (ω₂ := []) ok (by rw [List.length_map]; simp at hl; omega)) EvsX.nil))) (by simp)
            · obtain ⟨rfl, rfl⟩ := q
              exact ⟨by simp [T.enc], by simp at hl ⊢; omega⟩
      | @cat s a' b' =>
        refine Xq.cons (Xs.ite (Tr.of (Ev.fn (c_isterm H) ok rfl (Evs.one (Ev.name ok rfl))) Truth.bool) (fun q => ?_) fun _ => ?_) fun ρ' ω' q => Xq.nil q
        · simp at q
        · refine Xq.cons (Xs.ite (Tr.cmp (Ev.name ok rfl) Ev.int Op2.eq) (fun q => ?_) fun _ => ?_) fun ρ' ω' q => Xq.nil q
          · simp at q
          · rw [List.map_append, List.map_append]
            refine Xq.consAt (Xs.assignX ok (EvX.pop (ω₁ := []) (ω₂ := []) ok (by simp at hl ⊢; omega)) (.inl rfl) (by show _ ∉ [("pile" : PySem.Str)]; decide) rfl) ?_
            refine Xq.cons (Xs.append (ω₁ := []) (ω₂ := []) (ds' := s.map T.enc) (d := .tup [.sol 256, a'.enc, b'.enc]) ok ?_ (by rw [List.length_map]; simp at hl; omega)) fun ρ' ω' q => Xq.nil ?_
            · exact EvX.tuple (EvsX.cons (EvX.pure (Ev.name ok rfl)) (EvsX.cons (EvX.pure (Ev.name ok rfl)) (EvsX.cons (EvX.pop (ω₁ := []) (ω₂ := []) ok (by rw [List.length_map]; simp at hl; omega)) EvsX.nil))) (by simp)
            · obtain ⟨rfl, rfl⟩ := q
              exact ⟨by simp [T.enc], by simp at hl ⊢; omega⟩
  · rw [List.length_reverse, List.length_map, h1] at inv
    exact inv.1
  · subst inv
    exact Xq.freeze (Xq.ret (Ev.name ok rfl) rfl)
end
end Mine
end

section
open PySem PySem.W PyProof.Rows PySem.Calls PySem.SeqAt
set_option maxRecDepth 100000
namespace Mine

section
variable {c : Cx} {ρ : Vars} {ω : Owns} {Rt : D → Prop}
/-- a, b = e -/
theorem Xs.assign2 {a b : Str} {p q tp pos : Pos} {n : Nat} {e : Expr} {d1 d2 : D} (ok : c.Ok) (h : Ev c ρ ω e (.tup [d1, d2])) (ha : c.stores a) (hb : c.stores b) (hωa : a ∉ ω.map (·.1)) (hωb : b ∉ ω.map (·.1))
    (hs : swapsWithSole [.Tuple [.Name a p, .Name b q] n tp] e pos.line c.env = pure false) (hw : swappedStores [.Tuple [.Name a p, .Name b q] n tp] e c.env = pure none)
    (he : (assignEach [.Tuple [.Name a p, .Name b q] n tp] c.env).map (·.2) = [PySem.assign (.Tuple [.Name a p, .Name b q] n tp) c.env] := by rfl) :
    Xs c (.Assign [.Tuple [.Name a p, .Name b q] n tp] e pos) ρ ω (fun r o => r = (b, d2) :: (a, d1) :: ρ ∧ o = ω) Rt := .mk fun Y s F Q E k1 k2 => by
  refine wpAny_Assign_stores (h.run Y s F _ E fun v s₁ g₁ r₁ => ?_) hs hw
  rw [he]
  show wpAny _ _ (PySem.assign (.Tuple [.Name a p, .Name b q] n tp) c.env v) _ _ _
  cases r₁ with
  | @tup T us _ pT hT rT =>
    obtain ⟨v1, v2, rfl, r1, r2⟩ := rT.two
    exact assign_got (pair := true) (d := .tup [d1, d2]) ok (F.grow g₁) ⟨_, _, _, _, _, _, rfl, ha, hb, hωa, hωb⟩ ⟨T, v1, v2, d1, d2, rfl, rfl, pT.isTuple, r1, r2⟩ fun s' F' mv _ => k1 s' _ _ F' ((Mv.of_grow g₁).trans mv) ⟨rfl, rfl⟩
end

/-! ## Numbers as letters -/
noncomputable def ap16 : List UInt8 := [65, 66, 67, 68, 69, 70, 71, 72, 73, 74, 75, 76, 77, 78, 79, 80]
noncomputable def apn : Nat → Nat → List UInt8
  | 0, _ => []
  | f + 1, n => if n = 0 then [] else apn f (n / 16) ++ [UInt8.ofNat (65 + n % 16)]
theorem pick_ap (m : Nat) (hm : m < 16) : (pickD ap16 (some (m : Int)) (some ((m : Int) + 1))) = [UInt8.ofNat (65 + m)] := by
  have : ∀ m : Fin 16, pickD ap16 (some (m.val : Int)) (some ((m.val : Int) + 1)) = [UInt8.ofNat (65 + m.val)] := by decide +kernel
  exact this ⟨m, hm⟩

section
variable {prog : Program} {w : World} {W : Wld}

theorem c_Int2AP (H : Known prog w W.K W.nums) {d : D} {a : Int} {n : Nat} [hd : IntD d a] (ha : (if a < 0 then -a else a) = n) (hn : n < 16 ^ 6) : Fun prog w W 1 "Int2AP" [d] (.bytes (apn 6 n).toArray) := by
  refine Fun.of (names := ["num"]) H.fInt2AP ?_ (hbind := bindsArgs rfl fun fd vs hv => by obtain ⟨v, rfl⟩ := vs1 hv; rfl)
  intro A L s₀ X₀ f qual code ok
  refine Xq.consAt (Xs.assign ok Ev.cbytes (.inl rfl) (by simp) rfl) ?_
  refine Xq.consAt (Xs.assign ok Ev.cbytes (.inl rfl) (by simp) rfl) ?_
  refine Xq.consAt (Xs.assign ok (Ev.intOf ok (n_int H rfl) (Ev.abs ok (n_abs H rfl) (Ev.name ok rfl))) (.inl rfl) (by simp) rfl) ?_
  rw [ha]
  refine Xq.cons (P' := fun ρ' ω' => ω' = [] ∧ ρ'.lookup ("val" : PySem.Str) = some (.bytes (apn 6 n).toArray)) (Xs.while (fun m ρ' ω' => ∃ (k : Nat) (v : List UInt8), m < 16 ^ k ∧ k ≤ 6 ∧ ω' = [] ∧ ρ'.lookup ("num" : PySem.Str) = some (.int m) ∧ ρ'.lookup ("val" : PySem.Str) = some (.bytes v.toArray) ∧
      ρ'.lookup ("AP" : PySem.Str) = some (.bytes ap16.toArray) ∧ apn k m ++ v = apn 6 n ∧ v.length + k ≤ 6) n ?_ fun m ρ' ω' inv => ?_) fun ρ' ω' inv => ?_
  · exact ⟨6, [], hn, Nat.le_refl _, rfl, rfl, rfl, rfl, by simp, by simp⟩
  · obtain ⟨k, v, hm, hk, rfl, h1, h2, h3, h4, h5⟩ := inv
    refine ⟨((m : Nat) : Int) != 0, Tr.of (Ev.name ok h1) Truth.int, fun hb => ?_, fun hb => ?_⟩
    · have hm0 : m ≠ 0 := by simpa using hb
      obtain ⟨k, rfl⟩ : ∃ k', k = k' + 1 := by
        cases k with
        | zero => simp at hm; exact absurd hm hm0
        | succ k => exact ⟨k, rfl⟩
      refine Xq.consAt (Xs.assign2 ok (Ev.divmod ok (n_divmod H rfl) (Ev.name ok h1) Ev.int (by decide) (PyProof.noPylong_small (by decide))) (.inl rfl) (.inl rfl) (by simp) (by simp) rfl rfl) ?_
      have e1 : ((m : Nat) : Int).fdiv 16 = ((m / 16 : Nat) : Int) := by rw [Int.fdiv_eq_ediv_of_nonneg _ (by decide)]; rfl
      have e2 : ((m : Nat) : Int).fmod 16 = ((m % 16 : Nat) : Int) := by rw [Int.fmod_eq_emod_of_nonneg _ (by decide)]; rfl
      rw [e1, e2]
      refine Xq.consAt (Xs.assign ok (Ev.bin (Ev.slice_bytes (b := ap16.toArray) (lo := some ((m % 16 : Nat) : Int)) (hi := some (((m % 16 : Nat) : Int) + 1)) (Ev.name ok ?_) (.some (h := .i) (Ev.name ok rfl)) (.some (h := .s) (Ev.bin (Ev.name ok rfl) Ev.int (Op2.add (hd := .i) (he := .s)))) (by decide)) (Ev.name ok ?_) (Op2.catB (y := v.toArray) ?_)) (.inl rfl) (by simp) rfl) (Xq.nil ?_)
      · exact h3
      · exact h2
      · rw [show (ap16.toArray.toList) = ap16 from rfl, pick_ap _ (Nat.mod_lt _ (by decide))]; simp; omega
      · refine ⟨m / 16, Nat.div_lt_self (Nat.pos_of_ne_zero hm0) (by decide), k, UInt8.ofNat (65 + m % 16) :: v, ?_, by omega, rfl, rfl, ?_, ?_, ?_, by simp; omega⟩
        · exact Nat.div_lt_of_lt_mul (by rw [Nat.pow_succ] at hm; omega)
        · rw [show (ap16.toArray.toList) = ap16 from rfl, pick_ap _ (Nat.mod_lt _ (by decide))]
          have : ([UInt8.ofNat (65 + m % 16)].toArray ++ v.toArray) = (UInt8.ofNat (65 + m % 16) :: v).toArray := by simp
          rw [this]; rfl
        · exact h3
        · rw [← h4, apn, if_neg hm0]; simp
    · have hm0 : m = 0 := by simpa using hb
      subst hm0
      refine ⟨rfl, ?_⟩
      rw [h2]
      have : apn k 0 = [] := by cases k <;> simp [apn]
      rw [this, List.nil_append] at h4
      rw [h4]
  · obtain ⟨rfl, h⟩ := inv
    exact Xq.ret (Ev.name ok h) rfl
end
end Mine
end

section
open PySem PySem.W PyProof.Rows PySem.Calls PySem.SeqAt
set_option maxRecDepth 100000
namespace Mine

/-! ## Flags -/
theorem reads_iff (text : List Nat) (p : Nat) : Reads' text.toArray text.length p fword ↔ ∃ r, text.drop p = fword ++ r := by
  have gen : ∀ (cs : List Nat) (p : Nat), Reads' text.toArray text.length p cs ↔ ∃ r, text.drop p = cs ++ r := by
    intro cs
    induction cs with
    | nil => intro p; exact ⟨fun _ => ⟨_, rfl⟩, fun _ => trivial⟩
    | cons c cs ih =>
      intro p
      show ((p < text.length ∧ text.toArray.getD p 0 = c) ∧ Reads' text.toArray text.length (p + 1) cs) ↔ _
      rw [ih, getD_at]
      constructor
      · rintro ⟨⟨hp, hc⟩, r, hr⟩
        refine ⟨r, ?_⟩
        rw [List.drop_eq_getElem_cons hp, hr]
        rw [List.getElem?_eq_getElem hp] at hc
        simp at hc
        rw [hc]; rfl
      · rintro ⟨r, hr⟩
        have hp : p < text.length := by
          have := congrArg List.length hr
          simp at this
          omega
        rw [List.drop_eq_getElem_cons hp] at hr
        rw [List.cons_append, List.cons.injEq] at hr
        refine ⟨⟨hp, ?_⟩, r, hr.2⟩
        rw [List.getElem?_eq_getElem hp]
        exact hr.1
  exact gen fword p
theorem no_read {text : List Nat} {p : Nat} (h : ∀ k, p ≤ k → text[k]?.getD 0 ≠ 40) : ¬ Reads' text.toArray text.length p fword := by
  rw [reads_iff]
  rintro ⟨r, hr⟩
  have : text[p + 6]? = some 40 := by
    have e := congrArg (fun l => l[6]?) hr
    simpa [List.getElem?_drop, fword] using e
  have h2 := h (p + 6) (by omega)
  rw [this] at h2
  exact h2 rfl
theorem getD_ne {l : List Nat} {c : Nat} (hc : c ≠ 0) (h : c ∉ l) (k : Nat) : l[k]?.getD 0 ≠ c := by
  cases hk : l[k]? with
  | none => exact fun q => hc q.symm
  | some x => intro q; apply h; rw [← q]; exact List.mem_of_getElem? hk

theorem flags_hit {A V B : List Nat} (h10 : 10 ∉ A ++ (fword ++ (V ++ 41 :: B))) (h40 : 40 ∉ V ++ 41 :: B) (h41 : 41 ∉ V) (hsz : (A ++ (fword ++ (V ++ 41 :: B))).length ≤ 1000) :
    Goes 10000 (Sre.forMatch fcode (A ++ (fword ++ (V ++ 41 :: B))).toArray 1 0 (A ++ (fword ++ (V ++ 41 :: B))).length false false) fun m' => m'.outcome = some .matched ∧ m'.start = 0 ∧ m'.lastmark = 1 ∧ m'.marks = #[some (A.length + 7), some (A.length + 7 + V.length)] := by
  generalize hb : A ++ (fword ++ (V ++ 41 :: B)) = b at *
  have len : b.length = A.length + 7 + V.length + 1 + B.length := by rw [← hb]; simp [fword]; omega
  have sz : b.toArray.size = b.length := by simp
  have hinit := flags_init b.toArray (by rw [sz, len]; omega)
  rw [sz] at hinit
  rw [hinit]
  have st := flags_start b.toArray (({} : Sre.Seen).add 14) (fun k _ => by rw [getD_at]; exact getD_ne (by decide) h10 k) (by rw [sz]; exact hsz)
  rw [sz] at st
  refine (st.trans (b := 9000) fun m' ⟨sn', e⟩ => ?_).more (by omega)
  rw [e]
  have after : ∀ k, A.length + 7 ≤ k → b[k]?.getD 0 = (V ++ 41 :: B)[k - (A.length + 7)]?.getD 0 := fun k hk => by
    rw [← hb, List.getElem?_append_right (by omega), List.getElem?_append_right (by show 7 ≤ k - A.length; omega)]
    congr 2
  have down := flags_down b.toArray (b.length - A.length) A.length sn' (fun p' h1 h2 => by
    have := no_read (text := b) (p := p') 
    by_cases hp : A.length + 1 ≤ p'
    · have nr : ¬ Reads' b.toArray b.length p' fword := by
        rw [reads_iff]
        rintro ⟨r, hr⟩
        have e6 : b[p' + 6]? = some 40 := by
          have e := congrArg (fun l => l[6]?) hr
          simpa [List.getElem?_drop, fword] using e
        have e7 := after (p' + 6) (by omega)
        rw [e6] at e7
        exact getD_ne (by decide) h40 _ e7.symm
      rw [sz]; exact nr
    · omega)
  rw [show A.length + (b.length - A.length) = b.length by omega] at down
  refine (down.trans (b := 20) fun m' ⟨sn2, e2⟩ => ?_).more (by omega)
  rw [e2]
  have rd : Reads' b.toArray b.toArray.size A.length fword := by
    rw [sz, reads_iff]
    refine ⟨V ++ 41 :: B, ?_⟩
    rw [← hb, List.drop_left' rfl]
  refine flags_some b.toArray A.length (A.length + 7 + V.length) (by rw [sz]; exact hsz) rd (by omega) (by rw [sz]; omega) (fun k h1 h2 => ?_) ?_ sn2
  · rw [getD_at, after k h1, List.getElem?_append_left (by omega)]
    exact getD_ne (by decide) h41 _
  · rw [getD_at, after _ (by omega), show A.length + 7 + V.length - (A.length + 7) = V.length by omega, List.getElem?_append_right (Nat.le_refl _), Nat.sub_self]
    rfl
theorem flags_miss {b : List Nat} (h10 : 10 ∉ b) (h40 : 40 ∉ b) (h8 : 8 ≤ b.length) (hsz : b.length ≤ 1000) :
    Goes 10000 (Sre.forMatch fcode b.toArray 1 0 b.length false false) fun m' => m'.outcome = some .failed := by
  have sz : b.toArray.size = b.length := by simp
  have hinit := flags_init b.toArray (by rw [sz]; exact h8)
  rw [sz] at hinit
  rw [hinit]
  have st := flags_start b.toArray (({} : Sre.Seen).add 14) (fun k _ => by rw [getD_at]; exact getD_ne (by decide) h10 k) (by rw [sz]; exact hsz)
  rw [sz] at st
  refine (st.trans (b := 8 * b.length + 9) fun m' ⟨sn', e⟩ => ?_).more (by omega)
  rw [e]
  have := flags_none b.toArray (fun p => by rw [sz]; exact no_read fun k _ => getD_ne (by decide) h40 k) sn'
  rw [sz] at this
  exact this

section
variable {prog : Program} {w : World} {W : Wld}
theorem map_nat (b : List UInt8) : b.toArray.map (·.toNat) = (b.map (·.toNat)).toArray := by simp

theorem c_flags (H : Known prog w W.K W.nums) {A V B : List UInt8} (h10 : 10 ∉ A ++ ([70, 76, 65, 71, 83, 32, 40] ++ (V ++ 41 :: B))) (h40 : 40 ∉ V ++ 41 :: B) (h41 : 41 ∉ V) (hsz : (A ++ ([70, 76, 65, 71, 83, 32, 40] ++ (V ++ 41 :: B))).length ≤ 1000)
    (hsp : V.toArray.any Builtin.Bytes.isSpace = true) (hw1 : ∀ x ∈ wordsB V.toArray, x.size ≤ 1000) (hw2 : (wordsB V.toArray).length ≤ 1000) :
    Fun prog w W 1 "ParseFlags" [.bytes (A ++ ([70, 76, 65, 71, 83, 32, 40] ++ (V ++ 41 :: B))).toArray] (.tup ((wordsB V.toArray).map D.bytes)) := by
  refine Fun.of (names := ["resp"]) H.fParseFlags ?_ (hbind := bindsArgs rfl fun fd vs hv => by obtain ⟨v, rfl⟩ := vs1 hv; rfl)
  intro A' L s₀ X₀ f qual code ok
  obtain ⟨P, gd, g, tk, hn, hp, hg⟩ := H.flags
  have inj : ∀ {c : UInt8} {l : List UInt8}, c ∉ l → c.toNat ∉ l.map (·.toNat) := fun h q => by
    obtain ⟨x, hx, e⟩ := List.mem_map.mp q
    rw [UInt8.toNat_inj.mp e] at hx; exact h hx
  have en : (A ++ ([70, 76, 65, 71, 83, 32, 40] ++ (V ++ 41 :: B))).map UInt8.toNat = A.map (·.toNat) ++ (fword ++ (V.map (·.toNat) ++ 41 :: B.map (·.toNat))) := by simp [fword]
  have hit := flags_hit (A := A.map (·.toNat)) (V := V.map (·.toNat)) (B := B.map (·.toNat)) (by rw [← en]; exact inj (c := 10) h10) (by
    have := inj (c := 40) h40
    simpa using this) (inj (c := 41) h41) (by rw [← en, List.length_map]; exact hsz)
  rw [← en, ← map_nat] at hit
  simp only [List.length_map] at hit
  have hl : A.length + 7 + V.length ≤ (A ++ ([70, 76, 65, 71, 83, 32, 40] ++ (V ++ 41 :: B))).length := by simp; omega
  have ex : (A ++ ([70, 76, 65, 71, 83, 32, 40] ++ (V ++ 41 :: B))).toArray.extract (A.length + 7) (A.length + 7 + V.length) = V.toArray := by
    apply Array.ext'
    simp only [Array.toList_extract, List.extract_eq_take_drop]
    rw [show A.length + 7 + V.length - (A.length + 7) = V.length by omega]
    have : (A ++ ([70, 76, 65, 71, 83, 32, 40] ++ (V ++ 41 :: B))).drop (A.length + 7) = V ++ 41 :: B := by
      rw [← List.drop_drop, List.drop_left' rfl]; rfl
    rw [this, List.take_left' rfl]
  generalize hb : A ++ ([70, 76, 65, 71, 83, 32, 40] ++ (V ++ 41 :: B)) = b at *
  refine Xq.consAt (Xs.assign ok (Ev.matchB (P := P) (p := A.length + 7) (q := A.length + 7 + V.length) (n := 10000) ok hn rfl (fun h k => ⟨(hp h k).1, (hp h k).2.1⟩) (Ev.name ok rfl) (by simp; omega) (by decide) (by omega) (by rw [List.size_toArray]; exact hit)) (.inl rfl) (by simp) rfl) ?_
  refine Xq.skipB (Tr.not (Tr.of (Ev.name ok rfl) Truth.mat)) rfl ?_
  refine Xq.ret (Ev.tupleOf ok (n_tuple H rfl) (Ev.methB0 slot_bytes_split type_bytes_split (Ev.group ok (fun h k => ⟨(hp h k).1, (hp h k).2.2⟩) hg (Ev.name ok rfl) Ev.cstr (by omega) (by rw [List.size_toArray]; exact hl) (by rw [List.size_toArray]; omega)) ?_) ?_) rfl
  · rw [ex]
    exact BCall.words hsp (fun x hx => Nat.le_trans (hw1 x hx) (by decide)) (Nat.le_trans hw2 (by decide))
  · rw [List.length_map]; omega
theorem c_noflags (H : Known prog w W.K W.nums) {b : List UInt8} (h10 : 10 ∉ b) (h40 : 40 ∉ b) (h8 : 8 ≤ b.length) (hsz : b.length ≤ 1000) : Fun prog w W 1 "ParseFlags" [.bytes b.toArray] (.tup []) := by
  refine Fun.of (names := ["resp"]) H.fParseFlags ?_ (hbind := bindsArgs rfl fun fd vs hv => by obtain ⟨v, rfl⟩ := vs1 hv; rfl)
  intro A' L s₀ X₀ f qual code ok
  obtain ⟨P, gd, g, tk, hn, hp, hg⟩ := H.flags
  have inj : ∀ {c : UInt8} {l : List UInt8}, c ∉ l → c.toNat ∉ l.map (·.toNat) := fun h q => by
    obtain ⟨x, hx, e⟩ := List.mem_map.mp q
    rw [UInt8.toNat_inj.mp e] at hx; exact h hx
  have miss := flags_miss (b := b.map (·.toNat)) (inj (c := 10) h10) (inj (c := 40) h40) (by rw [List.length_map]; exact h8) (by rw [List.length_map]; exact hsz)
  rw [← map_nat, List.length_map] at miss
  refine Xq.consAt (Xs.assign ok (Ev.matchN (P := P) (n := 10000) ok hn rfl (fun h k => ⟨(hp h k).1, (hp h k).2.1⟩) (Ev.name ok rfl) (by simp; omega) (by decide) (by rw [List.size_toArray]; exact miss)) (.inl rfl) (by simp) rfl) ?_
  exact Xq.takenB (Tr.not (Tr.of (Ev.name ok rfl) Truth.none)) rfl (Xq.ret (Ev.tup Evs.nil) rfl)
end
end Mine
end

section
open PySem PySem.W PyProof.Rows PySem.Calls PySem.SeqAt
set_option maxRecDepth 100000
namespace Mine
open PySem.Builtin

/-! ## Lines of bytes -/
noncomputable def rowsB (rows : List (List UInt8)) : List UInt8 := rows.flatMap fun r => r ++ [13, 10]
noncomputable def crs : Nat → List (List UInt8) → List Nat
  | _, [] => []
  | s, r :: rs => (s + r.length) :: crs (s + r.length + 2) rs
theorem crs_le : ∀ (rows : List (List UInt8)) (s : Nat), ∀ i ∈ crs s rows, s ≤ i
  | [], _, i, h => by cases h
  | r :: rs, s, i, h => by
    rw [crs] at h
    rcases List.mem_cons.mp h with rfl | h
    · omega
    · have := crs_le rs _ i h; omega
theorem crs_gap : ∀ (rows : List (List UInt8)) (s : Nat), (crs s rows).Pairwise fun a b => a + 2 ≤ b
  | [], _ => .nil
  | r :: rs, s => by
    rw [crs]
    refine .cons (fun i hi => ?_) (crs_gap rs _)
    have := crs_le rs _ i hi; omega
theorem crs_length : ∀ (rows : List (List UInt8)) (s : Nat), (crs s rows).length = rows.length
  | [], _ => rfl
  | r :: rs, s => by rw [crs, List.length_cons, List.length_cons, crs_length rs]
theorem occ_fold (P : Nat → Bool) (l : List Nat) : ∀ (acc : List Nat) (nx : Nat), (l.filter P).Pairwise (fun a b => a + 2 ≤ b) → (∀ i ∈ l.filter P, nx ≤ i) →
    (l.foldl (fun (acc : List Nat × Nat) i => if (decide (i ≥ acc.2) && P i) = true then (i :: acc.1, i + 2) else acc) (acc, nx)).1 = (l.filter P).reverse ++ acc := by
  induction l with
  | nil => intro acc nx _ _; rfl
  | cons i l ih =>
    intro acc nx hp hn
    rw [List.foldl_cons]
    cases h : P i with
    | false =>
      rw [List.filter_cons_of_neg (by simp [h])] at hp hn ⊢
      rw [if_neg (by simp)]
      exact ih acc nx hp hn
    | true =>
      rw [List.filter_cons_of_pos (by simp [h])] at hp hn ⊢
      have hle := hn i (.head _)
      rw [if_pos (by simp; exact hle)]
      rw [ih _ _ (List.pairwise_cons.mp hp).2 (List.pairwise_cons.mp hp).1]
      simp
noncomputable def isCr (b : List UInt8) (i : Nat) : Bool := (b.drop i).take 2 == [13, 10]
theorem isCr_no {b : List UInt8} {i : Nat} {x : UInt8} {r : List UInt8} (h : b.drop i = x :: r) (hx : x ≠ 13) : isCr b i = false := by
  unfold isCr
  rw [h]
  cases r <;> simp [hx]
theorem filter_none {P : Nat → Bool} : ∀ {l : List Nat}, (∀ i ∈ l, P i = false) → l.filter P = [] := fun h => by
  rw [List.filter_eq_nil_iff]; intro i hi; rw [h i hi]; exact Bool.false_ne_true
theorem crs_filter : ∀ (rows : List (List UInt8)) (pre : List UInt8), (∀ r ∈ rows, 13 ∉ r) → (List.range' pre.length (rowsB rows).length).filter (isCr (pre ++ rowsB rows)) = crs pre.length rows
  | [], pre, _ => rfl
  | r :: rs, pre, h => by
    have ih := crs_filter rs (pre ++ (r ++ [13, 10])) fun q hq => h q (.tail _ hq)
    have e : pre ++ (r ++ [13, 10]) ++ rowsB rs = pre ++ rowsB (r :: rs) := by simp [rowsB]
    rw [e] at ih
    have hl : (rowsB (r :: rs)).length = r.length + (1 + (1 + (rowsB rs).length)) := by simp [rowsB]; omega
    have eT : ∀ k, (pre ++ rowsB (r :: rs)).drop (pre.length + k) = (r ++ (13 :: 10 :: rowsB rs)).drop k := fun k => by
      rw [← List.drop_drop, List.drop_left' rfl]
      simp [rowsB]
    generalize pre ++ rowsB (r :: rs) = b at *
    rw [hl, ← List.range'_append_1, List.filter_append, ← List.range'_append_1, List.filter_append, ← List.range'_append_1, List.filter_append]
    have f1 : (List.range' pre.length r.length).filter (isCr b) = [] := filter_none fun i hi => by
      rw [List.mem_range'_1] at hi
      obtain ⟨j, rfl⟩ : ∃ j, i = pre.length + j := ⟨i - pre.length, by omega⟩
      have hj : j < r.length := by omega
      refine isCr_no (x := r[j]) (r := r.drop (j + 1) ++ (13 :: 10 :: rowsB rs)) ?_ fun q => h r (.head _) (q ▸ List.getElem_mem _)
      rw [eT, List.drop_append_of_le_length (by omega), List.drop_eq_getElem_cons hj]; rfl
    have f2 : (List.range' (pre.length + r.length) 1).filter (isCr b) = [pre.length + r.length] := by
      have : isCr b (pre.length + r.length) = true := by
        unfold isCr
        rw [eT, List.drop_left' rfl]; rfl
      show List.filter _ [_] = _
      rw [List.filter_cons_of_pos this]; rfl
    have f3 : (List.range' (pre.length + r.length + 1) 1).filter (isCr b) = [] := filter_none fun i hi => by
      rw [List.mem_range'_1] at hi
      have : i = pre.length + (r.length + 1) := by omega
      subst this
      refine isCr_no (x := 10) (r := rowsB rs) ?_ (by decide)
      rw [eT, ← List.drop_drop, List.drop_left' rfl]; rfl
    rw [f1, f2, f3]
    have : (pre ++ (r ++ [13, 10])).length = pre.length + r.length + 1 + 1 := by simp; omega
    rw [this] at ih
    rw [ih]; rfl
theorem ext_pre {pre r rest : List UInt8} {p : Nat} (hp : p = pre.length + r.length) : (pre ++ (r ++ rest)).toArray.extract pre.length p = r.toArray := by
  subst hp
  apply Array.ext'
  simp
theorem between_rows (b : List UInt8) : ∀ (rows : List (List UInt8)) (pre : List UInt8) (acc : Array (Array UInt8)), b = pre ++ rowsB rows →
    ((crs pre.length rows).foldl (fun (x : Array (Array UInt8) × Nat) p => (x.1.push (b.toArray.extract x.2 p), p + 2)) (acc, pre.length)) = (acc ++ (rows.map List.toArray).toArray, b.length)
  | [], pre, acc, hb => by simp [crs, hb, rowsB]
  | r :: rs, pre, acc, hb => by
    rw [crs, List.foldl_cons]
    have hb' : b = (pre ++ (r ++ [13, 10])) ++ rowsB rs := by rw [hb]; simp [rowsB]
    have := between_rows b rs (pre ++ (r ++ [13, 10])) (acc.push r.toArray) hb'
    have hl : (pre ++ (r ++ [13, 10])).length = pre.length + r.length + 2 := by simp; omega
    rw [hl] at this
    have ex : b.toArray.extract pre.length (pre.length + r.length) = r.toArray := by
      rw [hb]
      have : rowsB (r :: rs) = r ++ (13 :: 10 :: rowsB rs) := by simp [rowsB]
      rw [this]
      exact ext_pre rfl
    dsimp only
    rw [ex, this]
    simp
theorem occ_rows (rows : List (List UInt8)) (h : ∀ r ∈ rows, 13 ∉ r) (hne : rows ≠ []) : Bytes.occurrences (rowsB rows).toArray #[13, 10] 0 (rowsB rows).toArray.size = crs 0 rows := by
  have hf := crs_filter rows [] h
  rw [List.nil_append] at hf
  change (List.range' 0 (rowsB rows).length).filter _ = crs 0 rows at hf
  rw [← List.range_eq_range'] at hf
  have h2 : 2 ≤ (rowsB rows).length := by
    cases rows with
    | nil => exact absurd rfl hne
    | cons r rs => simp [rowsB]; omega
  have e : (rowsB rows).length = (rowsB rows).length - 1 + 1 := by omega
  have last : isCr (rowsB rows) ((rowsB rows).length - 1) = false := by
    unfold isCr
    have hl : ((rowsB rows).drop ((rowsB rows).length - 1)).length = 1 := by rw [List.length_drop]; omega
    obtain ⟨x, hx⟩ := List.length_eq_one_iff.mp hl
    rw [hx]
    simp
  rw [e, List.range_succ, List.filter_append, List.filter_cons_of_neg (by rw [last]; exact Bool.false_ne_true), List.filter_nil, List.append_nil] at hf
  unfold Bytes.occurrences
  simp only [List.size_toArray]
  have em : ((List.range ((rowsB rows).length + 1 - (0 + 2))).map (· + 0)) = List.range ((rowsB rows).length - 1) := by
    rw [show (rowsB rows).length + 1 - (0 + 2) = (rowsB rows).length - 1 by omega]
    exact List.map_id _
  have sz2 : ([13, 10] : List UInt8).length = 2 := rfl
  rw [sz2, em]
  have ep : (fun (acc : List Nat × Nat) i => if (decide (i ≥ acc.2) && (rowsB rows).toArray.extract i (i + 2) == #[13, 10]) = true then (i :: acc.1, i + 2) else acc) =
      (fun (acc : List Nat × Nat) i => if (decide (i ≥ acc.2) && isCr (rowsB rows) i) = true then (i :: acc.1, i + 2) else acc) := by
    funext acc i
    have : ((rowsB rows).toArray.extract i (i + 2) == #[13, 10]) = isCr (rowsB rows) i := by
      unfold isCr
      rw [Bool.eq_iff_iff, beq_iff_eq, beq_iff_eq]
      constructor
      · intro q
        have := congrArg Array.toList q
        simpa [List.extract_eq_take_drop] using this
      · intro q
        apply Array.ext'
        simpa [List.extract_eq_take_drop] using q
    rw [this]
  rw [ep, occ_fold _ _ _ _ (by rw [hf]; exact crs_gap _ _) (fun _ _ => Nat.zero_le _), hf]
  simp
theorem split_rows (rows : List (List UInt8)) (h : ∀ r ∈ rows, 13 ∉ r) (hne : rows ≠ []) : splitB (rowsB rows).toArray #[13, 10] = rows.map List.toArray ++ [#[]] := by
  unfold splitB
  rw [occ_rows rows h hne]
  unfold Bytes.between
  have := between_rows (rowsB rows) rows [] #[] rfl
  change ((crs 0 rows).foldl _ (#[], 0)) = _ at this
  have sz2 : (#[13, 10] : Array UInt8).size = 2 := rfl
  rw [sz2]
  rw [this]
  simp
end Mine
end

section
open PySem PySem.W PyProof.Rows PySem.Calls PySem.SeqAt
set_option maxRecDepth 100000
namespace Mine

theorem dotted_nat (r : List UInt8) : dotted (r.map (·.toNat)) = (if r.head? = some 46 then 46 :: r else r).map (·.toNat) := by
  unfold dotted
  cases r with
  | nil => rfl
  | cons a r =>
    simp only [List.map_cons, List.head?_cons, Option.some.injEq]
    by_cases h : a = 46
    · subst h; simp
    · have : a.toNat ≠ 46 := fun q => h (UInt8.toNat_inj.mp q)
      simp [h, this]
noncomputable def dottedB (r : List UInt8) : List UInt8 := if r.head? = some 46 then 46 :: r else r
theorem rowsT_nat (rows : List (List UInt8)) : (rowsB rows).map (·.toNat) = rowsT (rows.map fun r => r.map (·.toNat)) := by
  unfold rowsB rowsT
  rw [List.map_flatMap, List.flatMap_map]
  congr 1
  funext r
  simp

section
variable {prog : Program} {w : World} {W : Wld}
theorem c_eols (H : Known prog w W.K W.nums) (rows : List (Nat × List Nat)) (h : ∀ r ∈ rows, (r.1 ≠ 10 ∧ r.1 ≠ 13) ∧ IsEol r.2) (hsz : rows.length ≤ 1000) : Fun prog w W 1 "_fix_eols" [.str ⟨(lines rows).toArray⟩] (.str ⟨(crlfs rows).toArray⟩) := by
  refine Fun.of (names := ["data"]) H.fEols ?_ (hbind := bindsArgs rfl fun fd vs hv => by obtain ⟨v, rfl⟩ := vs1 hv; rfl)
  intro A L s₀ X₀ f qual code ok
  obtain ⟨P, gi, hn, hp⟩ := H.eols
  obtain ⟨t, hc⟩ := H.crlf
  obtain ⟨ms, hF, hG, hL⟩ := eols_found rows [] h
  rw [List.nil_append, List.length_nil] at hF hG
  have l1 : (lines rows).length ≤ 3 * rows.length := by
    clear hF hG hL hsz
    induction rows with
    | nil => exact Nat.le_refl _
    | cons r rows ih =>
      have := ih fun q hq => h q (.tail _ hq)
      have hr := (h r (.head _)).2
      have : r.2.length ≤ 2 := by rcases hr with e | e | e <;> rw [e] <;> decide
      simp [lines] at *
      omega
  have l2 : ∀ rows : List (Nat × List Nat), (crlfs rows).length = 3 * rows.length := fun rows => by
    induction rows with
    | nil => rfl
    | cons r rows ih => simp [crlfs] at *; omega
  refine Xq.ret (Ev.to (Ev.subS (P := P) (gi := gi) (B := 100) (ms := ms) ok hn rfl hp (Ev.gstr ok hc rfl) (Ev.name ok rfl) (by rw [List.size_toArray]; omega) (by decide) (by decide +kernel) hF (by omega) (by rw [hG, l2]; omega)) (by rw [hG])) rfl

theorem c_quote (H : Known prog w W.K W.nums) (rows : List (List UInt8)) (h : ∀ r ∈ rows, 10 ∉ r) (hsz : (rowsB rows).length ≤ 10000) (hn : rows.length ≤ 10000) : Fun prog w W 1 "_quote_periods" [.bytes (rowsB rows).toArray] (.bytes (rowsB (rows.map dottedB)).toArray) := by
  refine Fun.of (names := ["bindata"]) H.fQuote ?_ (hbind := bindsArgs rfl fun fd vs hv => by obtain ⟨v, rfl⟩ := vs1 hv; rfl)
  intro A L s₀ X₀ f qual code ok
  obtain ⟨P, gi, hn', hp⟩ := H.dots
  obtain ⟨ms, hF, hG, hL⟩ := dots_found (rows.map fun r => r.map (·.toNat)) [] 0 (fun r hr => by
    obtain ⟨q, hq, rfl⟩ := List.mem_map.mp hr
    intro hx
    obtain ⟨x, hx, e⟩ := List.mem_map.mp hx
    have : x = 10 := UInt8.toNat_inj.mp e
    exact h q hq (this ▸ hx)) (.inl rfl) (Nat.le_refl _) (fun k _ hk => absurd hk (Nat.not_lt_zero _))
  rw [List.nil_append, ← rowsT_nat, ← map_nat] at hF hG
  rw [List.drop_nil, List.nil_append, List.map_map] at hG
  have er : (rows.map (dotted ∘ fun r => r.map (·.toNat))) = (rows.map dottedB).map fun r => r.map (·.toNat) := by
    rw [List.map_map]
    congr 1
    funext r
    exact dotted_nat r
  rw [er, ← rowsT_nat] at hG
  have l2 : (rowsB (rows.map dottedB)).length ≤ (rowsB rows).length + rows.length := by
    clear hF hG hL hsz hn er h
    induction rows with
    | nil => exact Nat.le_refl _
    | cons r rows ih =>
      have : (dottedB r).length ≤ r.length + 1 := by unfold dottedB; split <;> simp
      simp [rowsB] at *
      omega
  rw [List.length_map] at hL hF
  refine Xq.ret (Ev.subB (P := P) (gi := gi) (B := 3 * (rowsB rows).length + 5) (ms := ms) ok hn' rfl hp Ev.cbytes (Ev.name ok rfl) (by rw [List.size_toArray]; omega) (by omega) (by decide +kernel) hF (by omega) ?_ ?_) rfl
  · have e2 : (([46, 46] : List UInt8).toArray.map (·.toNat)) = #[46, 46] := by decide +kernel
    rw [e2, hG, List.length_map]; omega
  · have e2 : (([46, 46] : List UInt8).toArray.map (·.toNat)) = #[46, 46] := by decide +kernel
    rw [e2, hG, map_nat]
end
end Mine
end

section
open PySem PySem.W PyProof.Rows PySem.Calls PySem.SeqAt
set_option maxRecDepth 100000
namespace Mine

/-! ## Heard -/
noncomputable def Sy (s : Int) : Prop := s = 254 ∨ s = 255 ∨ s = 256 ∨ s = 257 ∨ s = 258
noncomputable def sg (s : Int) : Nat := if s = 256 then 46 else if s = 257 then 124 else if s = 258 then 42 else if s = 255 then 60 else 62
noncomputable def kd (s : Int) : Nat := if s = 256 then 0 else if s = 257 then 1 else if s = 258 then 2 else if s = 255 then 3 else 4
noncomputable def eolN (i : Int) : List Nat := if i.fmod 3 = 0 then [10] else if i.fmod 3 = 1 then [13] else [13, 10]
noncomputable def spelt : List (PyData × PyData) := [(.int 256, .str "."), (.int 257, .str "|"), (.int 258, .str "*"), (.int 255, .str "<"), (.int 254, .str ">")]
theorem spelt_at {s : Int} (h : Sy s) : PySem.Spec.lookup (.int s) spelt = some (.str ⟨#[sg s]⟩) := by
  rcases h with rfl | rfl | rfl | rfl | rfl <;> rfl
theorem fmod3 (i : Int) : i.fmod 3 = 0 ∨ i.fmod 3 = 1 ∨ i.fmod 3 = 2 := by
  have h1 := Int.fmod_nonneg_of_pos i (b := 3) (by decide)
  have h2 := Int.fmod_lt_of_pos i (b := 3) (by decide)
  omega
theorem eolN_at (i : Int) : ([D.str "\n", D.str "\r", D.str "\r\n"] : List D)[(i.fmod 3).toNat]? = some (D.str ⟨(eolN i).toArray⟩) := by
  unfold eolN
  rcases fmod3 i with h | h | h <;> rw [h] <;> rfl
theorem eolN_is (i : Int) : IsEol (eolN i) := by
  unfold eolN IsEol
  rcases fmod3 i with h | h | h <;> rw [h] <;> simp
theorem sg_ok {s : Int} (h : Sy s) : sg s ≠ 10 ∧ sg s ≠ 13 ∧ sg s < 128 := by rcases h with rfl | rfl | rfl | rfl | rfl <;> decide
noncomputable def rowI (i : Nat) (s : Int) : List UInt8 := if s = 256 then List.replicate (i + 1) 46 else [UInt8.ofNat (sg s)]
theorem rowI_dot (i : Nat) {s : Int} (h : Sy s) : dottedB (rowI i s) = rowI (i + 1) s := by
  rcases h with rfl | rfl | rfl | rfl | rfl <;> rfl
theorem rowI_no (i : Nat) {s : Int} (h : Sy s) {x : UInt8} (hx : x = 10 ∨ x = 13) : x ∉ rowI i s := by
  rcases h with rfl | rfl | rfl | rfl | rfl
  · rcases hx with rfl | rfl <;> simp [rowI, sg]
  · rcases hx with rfl | rfl <;> simp [rowI, sg]
  · rcases hx with rfl | rfl <;> simp [rowI, List.mem_replicate]
  · rcases hx with rfl | rfl <;> simp [rowI, sg]
  · rcases hx with rfl | rfl <;> simp [rowI, sg]
theorem rowI_len (i : Nat) (s : Int) : (rowI i s).length ≤ i + 1 := by unfold rowI; split <;> simp
theorem rowI_head (i : Nat) {s : Int} (h : Sy s) : pickD (rowI i s) none (some 1) = [if s = 256 then 46 else UInt8.ofNat (sg s)] := by
  rcases h with rfl | rfl | rfl | rfl | rfl
  · rfl
  · rfl
  · show ((rowI i 256).drop 0).take _ = _
    unfold rowI
    rw [if_pos rfl, if_pos rfl, List.replicate_succ]
    have : clipAt (46 :: List.replicate i (46 : UInt8)).length 1 = 1 := by
      unfold clipAt
      have : ((46 :: List.replicate i (46 : UInt8)).length : Int) = i + 1 := by simp
      rw [if_neg (by decide), this]
      omega
    show ((46 :: List.replicate i 46).drop 0).take (clipAt _ 1 - 0) = _
    rw [this]; rfl
  · rfl
  · rfl
theorem rowI_cut {n : Nat} (hn : n ≤ 3) : pickD (rowI n 256) (some ((n : Nat) : Int)) none = [46] := by
  match n, hn with
  | 0, _ => rfl
  | 1, _ => rfl
  | 2, _ => rfl
  | 3, _ => rfl
theorem pick_last {α : Type} (l : List α) (x : α) : pickD (l ++ [x]) none (some (-1)) = l := by
  unfold pickD
  have : clipAt (l ++ [x]).length (-1) = l.length := by
    unfold clipAt
    rw [if_pos (by decide)]
    simp
    omega
  show ((l ++ [x]).drop 0).take (clipAt _ (-1) - 0) = l
  rw [this]
  simp
theorem rowsB_len (l : List (List UInt8)) (k : Nat) (h : ∀ r ∈ l, r.length ≤ k) : (rowsB l).length ≤ l.length * (k + 2) := by
  induction l with
  | nil => exact Nat.zero_le _
  | cons r l ih =>
    have h1 := h r (.head _)
    have h2 := ih fun q hq => h q (.tail _ hq)
    simp [rowsB] at *
    rw [Nat.add_mul]
    omega

/-- the text as it is sent -/
noncomputable def sent (turn : Int) (syms : List Int) : List (Nat × List Nat) := syms.zipIdx.map fun q => (sg q.1, eolN (turn + (q.2 : Nat)))
theorem sent_crlf (turn : Int) (syms : List Int) : crlfs (sent turn syms) = syms.flatMap fun s => [sg s, 13, 10] := by
  unfold crlfs sent
  rw [List.flatMap_map]
  have : ∀ (l : List Int) (k : Nat), (l.zipIdx k).flatMap (fun q : Int × Nat => [sg q.1, 13, 10]) = l.flatMap fun s => [sg s, 13, 10] := fun l => by
    induction l with
    | nil => intro k; rfl
    | cons s l ih => intro k; rw [List.zipIdx_cons, List.flatMap_cons, ih, List.flatMap_cons]
  exact this syms 0
theorem sent_bytes (syms : List Int) (h : ∀ s ∈ syms, Sy s) : (syms.flatMap fun s => [sg s, 13, 10]).map (·.toUInt8) = rowsB (syms.map (rowI 0)) := by
  unfold rowsB
  rw [List.map_flatMap, List.flatMap_map]
  have : ∀ (l : List Int), (∀ s ∈ l, Sy s) → (l.flatMap fun a => List.map (fun x => x.toUInt8) [sg a, 13, 10]) = l.flatMap fun a => rowI 0 a ++ [13, 10] := fun l => by
    induction l with
    | nil => intro _; rfl
    | cons s l ih =>
      intro h
      rw [List.flatMap_cons, List.flatMap_cons, ih fun s hs => h s (.tail _ hs)]
      congr 1
      rcases h s (.head _) with rfl | rfl | rfl | rfl | rfl <;> rfl
  exact this syms h

section
variable {prog : Program} {w : World} {W : Wld}
theorem dec_sg {s : Int} (h : Sy s) (id : String) : Builtin._codecs.runDecoder id Builtin._codecs.asciiDecoder none true [UInt8.ofNat (sg s)].toArray 0 [] = pure (#[sg s], 1) := by
  rcases h with rfl | rfl | rfl | rfl | rfl
  · exact (by kernel_rfl : Builtin._codecs.runDecoder id Builtin._codecs.asciiDecoder none true [62].toArray 0 [] = pure (#[62], 1))
  · exact (by kernel_rfl : Builtin._codecs.runDecoder id Builtin._codecs.asciiDecoder none true [60].toArray 0 [] = pure (#[60], 1))
  · exact (by kernel_rfl : Builtin._codecs.runDecoder id Builtin._codecs.asciiDecoder none true [46].toArray 0 [] = pure (#[46], 1))
  · exact (by kernel_rfl : Builtin._codecs.runDecoder id Builtin._codecs.asciiDecoder none true [124].toArray 0 [] = pure (#[124], 1))
  · exact (by kernel_rfl : Builtin._codecs.runDecoder id Builtin._codecs.asciiDecoder none true [42].toArray 0 [] = pure (#[42], 1))

noncomputable def tokOf (s : Int) : Int := if s = 256 then 23 else if s = 257 then 18 else if s = 258 then 16 else if s = 255 then 20 else 21
noncomputable def kinds5 : List D := [.sol 23, .sol 18, .sol 16, .sol 20, .sol 21]
theorem c_kind (H : Known prog w W.K W.nums) {s : Int} (h : Sy s) : Fun prog w W 1 "indexOf" [.lst kinds5, .sol (tokOf s)] (.int (kd s)) := by
  refine c_indexOf H (n := 0) (fun z hz => ?_) (.sol _) (fun z hz => ?_) (.sol _ _) (by decide) ?_ ?_ ?_
  · simp [kinds5] at hz
    rcases hz with rfl | rfl | rfl | rfl | rfl <;> exact .sol _
  · simp [kinds5] at hz
    rcases hz with rfl | rfl | rfl | rfl | rfl <;> exact .sol _ _
  · rw [eqv_sol]; simp
  · rcases h with rfl | rfl | rfl | rfl | rfl <;> exact ⟨_, rfl, rfl⟩
  · intro i z hi hz
    rcases h with rfl | rfl | rfl | rfl | rfl
    · match i, hi with
      | 0, _ => cases hz; rfl
      | 1, _ => cases hz; rfl
      | 2, _ => cases hz; rfl
      | 3, _ => cases hz; rfl
    · match i, hi with
      | 0, _ => cases hz; rfl
      | 1, _ => cases hz; rfl
      | 2, _ => cases hz; rfl
    · exact absurd hi (Nat.not_lt_zero _)
    · match i, hi with
      | 0, _ => cases hz; rfl
    · match i, hi with
      | 0, _ => cases hz; rfl
      | 1, _ => cases hz; rfl
end
end Mine
end

section
open PySem PySem.W PyProof.Rows PySem.Calls PySem.SeqAt
set_option maxRecDepth 100000
namespace Mine

section
variable {prog : Program} {w : World} {W : Wld}
theorem range_map (n : Nat) : rangeD n = (List.range n).map fun i => D.int (i : Nat) := rfl

theorem str_cat (c : Nat) (l : List Nat) : ((⟨#[c]⟩ : PySem.Str) ++ ⟨l.toArray⟩) = ⟨(c :: l).toArray⟩ := by
  show PySem.Str.mk (#[c] ++ l.toArray) = _
  congr 1
  apply Array.ext'
  simp
noncomputable def ysOf (turn : Int) (syms : List Int) : List PySem.Str := (sent turn syms).map fun r => ⟨(r.1 :: r.2).toArray⟩
theorem ys_eq (turn : Int) (syms : List Int) : syms.zipIdx.map (fun q : Int × Nat => D.str (⟨#[sg q.1]⟩ ++ ⟨(eolN (turn + (q.2 : Nat))).toArray⟩)) = (ysOf turn syms).map D.str := by
  unfold ysOf sent
  rw [List.map_map, List.map_map]
  apply List.map_congr_left
  intro q _
  rw [str_cat]; rfl
theorem sent_len (turn : Int) (syms : List Int) : (sent turn syms).length = syms.length := by unfold sent; simp
theorem sent_eol {turn : Int} {syms : List Int} : ∀ r ∈ sent turn syms, IsEol r.2 := fun r hr => by
  obtain ⟨q, _, rfl⟩ := List.mem_map.mp hr
  exact eolN_is _
theorem ys_join (turn : Int) (syms : List Int) : Txt.join (PySem.Str.ofString "") (ysOf turn syms) = ⟨(lines (sent turn syms)).toArray⟩ := by
  have e0 : (PySem.Str.ofString "") = ⟨#[]⟩ := rfl
  rw [e0, join_empty]
  have : gl ((ysOf turn syms).map (·.cps)) = lines (sent turn syms) := by
    unfold ysOf gl lines
    rw [List.map_map, List.flatMap_map]
    rfl
  rw [this]
theorem ys_sum (turn : Int) (syms : List Int) : ((ysOf turn syms).map (·.length)).sum ≤ 3 * syms.length := by
  rw [← sent_len turn syms]
  have he := @sent_eol turn syms
  unfold ysOf
  rw [List.map_map]
  generalize sent turn syms = l at *
  induction l with
  | nil => exact Nat.le_refl _
  | cons r l ih =>
    have h2 := ih fun q hq => he q (.tail _ hq)
    have h1 : r.2.length ≤ 2 := by rcases he r (.head _) with e | e | e <;> rw [e] <;> decide
    have h3 : PySem.Str.length (⟨(r.1 :: r.2).toArray⟩ : PySem.Str) = 1 + r.2.length := by
      show (r.1 :: r.2).toArray.size = _
      simp; omega
    rw [List.map_cons, List.sum_cons, List.length_cons, Function.comp_apply, h3]
    omega

theorem trip_len (syms : List Int) : (syms.flatMap fun s => [sg s, 13, 10]).length = 3 * syms.length := by
  induction syms with
  | nil => rfl
  | cons s syms ih => rw [List.flatMap_cons, List.length_append, ih]; simp; omega
theorem rowsB_ge (syms : List Int) (n : Nat) : syms.length ≤ (rowsB (syms.map (rowI n))).length := by
  induction syms with
  | nil => exact Nat.zero_le _
  | cons s syms ih => simp [rowsB] at *; omega
theorem c_heard (H : Known prog w W.K W.nums) (syms : List Int) (turn : Int) (n : Nat) (h : ∀ s ∈ syms, Sy s) (hne : syms ≠ []) (hsz : syms.length ≤ 300) (hn : n ≤ 3) {dt dn : D} [hdt : IntD dt turn] [hdn : IntD dn (n : Int)] :
    Fun prog w W 2 "_law_heard" [.lst (syms.map D.sol), dt, dn] (.lst (syms.map D.sol)) := by
  refine Fun.of (names := ["symbols", "turn", "times"]) H.fHeard ?_ (hbind := bindsArgs rfl fun fd vs hv => by obtain ⟨v, u, x, rfl⟩ := vs3 hv; rfl)
  intro A L s₀ X₀ f qual code ok
  obtain ⟨a, g, t1, t2, t3, t4, t5, hta, htm, ht1, ht2, ht3, ht4, ht5⟩ := H.table
  have zl : syms.zipIdx.length = syms.length := by simp
  -- spelled
  refine Xq.consAt (Xs.assign ok (Ev.dict (l := spelt) ok rfl rfl (by decide) rfl rfl (fun q => by cases q) (by decide)) (.inr ⟨rfl, rfl, rfl⟩) (by simp) rfl) ?_
  -- signs
  refine Xq.consAt (Xs.compMap (f := D.sol) (g := fun s => .str ⟨#[sg s]⟩) (ps := syms) (pair := false) ok (CompOk.of rfl (all_cons rfl all_nil)) (It.list ok (Ev.name ok rfl)) (.var (x := "spelled") rfl rfl rfl rfl rfl .nil) (fun C s₂ X₀ => ⟨_, _, rfl, .inl rfl, by simp⟩) (fun s _ => Sub.new rfl)
    (fun C s₂ X₀ ok' s hs => Ev.item_dic (Ev.name ok' rfl) (Ev.name ok' rfl) (spelt_at (h s hs))) (by omega) (.inl rfl) (by simp) rfl) ?_
  -- text
  have sl := sent_len turn syms
  have hsum := ys_sum turn syms
  have hjoin := ys_join turn syms
  have yl : (ysOf turn syms).length = syms.length := by unfold ysOf; rw [List.length_map, sl]
  refine Xq.consAt (Xs.assign ok (d := .str ⟨(lines (sent turn syms)).toArray⟩) (Ev.to (Ev.methS PySem.F.slot_str_join PySem.F.type_str_join Ev.cstr (Evs.one ((ys_eq turn syms) ▸ Ev.compMap (f := fun q : Int × Nat => .tup [.int (q.2 : Nat), .str ⟨#[sg q.1]⟩]) (ps := syms.zipIdx) (pair := true) ok (CompOk.of rfl (all_cons rfl all_nil))
      ((enumD_map (fun s => D.str ⟨#[sg s]⟩) syms) ▸ It.enum ok (n_enumerate H rfl) (Ev.name ok rfl)) (.var (x := "turn") rfl rfl rfl rfl rfl .nil) (fun C s₂ X₀ => ⟨_, _, _, _, _, _, rfl, .inl rfl, .inl rfl, by simp, by simp⟩) (fun s _ => (Sub.new rfl).trans (Sub.new rfl))
      (fun C s₂ X₀ ok' q hq => Ev.bin (Ev.name ok' rfl) (Ev.item_lst (Ev.lis (Evs.cons Ev.cstr (Evs.cons Ev.cstr (Evs.one Ev.cstr)))) (Ev.bin (Ev.bin (Ev.name ok' rfl) (Ev.name ok' rfl) (Op2.add (hd := hdt) (he := .i))) Ev.int (Op2.mod (hd := .s) (he := .s) (by decide))) (Int.fmod_nonneg_of_pos _ (by decide)) (eolN_at _) (Int.lt_trans (Int.fmod_lt_of_pos _ (by decide)) (by decide))) (Op2.catS ?cat)) (by omega)))
      (BCall.join (by rw [show (PySem.Str.ofString "").length = 0 from rfl, Nat.mul_zero]; omega))) (by rw [hjoin])) (.inl rfl) (by simp) rfl) ?rest1
  case cat =>
    show 1 + (eolN (turn + (q.2 : Nat))).toArray.size ≤ 100000
    rcases eolN_is (turn + (q.2 : Nat)) with e | e | e <;> (rw [e]; decide)
  -- octets
  have ho : (⟨(crlfs (sent turn syms)).toArray⟩ : PySem.Str).cps.map (·.toUInt8) = (rowsB (syms.map (rowI 0))).toArray := by
    show (crlfs (sent turn syms)).toArray.map _ = _
    rw [← sent_bytes syms h, ← sent_crlf turn syms]; simp
  have cl : (crlfs (sent turn syms)).length = 3 * syms.length := by rw [sent_crlf, trip_len]
  have cb : ∀ y ∈ crlfs (sent turn syms), y < 128 := by
    rw [sent_crlf]
    intro y hy
    obtain ⟨s, hs, hy⟩ := List.mem_flatMap.mp hy
    have := (sg_ok (h s hs)).2.2
    simp at hy
    rcases hy with rfl | rfl | rfl
    · exact this
    · decide
    · decide
  have pos : 0 < syms.length := List.length_pos_iff.mpr hne
  have fe := c_eols H (sent turn syms) (fun r hr => by
    refine ⟨?_, sent_eol r hr⟩
    obtain ⟨q, hq, rfl⟩ := List.mem_map.mp hr
    have hm : q.1 ∈ syms := by
      have := List.mem_zipIdx_iff_getElem?.mp hq
      exact List.mem_of_getElem? this
    exact ⟨(sg_ok (h q.1 hm)).1, (sg_ok (h q.1 hm)).2.1⟩) (by omega)
  refine Xq.consAt (Xs.assign ok (Ev.to (Ev.methS PySem.F.slot_str_encode PySem.F.type_str_encode (Ev.fn fe ok rfl (Evs.one (Ev.name ok rfl))) (Evs.one Ev.cstr) (BCall.encode (fun y hy => cb y (by simpa using hy)) (by simp; omega) (by simp; omega))) (congrArg D.bytes ho)) (.inl rfl) (by simp) rfl) ?_
  -- for
  have rl : ∀ i, i ≤ 3 → ∀ r ∈ syms.map (rowI i), r.length ≤ 4 := fun i hi r hr => by
    obtain ⟨s, _, rfl⟩ := List.mem_map.mp hr
    have := rowI_len i s; omega
  have bl : ∀ i, i ≤ 3 → (rowsB (syms.map (rowI i))).length ≤ 1800 := fun i hi => by
    have := rowsB_len _ 4 (rl i hi)
    rw [List.length_map] at this; omega
  refine Xq.cons (P' := fun ρ' ω' => ω' = [] ∧ ρ'.lookup ("octets" : PySem.Str) = some (.bytes (rowsB (syms.map (rowI n))).toArray) ∧ ρ'.lookup ("signs" : PySem.Str) = some (.lst (syms.map fun s => .str ⟨#[sg s]⟩)) ∧ ρ'.lookup ("times" : PySem.Str) = some dn)
    (Xs.for ok (It.range (m := (n : Int)) (n := n) ok (n_range H rfl) (Ev.name ok rfl) rfl (by omega))
      (fun i ρ' ω' => i ≤ n ∧ ω' = [] ∧ ρ'.lookup ("octets" : PySem.Str) = some (.bytes (rowsB (syms.map (rowI i))).toArray) ∧ ρ'.lookup ("signs" : PySem.Str) = some (.lst (syms.map fun s => .str ⟨#[sg s]⟩)) ∧ ρ'.lookup ("times" : PySem.Str) = some dn)
      (fun i ρ' ω' inv => ?_) ⟨Nat.zero_le _, rfl, rfl, rfl, rfl⟩ (fun i z ρ' ω' hz inv => ?_) fun ρ' ω' inv => Xq.nil ?_) fun ρ' ω' inv => ?_
  · obtain ⟨_, rfl, _⟩ := inv
    exact ⟨_, _, rfl, .inl rfl, by simp⟩
  · obtain ⟨hi, rfl, h1, h2, h3⟩ := inv
    obtain ⟨hin, rfl⟩ := rangeD_get hz
    have fq := c_quote H (syms.map (rowI i)) (fun r hr => by
      obtain ⟨s, hs, rfl⟩ := List.mem_map.mp hr
      exact rowI_no i (h s hs) (.inl rfl)) (by have := bl i (by omega); omega) (by rw [List.length_map]; omega)
    have er : (syms.map (rowI i)).map dottedB = syms.map (rowI (i + 1)) := by
      rw [List.map_map]
      apply List.map_congr_left
      intro s hs
      exact rowI_dot i (h s hs)
    rw [er] at fq
    exact Xq.consAt (Xs.assign ok (Ev.fn fq ok rfl (Evs.one (Ev.name ok h1))) (.inl rfl) (by simp) rfl) (Xq.nil ⟨hin, rfl, rfl, h2, h3⟩)
  · rw [rangeD_length] at inv
    exact ⟨inv.2.1, inv.2.2.1, inv.2.2.2.1, inv.2.2.2.2⟩
  obtain ⟨rfl, h1, h2, h3⟩ := inv
  -- rows
  have r13 : ∀ r ∈ syms.map (rowI n), (13 : UInt8) ∉ r := fun r hr => by
    obtain ⟨s, hs, rfl⟩ := List.mem_map.mp hr
    exact rowI_no n (h s hs) (.inr rfl)
  have rne : syms.map (rowI n) ≠ [] := by simpa using hne
  have sp := split_rows _ r13 rne
  have oc := occ_rows _ r13 rne
  have ocl : (crs 0 (syms.map (rowI n))).length = syms.length := by rw [crs_length, List.length_map]
  have spl : (splitB (rowsB (syms.map (rowI n))).toArray #[13, 10]).length = syms.length + 1 := by rw [sp]; simp
  have bs := bl n hn
  have r3l := rowsB_ge syms n
  have cut : pickD ((splitB (rowsB (syms.map (rowI n))).toArray #[13, 10]).map D.bytes) none (some (-1)) = syms.map fun s => .bytes (rowI n s).toArray := by
    rw [sp, List.map_append, List.map_cons, List.map_nil, pick_last, List.map_map, List.map_map]; rfl
  have hsplit : BCall ⟨prog, w, W, A, 1, envD (scopeOf 74) L f qual code, s₀, X₀, true⟩ "bytes.split" [.bytes (rowsB (syms.map (rowI n))).toArray, .bytes #[13, 10]] (.lst ((splitB (rowsB (syms.map (rowI n))).toArray #[13, 10]).map D.bytes)) := by
    refine BCall.splitB (by decide) ?_ ?_ ?_ ?_
    · rw [oc]
      cases hc : crs 0 (syms.map (rowI n)) with
      | nil => rw [hc] at ocl; simp at ocl; omega
      | cons _ _ => rfl
    · rw [oc, ocl]; simp; omega
    · rw [sp]
      intro x hx
      rcases List.mem_append.mp hx with hx | hx
      · obtain ⟨r, hr, rfl⟩ := List.mem_map.mp hx
        have := rl n hn r hr
        exact Nat.le_trans (by simpa using this) (by decide : 4 ≤ sizeLine)
      · simp at hx; subst hx; exact Nat.zero_le _
    · rw [spl]; exact Nat.le_trans (by omega : syms.length + 1 ≤ 1000) (by decide)
  refine Xq.consAt (Xs.compMap (f := fun s => .bytes (rowI n s).toArray) (g := fun s => .bytes #[UInt8.ofNat (sg s)]) (ps := syms) (pair := false) ok (CompOk.of rfl (all_cons rfl all_nil))
    (cut ▸ It.list ok (Ev.slice (lo := none) (hi := some (-1)) (Ev.methB slot_bytes_split type_bytes_split (Ev.name ok h1) (Evs.one Ev.cbytes) hsplit) .none (.some (h := .s) (Ev.un Ev.int Op1.neg)) (by rw [List.length_map, spl]; omega))) (.var (x := "times") h3 rfl rfl rfl rfl .nil) (fun C s₂ X₀ => ⟨_, _, rfl, .inl rfl, by simp⟩) (fun s _ => Sub.new rfl)
    (fun C s₂ X₀ ok' s hs => ?row) (by omega) (.inl rfl) (by simp) rfl) ?rest2
  case row =>
    have hh := rowI_head n (h s hs)
    refine Ev.ifexp (q := decide (s = 256)) (Tr.to (Tr.cmp (Ev.slice_bytes (lo := none) (hi := some 1) (Ev.name ok' rfl) .none (.some (h := .s) Ev.int) (by have := rowI_len n s; simp; omega)) Ev.cbytes Op2.eqB) ?_) (fun q => ?_) fun q => ?_
    · show ((pickD (rowI n s) none (some 1)).toArray.toList == [46]) = _
      rw [hh]
      rcases h s hs with rfl | rfl | rfl | rfl | rfl <;> rfl
    · have : s = 256 := of_decide_eq_true q
      subst this
      have hc := rowI_cut hn
      refine Ev.to (Ev.slice_bytes (lo := some ((n : Nat) : Int)) (hi := none) (Ev.name ok' rfl) (.some (h := hdn) (Ev.name ok' rfl)) .none (by have := rowI_len n 256; simp; omega)) ?_
      show D.bytes (pickD (rowI n 256) (some ((n : Nat) : Int)) none).toArray = _
      rw [hc]; rfl
    · have : s ≠ 256 := of_decide_eq_false q
      refine Ev.to (Ev.name ok' rfl) ?_
      show D.bytes (rowI n s).toArray = _
      unfold rowI
      rw [if_neg this]
  -- rows != ..
  have em : (syms.map fun s => D.bytes #[UInt8.ofNat (sg s)]) = (syms.map fun s => #[UInt8.ofNat (sg s)]).map D.bytes := by rw [List.map_map]; rfl
  refine Xq.skipB (Tr.cmp (a := .lst ((syms.map fun s => #[UInt8.ofNat (sg s)]).map D.bytes)) (b := .lst ((syms.map fun s => #[UInt8.ofNat (sg s)]).map D.bytes)) (em ▸ Ev.name ok rfl) (em ▸ Ev.compMap (f := fun s => .str ⟨#[sg s]⟩) (ps := syms) (pair := false) ok (CompOk.of rfl all_nil) (It.list ok (Ev.name ok h2)) .nil (fun C s₂ X₀ => ⟨_, _, rfl, .inl rfl, by simp⟩) (fun s _ => Sub.new rfl)
    (fun C s₂ X₀ ok' s hs => ?sign) (by omega)) (Op2.neBs ok)) rfl ?rest3
  case sign =>
    refine Ev.to (Ev.methS PySem.F.slot_str_encode PySem.F.type_str_encode (Ev.name ok' rfl) (Evs.one Ev.cstr) (BCall.encode (x := ⟨#[sg s]⟩) (fun y hy => ?_) (Nat.zero_lt_one) (by show 1 ≤ 100000; decide))) ?_
    · simp at hy; subst hy; exact (sg_ok (h s hs)).2.2
    · show D.bytes (#[sg s].map (·.toUInt8)) = _
      simp
  -- kinds
  refine Xq.consAt (Xs.compMap (f := fun s => .bytes #[UInt8.ofNat (sg s)]) (g := fun s => .int (kd s)) (ps := syms) (pair := false) ok (CompOk.of rfl all_nil) (It.list ok (Ev.name ok rfl)) .nil (fun C s₂ X₀ => ⟨_, _, rfl, .inl rfl, by simp⟩) (fun s _ => Sub.new rfl)
    (fun C s₂ X₀ ok' s hs => ?kind) (by omega) (.inl rfl) (by simp) rfl) ?rest4
  case kind =>
    have hk := c_kind H (h s hs)
    have tab : ∃ t, g ⟨#[sg s]⟩ = some (.int (tokOf s) t) ∧ W.nums t = some (tokOf s) := by
      rcases h s hs with rfl | rfl | rfl | rfl | rfl
      · exact ⟨t5, ht5.1, ht5.2⟩
      · exact ⟨t4, ht4.1, ht4.2⟩
      · exact ⟨t1, ht1.1, ht1.2⟩
      · exact ⟨t2, ht2.1, ht2.2⟩
      · exact ⟨t3, ht3.1, ht3.2⟩
    obtain ⟨t, hg1, hg2⟩ := tab
    exact Ev.fn hk ok' rfl (Evs.cons (Ev.lis (Evs.cons Ev.int (Evs.cons Ev.int (Evs.cons Ev.int (Evs.cons Ev.int (Evs.one Ev.int))))) (by decide)) (Evs.one (Ev.item_tab ok' hta rfl htm (Ev.methB FB.slot_bytes_decode FB.type_bytes_decode (Ev.name ok' rfl) (Evs.one Ev.cstr) (BCall.decode (x := ⟨#[sg s]⟩) (dec_sg (h s hs)) (by show 1 ≤ 1000; decide))) hg1 hg2)))
  -- the answer
  refine Xq.ret (Ev.compMap (f := fun s => .int (kd s)) (ps := syms) (pair := false) ok (CompOk.of rfl all_nil) (It.list ok (Ev.name ok rfl)) .nil (fun C s₂ X₀ => ⟨_, _, rfl, .inl rfl, by simp⟩) (fun s _ => Sub.new rfl)
    (fun C s₂ X₀ ok' s hs => ?last) (by omega)) rfl
  refine Ev.ifexp (Tr.cmp (Ev.name ok' rfl) Ev.int (Op2.lt (hd := .i) (he := .s))) (fun q => ?_) fun q => ?_
  · refine Ev.to (Ev.bin Ev.int (Ev.name ok' rfl) (Op2.add (hd := .s) (he := .i))) ?_
    rcases h s hs with rfl | rfl | rfl | rfl | rfl
    · exact absurd q (by decide)
    · exact absurd q (by decide)
    · rfl
    · rfl
    · rfl
  · refine Ev.to (Ev.bin Ev.int (Ev.name ok' rfl) (Op2.sub (hd := .s) (he := .i))) ?_
    rcases h s hs with rfl | rfl | rfl | rfl | rfl
    · rfl
    · rfl
    · exact absurd q (by decide)
    · exact absurd q (by decide)
    · exact absurd q (by decide)
end
end Mine
end

section
open PySem PySem.W PyProof.Rows PySem.Calls PySem.SeqAt
set_option maxRecDepth 100000
namespace Mine

/-! ## Drawn -/
theorem pick_take {α : Type} (l : List α) (k : Nat) (h : k ≤ l.length) : pickD l none (some (k : Int)) = l.take k := by
  unfold pickD
  have : clipAt l.length (k : Int) = k := by
    unfold clipAt
    rw [if_neg (by omega)]
    omega
  show (l.drop 0).take (clipAt _ _ - 0) = _
  rw [this]; rfl
theorem pick_drop {α : Type} (l : List α) (k : Nat) (h : k ≤ l.length) : pickD l (some (k : Int)) none = l.drop k := by
  unfold pickD
  have : clipAt l.length (k : Int) = k := by
    unfold clipAt
    rw [if_neg (by omega)]
    omega
  show (l.drop (clipAt _ _)).take (l.length - clipAt _ _) = _
  rw [this]
  exact List.take_of_length_le (by simp)
noncomputable def encL (t : T) : D := .lst (t.ser.map D.sol)
namespace T
noncomputable def lf (a k : Nat) : T := if a / 2 ^ (4 + k) % 2 = 1 then star (leaf (255 - ((a / 2 ^ k % 2 : Nat) : Int))) else leaf (255 - ((a / 2 ^ k % 2 : Nat) : Int))
noncomputable def both (cell : Nat) (x y : T) : T := if cell / 2 % 2 = 1 then star (if cell % 2 = 0 then cat x y else alt x y) else (if cell % 2 = 0 then cat x y else alt x y)
noncomputable def joinStep (ps : List T) (cell : Nat) : List T :=
  ps.take (cell / 4 % (ps.length - 1)) ++ both cell (ps.getD (cell / 4 % (ps.length - 1)) (leaf 0)) (ps.getD (cell / 4 % (ps.length - 1) + 1) (leaf 0)) :: ps.drop (cell / 4 % (ps.length - 1) + 2)
noncomputable def leaves (a : Nat) : List T := [lf a 0, lf a 1, lf a 2, lf a 3]
noncomputable def steps (a : Nat) (cs : List Nat) : List T := cs.foldl joinStep (leaves a)
theorem at_lt {ps : List T} (c : Nat) (h : 2 ≤ ps.length) : c / 4 % (ps.length - 1) + 1 < ps.length := by
  have := Nat.mod_lt (c / 4) (show 0 < ps.length - 1 by omega)
  omega
theorem joinStep_length {ps : List T} (c : Nat) (h : 2 ≤ ps.length) : (joinStep ps c).length = ps.length - 1 := by
  have := at_lt c h
  unfold joinStep
  rw [List.length_append, List.length_cons, List.length_take, List.length_drop]
  omega
theorem split_at {ps : List T} {k : Nat} (h : k + 1 < ps.length) : ps = ps.take k ++ ps.getD k (leaf 0) :: ps.getD (k + 1) (leaf 0) :: ps.drop (k + 2) := by
  have e1 : ps.getD k (leaf 0) = ps[k] := by rw [List.getD_eq_getElem?_getD, List.getElem?_eq_getElem (by omega)]; rfl
  have e2 : ps.getD (k + 1) (leaf 0) = ps[k + 1] := by rw [List.getD_eq_getElem?_getD, List.getElem?_eq_getElem h]; rfl
  rw [e1, e2]
  have h1 := List.drop_eq_getElem_cons (show k < ps.length by omega)
  have h2 := List.drop_eq_getElem_cons h
  rw [h2] at h1
  rw [← h1, List.take_append_drop]
theorem getD_mem {ps : List T} {k : Nat} (h : k < ps.length) : ps.getD k (leaf 0) ∈ ps := by
  rw [List.getD_eq_getElem?_getD, List.getElem?_eq_getElem h]; exact List.getElem_mem _
theorem joinStep_all {P Q : T → Prop} {ps : List T} {c : Nat} (h2 : 2 ≤ ps.length) (h : ∀ p ∈ ps, P p) (hb : ∀ x y, P x → P y → Q (both c x y)) (hpq : ∀ p, P p → Q p) : ∀ p ∈ joinStep ps c, Q p := fun p hp => by
  have hk := at_lt c h2
  unfold joinStep at hp
  rcases List.mem_append.mp hp with hp | hp
  · exact hpq p (h p (List.mem_of_mem_take hp))
  · rcases List.mem_cons.mp hp with rfl | hp
    · exact hb _ _ (h _ (getD_mem (by omega))) (h _ (getD_mem hk))
    · exact hpq p (h p (List.mem_of_mem_drop hp))
theorem both_n (c : Nat) (x y : T) : (both c x y).n = x.n + y.n := by unfold both; split <;> split <;> rfl
theorem joinStep_n {ps : List T} (c : Nat) (h2 : 2 ≤ ps.length) : ((joinStep ps c).map n).sum = (ps.map n).sum := by
  have hk := at_lt c h2
  have hs := split_at hk
  unfold joinStep
  generalize c / 4 % (ps.length - 1) = k at *
  conv => rhs; rw [hs]
  simp only [List.map_append, List.map_cons, List.sum_append, List.sum_cons, both_n]
  omega
theorem both_ser (c : Nat) (x y : T) : (both c x y).ser.length ≤ x.ser.length + y.ser.length + 2 := by
  unfold both; split <;> split <;> simp [ser] <;> omega
end T
theorem lf_ser (a k : Nat) : (T.lf a k).ser.length ≤ 2 := by unfold T.lf; split <;> simp [T.ser]
theorem leaves_ser (a : Nat) : ∀ p ∈ T.leaves a, p.ser.length + 2 ≤ 2 ^ (0 + 2) := fun p hp => by
  have h0 := lf_ser a 0
  have h1 := lf_ser a 1
  have h2 := lf_ser a 2
  have h3 := lf_ser a 3
  simp [T.leaves] at hp
  rcases hp with rfl | rfl | rfl | rfl <;> omega
theorem fdivN (a b : Nat) (hb : b ≠ 0) : (a : Int).fdiv (b : Int) = ((a / b : Nat) : Int) := by rw [Int.fdiv_eq_ediv_of_nonneg _ (by omega)]; rfl
theorem fmodN (a b : Nat) : (a : Int).fmod (b : Int) = ((a % b : Nat) : Int) := by rw [Int.fmod_eq_emod_of_nonneg _ (by omega)]; rfl
theorem powN (k : Nat) : (2 : Int) ^ ((k : Int)).toNat = ((2 ^ k : Nat) : Int) := by rw [Int.toNat_natCast, Int.natCast_pow]; rfl

section
variable {c : Cx} {ρ : Vars} {ω : Owns}
theorem Ev.fdivN {l r : Expr} {pos : Pos} {a b : Nat} {da db : D} [ha : IntD da (a : Int)] [hb : IntD db (b : Int)] (h1 : Ev c ρ ω l da) (h2 : Ev c ρ ω r db) (h0 : b ≠ 0) (hs : b < 1000000) : Ev c ρ ω (.BinOp l .FloorDiv r pos) (solN (a / b)) :=
  Ev.to (Ev.bin h1 h2 (Op2.fdiv (hd := ha) (he := hb) (by omega) (PyProof.noPylong_small (by simp; omega)))) (by rw [Mine.fdivN a b h0]; rfl)
theorem Ev.modN {l r : Expr} {pos : Pos} {a b : Nat} {da db : D} [ha : IntD da (a : Int)] [hb : IntD db (b : Int)] (h1 : Ev c ρ ω l da) (h2 : Ev c ρ ω r db) (h0 : b ≠ 0) : Ev c ρ ω (.BinOp l .Mod r pos) (solN (a % b)) :=
  Ev.to (Ev.bin h1 h2 (Op2.mod (hd := ha) (he := hb) (by omega))) (by rw [fmodN]; rfl)
theorem Ev.addN {l r : Expr} {pos : Pos} {a b : Nat} {da db : D} [ha : IntD da (a : Int)] [hb : IntD db (b : Int)] (h1 : Ev c ρ ω l da) (h2 : Ev c ρ ω r db) : Ev c ρ ω (.BinOp l .Add r pos) (solN (a + b)) :=
  Ev.to (Ev.bin h1 h2 (Op2.add (hd := ha) (he := hb))) (by rw [← Int.natCast_add]; rfl)
theorem Ev.pow2 {r : Expr} {k : Nat} {p pos : Pos} {b : Nat} {db : D} [hb : IntD db (b : Int)] (h2 : Ev c ρ ω r db) (hs : b ≤ 1000) : Ev c ρ ω (.BinOp (.Constant (.int 2) k p) .Pow r pos) (solN (2 ^ b)) :=
  Ev.to (Ev.bin Ev.int h2 (Op2.pow (hd := .s) (he := hb) (by omega) (by omega) (by decide))) (by rw [powN]; rfl)
theorem Ev.numN {n k : Nat} {p : Pos} : Ev c ρ ω (.Constant (.int (n : Int)) k p) (solN n) := Ev.int
theorem Truth.solN {n : Nat} : Truth c (Mine.solN n) (n != 0) := by
  have := Truth.int (c := c) (d := Mine.solN n) (a := (n : Int)) (hd := .s)
  have e : (((n : Nat) : Int) != 0) = (n != 0) := by
    rw [Bool.eq_iff_iff]; simp
  rw [e] at this
  exact this
end

section
variable {prog : Program} {w : World} {W : Wld}
theorem c_drawn (H : Known prog w W.K W.nums) (a b c d : Nat) : Fun prog w W 1 "_law_drawn" [.lst [solN a, solN b, solN c, solN d]] (((T.steps a [b, c, d]).map encL).headD .none) := by
  refine Fun.of (names := ["cells"]) H.fDrawn ?_ (hbind := bindsArgs rfl fun fd vs hv => by obtain ⟨v, rfl⟩ := vs1 hv; rfl)
  intro A L s₀ X₀ f qual code ok
  refine Xq.new ok Evs.nil (.inl rfl) (by simp) rfl (by decide) fun l => ?_
  refine Xq.cons (P' := fun ρ' ω' => ω' = [(("parts" : PySem.Str), l, (T.leaves a).map encL)] ∧ ρ'.lookup ("cells" : PySem.Str) = some (.lst [solN a, solN b, solN c, solN d])) (Xs.for ok (It.range (m := (4 : Int)) (n := 4) ok (n_range H rfl) Ev.int rfl (by decide))
    (fun i ρ' ω' => ω' = [(("parts" : PySem.Str), l, ((T.leaves a).take i).map encL)] ∧ ρ'.lookup ("cells" : PySem.Str) = some (.lst [solN a, solN b, solN c, solN d]))
    (fun i ρ' ω' inv => ?_) ⟨rfl, rfl⟩ (fun i z ρ' ω' hz inv => ?_) fun ρ' ω' inv => Xq.nil ?_) fun ρ' ω' inv => ?_
  · obtain ⟨rfl, _⟩ := inv
    exact ⟨_, _, rfl, .inl rfl, by show _ ∉ [("parts" : PySem.Str)]; decide⟩
  · obtain ⟨rfl, hc⟩ := inv
    obtain ⟨hi, rfl⟩ := rangeD_get hz
    have p1 : 2 ^ i ≤ 2 ^ 3 := Nat.pow_le_pow_right (by decide) (by omega)
    have p2 : 2 ^ (4 + i) ≤ 2 ^ 7 := Nat.pow_le_pow_right (by decide) (by omega)
    have z1 : 2 ^ i ≠ 0 := Nat.ne_of_gt (Nat.two_pow_pos _)
    have z2 : 2 ^ (4 + i) ≠ 0 := Nat.ne_of_gt (Nat.two_pow_pos _)
    refine Xq.consAt (Xs.assign ok (Ev.lis (Evs.one (Ev.to (Ev.bin Ev.int (Ev.modN (b := 2) (ha := .s) (hb := .s) (Ev.fdivN (a := a) (b := 2 ^ i) (ha := .s) (hb := .s) (Ev.item_lst (ds := [solN a, solN b, solN c, solN d]) (i := 0) (hdi := .s) (Ev.name ok ?c1) Ev.int (by decide) rfl (by decide)) (Ev.pow2 (hb := .i) (Ev.name ok rfl) (by omega)) z1 (by omega)) Ev.int (by decide)) (Op2.sub (hd := .s) (he := .s))) rfl))) (.inl rfl) (by show _ ∉ [("parts" : PySem.Str)]; decide) rfl) ?_
    case c1 => exact hc
    refine Xq.cons (Xs.append (ω₁ := []) (ω₂ := []) (d := encL (T.lf a i)) ok (EvX.pure (Ev.ifexp (q := decide (a / 2 ^ (4 + i) % 2 = 1)) (Tr.to (Tr.of (Ev.modN (b := 2) (ha := .s) (hb := .s) (Ev.fdivN (a := a) (b := 2 ^ (4 + i)) (ha := .s) (hb := .s) (Ev.item_lst (ds := [solN a, solN b, solN c, solN d]) (i := 0) (hdi := .s) (Ev.name ok ?c2) Ev.int (by decide) rfl (by decide)) (Ev.pow2 (b := 4 + i) (hb := .s) (Ev.addN (a := 4) (ha := .s) (hb := .i) Ev.int (Ev.name ok rfl)) (by omega)) z2 (by omega)) Ev.int (by decide)) Truth.solN) ?tr) (fun q => ?yes) fun q => ?no)) ?len) fun ρ' ω' q => Xq.nil ?fin
    case c2 => exact hc
    case tr =>
      have := Nat.mod_two_eq_zero_or_one (a / 2 ^ (4 + i))
      rcases this with e | e <;> rw [e] <;> rfl
    case yes =>
      have q := of_decide_eq_true q
      unfold T.lf
      rw [if_pos q]
      exact Ev.bin (Ev.lis (Evs.one Ev.int)) (Ev.name ok rfl) (Op2.cat (by simp))
    case no =>
      have q := of_decide_eq_false q
      unfold T.lf
      rw [if_neg q]
      exact Ev.name ok rfl
    case len => rw [List.length_map, List.length_take]; omega
    case fin =>
      obtain ⟨rfl, rfl⟩ := q
      refine ⟨?_, hc⟩
      match i, hi with
      | 0, _ => rfl
      | 1, _ => rfl
      | 2, _ => rfl
      | 3, _ => rfl
  · rw [rangeD_length] at inv
    exact inv
  obtain ⟨rfl, hc⟩ := inv
  refine Xq.freeze ?_
  refine Xq.cons (P' := fun ρ' ω' => ω' = [] ∧ ρ'.lookup ("parts" : PySem.Str) = some (.lst ((T.steps a [b, c, d]).map encL))) (Xs.for (pair := false) (its := [solN b, solN c, solN d]) ok (It.list ok (Ev.slice (ds := [solN a, solN b, solN c, solN d]) (lo := some 1) (hi := none) (Ev.name ok ?c3) (.some (h := .s) Ev.int) .none (by simp)))
    (fun i ρ' ω' => ω' = [] ∧ (T.steps a ([b, c, d].take i)).length + i = 4 ∧ (∀ p ∈ T.steps a ([b, c, d].take i), p.ser.length + 2 ≤ 2 ^ (i + 2)) ∧ ρ'.lookup ("parts" : PySem.Str) = some (.lst ((T.steps a ([b, c, d].take i)).map encL)))
    (fun i ρ' ω' inv => ?_) ⟨rfl, rfl, leaves_ser a, rfl⟩ (fun i z ρ' ω' hz inv => ?_) fun ρ' ω' inv => Xq.nil ⟨inv.1, inv.2.2.2⟩) fun ρ' ω' inv => ?_
  case c3 => exact hc
  · obtain ⟨rfl, _⟩ := inv
    exact ⟨_, _, rfl, .inl rfl, by simp⟩
  · obtain ⟨rfl, hl, hse, hp⟩ := inv
    have hz' : ([b, c, d].map solN)[i]? = some z := hz
    rw [List.getElem?_map] at hz'
    cases hx : [b, c, d][i]? with
    | none => rw [hx] at hz'; cases hz'
    | some x =>
      rw [hx] at hz'; simp at hz'; subst hz'
      have hi : i < 3 := (List.getElem?_eq_some_iff.mp hx).1
      have es : T.steps a ([b, c, d].take (i + 1)) = T.joinStep (T.steps a ([b, c, d].take i)) x := by
        unfold T.steps
        rw [List.take_add_one, hx, List.foldl_append]; rfl
      rw [es]
      generalize T.steps a ([b, c, d].take i) = ps at *
      have h2 : 2 ≤ ps.length := by omega
      have hk := T.at_lt x h2
      have hjl := T.joinStep_length x h2
      rw [hjl]
      generalize hkk : x / 4 % (ps.length - 1) = k at *
      have g0 : (ps.map encL)[k]? = some (encL (ps.getD k (.leaf 0))) := by
        rw [List.getElem?_map, List.getD_eq_getElem?_getD, List.getElem?_eq_getElem (by omega)]; rfl
      have g1 : (ps.map encL)[k + 1]? = some (encL (ps.getD (k + 1) (.leaf 0))) := by
        rw [List.getElem?_map, List.getD_eq_getElem?_getD, List.getElem?_eq_getElem (by omega)]; rfl
      have jk : T.joinStep ps x = ps.take k ++ T.both x (ps.getD k (.leaf 0)) (ps.getD (k + 1) (.leaf 0)) :: ps.drop (k + 2) := by
        unfold T.joinStep; rw [hkk]
      rw [jk]
      have hx4 : (2 : Nat) ^ (i + 2) ≤ 2 ^ 4 := Nat.pow_le_pow_right (by decide) (by omega)
      have hnew : ∀ p ∈ T.joinStep ps x, p.ser.length + 2 ≤ 2 ^ (i + 1 + 2) := T.joinStep_all (P := fun p => p.ser.length + 2 ≤ 2 ^ (i + 2)) h2 hse (fun y z hy hz => by
        have := T.both_ser x y z
        have e : 2 ^ (i + 1 + 2) = 2 * 2 ^ (i + 2) := by rw [show i + 1 + 2 = (i + 2) + 1 by omega, Nat.pow_succ]; omega
        omega) fun p hp => Nat.le_trans hp (Nat.pow_le_pow_right (by decide) (by omega))
      rw [jk] at hnew
      have lu : (ps.getD k (.leaf 0)).ser.length ≤ 14 := by
        have : ps.getD k (.leaf 0) ∈ ps := by rw [List.getD_eq_getElem?_getD, List.getElem?_eq_getElem (by omega)]; exact List.getElem_mem _
        have := hse _ this; omega
      have lv : (ps.getD (k + 1) (.leaf 0)).ser.length ≤ 14 := by
        have : ps.getD (k + 1) (.leaf 0) ∈ ps := by rw [List.getD_eq_getElem?_getD, List.getElem?_eq_getElem (by omega)]; exact List.getElem_mem _
        have := hse _ this; omega
      generalize ps.getD k (.leaf 0) = u at *
      generalize ps.getD (k + 1) (.leaf 0) = v at *
      have ml : (ps.map encL).length = ps.length := List.length_map ..
      have lim : ps.length ≤ 4 := by omega
      -- k
      refine Xq.consAt (Xs.assign ok (d := solN k) (Ev.to (Ev.modN (a := x / 4) (b := ps.length - 1) (ha := .s) (hb := .s) (Ev.fdivN (a := x) (b := 4) (ha := .s) (hb := .s) (Ev.name ok rfl) Ev.int (by decide) (by decide)) (Ev.to (Ev.bin (Ev.len_lst ok (n_len H rfl) (Ev.name ok ?d1) (by rw [ml]; omega)) Ev.int (Op2.sub (hd := .i) (he := .s))) ?d2) (by omega)) (by rw [hkk])) (.inl rfl) (by simp) rfl) ?r1
      case d1 => exact hp
      case d2 =>
        rw [ml]
        have : ((ps.length : Nat) : Int) - 1 = ((ps.length - 1 : Nat) : Int) := by omega
        rw [this]
      -- both
      refine Xq.consAt (Xs.assign ok (d := encL (if x % 2 = 0 then .cat u v else .alt u v)) (Ev.to (Ev.bin (Ev.bin (Ev.lis (Evs.one (Ev.addN (a := 256) (b := x % 2) (ha := .s) (hb := .s) Ev.int (Ev.modN (a := x) (b := 2) (ha := .s) (hb := .s) (Ev.name ok rfl) Ev.int (by decide))))) (Ev.item_lst (ds := ps.map encL) (i := (k : Int)) (hdi := .s) (Ev.name ok ?d3) (Ev.name ok rfl) (by omega) g0 (by omega)) (Op2.cat ?d4)) (Ev.item_lst (ds := ps.map encL) (i := ((k + 1 : Nat) : Int)) (hdi := .s) (Ev.name ok ?d5) (Ev.addN (a := k) (b := 1) (ha := .s) (hb := .s) (Ev.name ok rfl) Ev.int) (by omega) g1 (by omega)) (Op2.cat ?d6)) ?d7) (.inl rfl) (by simp) rfl) ?r2
      case d3 => exact hp
      case d5 => exact hp
      case d4 => simp; omega
      case d6 => simp; omega
      case d7 =>
        have := Nat.mod_two_eq_zero_or_one x
        rcases this with e | e <;> rw [e] <;> simp [encL, T.ser, solN]
      -- parts
      refine Xq.consAt (Xs.assign ok (d := .lst ((ps.take k ++ T.both x u v :: ps.drop (k + 2)).map encL)) (Ev.to (Ev.bin (Ev.bin (Ev.slice (ds := ps.map encL) (lo := none) (hi := some (k : Int)) (Ev.name ok ?e1) .none (.some (h := .s) (Ev.name ok rfl)) (by rw [ml]; omega)) (Ev.lis (Evs.one (Ev.ifexp (q := decide (x / 2 % 2 = 1)) (d := encL (T.both x u v)) (Tr.to (Tr.of (Ev.modN (a := x / 2) (b := 2) (ha := .s) (hb := .s) (Ev.fdivN (a := x) (b := 2) (ha := .s) (hb := .s) (Ev.name ok rfl) Ev.int (by decide) (by decide)) Ev.int (by decide)) Truth.solN) ?e2) (fun q => ?e3) fun q => ?e4))) (Op2.cat ?e5))
        (Ev.slice (ds := ps.map encL) (lo := some ((k + 2 : Nat) : Int)) (hi := none) (Ev.name ok ?e6) (.some (h := .s) (Ev.addN (a := k) (b := 2) (ha := .s) (hb := .s) (Ev.name ok rfl) Ev.int)) .none (by rw [ml]; omega)) (Op2.cat ?e7)) ?e8) (.inl rfl) (by simp) rfl) (Xq.nil ⟨rfl, ?f1, hnew, rfl⟩)
      case e1 => exact hp
      case e6 => exact hp
      case e2 =>
        have := Nat.mod_two_eq_zero_or_one (x / 2)
        rcases this with e | e <;> rw [e] <;> rfl
      case e3 =>
        have q := of_decide_eq_true q
        unfold T.both
        rw [if_pos q]
        refine Ev.to (Ev.bin (Ev.lis (Evs.one Ev.int)) (Ev.name ok rfl) (Op2.cat ?_)) ?_
        · split <;> simp [T.ser] <;> omega
        · simp [encL, T.ser]
      case e4 =>
        have q := of_decide_eq_false q
        unfold T.both
        rw [if_neg q]
        exact Ev.name ok rfl
      case e5 =>
        rw [pick_take _ _ (by rw [ml]; omega)]
        simp; omega
      case e7 =>
        rw [pick_take _ _ (by rw [ml]; omega), pick_drop _ _ (by rw [ml]; omega)]
        simp; omega
      case e8 =>
        rw [pick_take _ _ (by rw [ml]; omega), pick_drop _ _ (by rw [ml]; omega)]
        simp [List.map_take, List.map_drop]
      case f1 =>
        have := T.joinStep_length x h2
        rw [jk] at this
        omega
  · obtain ⟨rfl, hp⟩ := inv
    have hl : (T.steps a [b, c, d]).length = 1 := by
      unfold T.steps
      simp only [List.foldl_cons, List.foldl_nil]
      have l0 : (T.leaves a).length = 4 := rfl
      have l1 := T.joinStep_length (ps := T.leaves a) b (by omega)
      have l2 := T.joinStep_length (ps := T.joinStep (T.leaves a) b) c (by omega)
      have l3 := T.joinStep_length (ps := T.joinStep (T.joinStep (T.leaves a) b) c) d (by omega)
      omega
    obtain ⟨t, ht⟩ := List.length_eq_one_iff.mp hl
    rw [ht] at hp ⊢
    exact Xq.ret (Ev.item_lst (ds := [encL t]) (i := 0) (hdi := .s) (Ev.name ok hp) Ev.int (by decide) rfl (by decide)) rfl
end
end Mine
end

section
open PySem PySem.W PyProof.Rows PySem.Calls PySem.SeqAt
set_option maxRecDepth 100000
namespace Mine
namespace T

/-! ## What is left, and what stands behind -/
/-- no letter is the empty word -/
noncomputable def reg : T → Prop
  | leaf l => l ≠ 0
  | star a => a.reg
  | alt a b => a.reg ∧ b.reg
  | cat a b => a.reg ∧ b.reg
theorem isEps_iff {r : T} (h : r.isEps = true) : r = leaf 0 := by
  cases r with
  | leaf l => simp [isEps] at h; rw [h]
  | star => cases h
  | alt => cases h
  | cat => cases h
noncomputable def glue (e : T) (q : Int × T) : Int × T := (q.1, if q.2.isEps then e else cat q.2 e)
theorem put_eq (ps : List (Int × T)) (e : T) : put ps e = ps.map (glue e) := rfl
theorem mem_alt {a b : T} {q : Int × T} : q ∈ (alt a b).left ↔ q ∈ a.left ∨ q ∈ b.left := by
  rw [left, List.mem_append, List.mem_filter]
  by_cases h : q ∈ a.left <;> simp [h]
theorem mem_cat {a b : T} {q : Int × T} : q ∈ (cat a b).left ↔ q ∈ put a.left b ∨ (a.empty = true ∧ q ∈ b.left) := by
  rw [left]
  by_cases h : a.empty = true
  · rw [if_pos h, List.mem_append, List.mem_filter]
    by_cases h2 : q ∈ put a.left b <;> simp [h, h2]
  · rw [if_neg h]; simp [h]

/-- what the sets say of an expression whose places begin at p -/
structure Sound (e : T) (p : Nat) : Prop where
  fi_in : ∀ i, (e.spots p).first.testBit i = true → p ≤ i ∧ i < p + e.n
  la_in : ∀ i, (e.spots p).last.testBit i = true → p ≤ i ∧ i < p + e.n
  fo_in : ∀ (k m : Nat), (e.spots p).follow[k]? = some m → ∀ i, m.testBit i = true → p ≤ i ∧ i < p + e.n
  null : e.empty = (e.spots p).null
  left : ∀ q, q ∈ e.left ↔ ∃ k, (e.spots p).first.testBit (p + k) = true ∧ e.behind[k]? = some q
  rest : ∀ (k : Nat) (q : Int × T) (m : Nat), e.behind[k]? = some q → (e.spots p).follow[k]? = some m → (∀ r, r ∈ q.2.left ↔ ∃ j, m.testBit (p + j) = true ∧ e.behind[j]? = some r) ∧ q.2.empty = (e.spots p).last.testBit (p + k)

theorem led_get {ms : List Nat} {last first p k m : Nat} (h : (led ms last first p)[k]? = some m) : ∃ m', ms[k]? = some m' ∧ m = if last.testBit (p + k) then m' ||| first else m' := by
  unfold led at h
  rw [List.getElem?_map, List.getElem?_zipIdx] at h
  cases hm : ms[k]? with
  | none => rw [hm] at h; cases h
  | some m' => rw [hm] at h; simp at h; exact ⟨m', rfl, h.symm⟩
theorem led_bit {m' first i : Nat} {b : Bool} : (if b = true then m' ||| first else m').testBit i = (m'.testBit i || (b && first.testBit i)) := by
  cases b with
  | true => rw [if_pos rfl, Nat.testBit_or, Bool.true_and]
  | false => rw [if_neg Bool.false_ne_true, Bool.false_and, Bool.or_false]

theorem map_get {ps : List (Int × T)} {e : T} {k : Nat} {q : Int × T} : (put ps e)[k]? = some q ↔ ∃ q', ps[k]? = some q' ∧ glue e q' = q := by
  rw [put_eq, List.getElem?_map]
  cases ps[k]? <;> simp

/-- the expression behind a place, with a tail -/
theorem glue_left {e : T} {q : Int × T} {r : Int × T} : r ∈ (glue e q).2.left ↔ r ∈ put q.2.left e ∨ (q.2.empty = true ∧ r ∈ e.left) := by
  unfold glue
  by_cases h : q.2.isEps = true
  · rw [if_pos h, isEps_iff h]
    have h1 : (T.leaf 0).left = [] := rfl
    have h2 : (T.leaf 0).empty = true := rfl
    rw [h1, h2]
    simp [put]
  · rw [if_neg h]; exact mem_cat
theorem glue_empty {e : T} {q : Int × T} : (glue e q).2.empty = (q.2.empty && e.empty) := by
  unfold glue
  by_cases h : q.2.isEps = true
  · rw [if_pos h, isEps_iff h]
    have h2 : (T.leaf 0).empty = true := rfl
    rw [h2, Bool.true_and]
  · rw [if_neg h]; rfl

theorem sound : ∀ (e : T) (p : Nat), e.reg → Sound e p
  | leaf l, p, h => by
    have h0 : l ≠ 0 := h
    have b1 : ∀ i, (2 ^ p).testBit i = true → i = p := fun i hi => by
      rw [Nat.testBit_two_pow] at hi; exact (of_decide_eq_true hi).symm
    refine ⟨fun i hi => ?_, fun i hi => ?_, fun k m hm i hi => ?_, ?_, fun q => ?_, fun k q m hq hm => ?_⟩
    · have := b1 i hi; subst this; exact ⟨Nat.le_refl _, Nat.lt_succ_self _⟩
    · have := b1 i hi; subst this; exact ⟨Nat.le_refl _, Nat.lt_succ_self _⟩
    · have : m = 0 := by
        cases k with
        | zero => exact (Option.some.inj hm).symm
        | succ k => cases hm
      subst this; rw [Nat.zero_testBit] at hi; cases hi
    · exact beq_eq_false_iff_ne.mpr h0
    · rw [T.left, if_neg h0]
      constructor
      · intro hq
        refine ⟨0, ?_, ?_⟩
        · show (2 ^ p).testBit (p + 0) = true
          rw [Nat.add_zero, Nat.testBit_two_pow_self]
        · simp at hq; rw [hq]; rfl
      · rintro ⟨k, hk, hq⟩
        have := b1 _ hk
        have : k = 0 := by omega
        subst this
        exact List.mem_of_getElem? hq
    · cases k with
      | succ k => cases hq
      | zero =>
        have hq' : q = (l, leaf 0) := (Option.some.inj hq).symm
        have hm' : m = 0 := (Option.some.inj hm).symm
        subst hq'; subst hm'
        refine ⟨fun r => ?_, ?_⟩
        · have : (leaf 0).left = [] := rfl
          rw [this]
          simp
        · show true = (2 ^ p).testBit (p + 0)
          rw [Nat.add_zero, Nat.testBit_two_pow_self]
  | star a, p, h => by
    have ih := sound a p h
    have leftS : ∀ q, q ∈ (star a).left ↔ ∃ k, (a.spots p).first.testBit (p + k) = true ∧ (star a).behind[k]? = some q := fun q => by
      rw [T.left, T.behind, put_eq, List.mem_map]
      constructor
      · rintro ⟨q', hq', rfl⟩
        obtain ⟨k, hk, hb⟩ := (ih.left q').mp hq'
        exact ⟨k, hk, map_get.mpr ⟨q', hb, rfl⟩⟩
      · rintro ⟨k, hk, hb⟩
        obtain ⟨q', hb', rfl⟩ := map_get.mp hb
        exact ⟨q', (ih.left q').mpr ⟨k, hk, hb'⟩, rfl⟩
    refine ⟨ih.fi_in, ih.la_in, fun k m hm i hi => ?_, rfl, leftS, fun k q m hq hm => ?_⟩
    · obtain ⟨m', hm', rfl⟩ := led_get hm
      rw [led_bit, Bool.or_eq_true, Bool.and_eq_true] at hi
      rcases hi with hi | hi
      · exact ih.fo_in k m' hm' i hi
      · exact ih.fi_in i hi.2
    · obtain ⟨q', hb, rfl⟩ := map_get.mp hq
      obtain ⟨m', hm', rfl⟩ := led_get hm
      obtain ⟨i1, i2⟩ := ih.rest k q' m' hb hm'
      refine ⟨fun r => ?_, ?_⟩
      · rw [glue_left, leftS, put_eq, List.mem_map, i2]
        constructor
        · rintro (⟨r', hr', rfl⟩ | ⟨hl, j, hj, hb'⟩)
          · obtain ⟨j, hj, hb'⟩ := (i1 r').mp hr'
            exact ⟨j, by rw [led_bit, hj, Bool.true_or], map_get.mpr ⟨r', hb', rfl⟩⟩
          · exact ⟨j, by rw [led_bit, hl, hj, Bool.true_and, Bool.or_true], hb'⟩
        · rintro ⟨j, hj, hb'⟩
          rw [led_bit, Bool.or_eq_true, Bool.and_eq_true] at hj
          rcases hj with hj | ⟨hl, hj⟩
          · obtain ⟨r', hb'', rfl⟩ := map_get.mp hb'
            exact .inl ⟨r', (i1 r').mpr ⟨j, hj, hb''⟩, rfl⟩
          · exact .inr ⟨hl, j, hj, hb'⟩
      · rw [glue_empty, i2]; exact Bool.and_true _
  | alt a b, p, h => by
    have ia := sound a p h.1
    have la := spots_length a p
    have ib := sound b (p + (a.spots p).follow.length) h.2
    have hB : ∀ k, (alt a b).behind[k]? = if k < a.n then a.behind[k]? else b.behind[k - a.n]? := fun k => by
      rw [T.behind]
      by_cases hk : k < a.n
      · rw [if_pos hk, List.getElem?_append_left (by rw [behind_length]; exact hk)]
      · rw [if_neg hk, List.getElem?_append_right (by rw [behind_length]; omega), behind_length]
    have hF : ∀ k, ((alt a b).spots p).follow[k]? = if k < a.n then (a.spots p).follow[k]? else (b.spots (p + (a.spots p).follow.length)).follow[k - a.n]? := fun k => by
      show ((a.spots p).follow ++ (b.spots (p + (a.spots p).follow.length)).follow)[k]? = _
      by_cases hk : k < a.n
      · rw [if_pos hk, List.getElem?_append_left (by rw [la]; exact hk)]
      · rw [if_neg hk, List.getElem?_append_right (by rw [la]; omega), la]
    have e1 : ((alt a b).spots p).first = (a.spots p).first ||| (b.spots (p + (a.spots p).follow.length)).first := rfl
    have e2 : ((alt a b).spots p).last = (a.spots p).last ||| (b.spots (p + (a.spots p).follow.length)).last := rfl
    have e3 : ((alt a b).spots p).null = ((a.spots p).null || (b.spots (p + (a.spots p).follow.length)).null) := rfl
    have en : (alt a b).n = a.n + b.n := rfl
    rw [la] at ib hF e1 e2 e3
    have left' : ∀ q, q ∈ (alt a b).left ↔ ∃ k, ((alt a b).spots p).first.testBit (p + k) = true ∧ (alt a b).behind[k]? = some q := fun q => by
      rw [mem_alt, ia.left, ib.left]
      constructor
      · rintro (⟨k, hk, hb⟩ | ⟨k, hk, hb⟩)
        · have hi := ia.fi_in _ hk
          exact ⟨k, by rw [e1, Nat.testBit_or, hk, Bool.true_or], by rw [hB, if_pos (by omega)]; exact hb⟩
        · refine ⟨a.n + k, by rw [e1, Nat.testBit_or, ← Nat.add_assoc, hk, Bool.or_true], ?_⟩
          rw [hB, if_neg (by omega), Nat.add_sub_cancel_left]; exact hb
      · rintro ⟨k, hk, hb⟩
        rw [e1, Nat.testBit_or, Bool.or_eq_true] at hk
        rw [hB] at hb
        rcases hk with hk | hk
        · have hi := ia.fi_in _ hk
          rw [if_pos (by omega)] at hb
          exact .inl ⟨k, hk, hb⟩
        · have hi := ib.fi_in _ hk
          rw [if_neg (by omega)] at hb
          exact .inr ⟨k - a.n, by rw [show p + a.n + (k - a.n) = p + k by omega]; exact hk, hb⟩
    refine ⟨fun i hi => ?_, fun i hi => ?_, fun k m hm i hi => ?_, ?_, left', fun k q m hq hm => ?_⟩
    · rw [e1, Nat.testBit_or, Bool.or_eq_true] at hi
      rcases hi with hi | hi
      · have := ia.fi_in i hi; omega
      · have := ib.fi_in i hi; omega
    · rw [e2, Nat.testBit_or, Bool.or_eq_true] at hi
      rcases hi with hi | hi
      · have := ia.la_in i hi; omega
      · have := ib.la_in i hi; omega
    · rw [hF] at hm
      by_cases hk : k < a.n
      · rw [if_pos hk] at hm
        have := ia.fo_in k m hm i hi; omega
      · rw [if_neg hk] at hm
        have := ib.fo_in _ m hm i hi; omega
    · rw [e3, ← ia.null, ← ib.null]; rfl
    · rw [hB] at hq
      rw [hF] at hm
      by_cases hk : k < a.n
      · rw [if_pos hk] at hq hm
        obtain ⟨i1, i2⟩ := ia.rest k q m hq hm
        refine ⟨fun r => ?_, ?_⟩
        · rw [i1]
          constructor
          · rintro ⟨j, hj, hb⟩
            have := ia.fo_in k m hm _ hj
            exact ⟨j, hj, by rw [hB, if_pos (by omega)]; exact hb⟩
          · rintro ⟨j, hj, hb⟩
            have := ia.fo_in k m hm _ hj
            rw [hB, if_pos (by omega)] at hb
            exact ⟨j, hj, hb⟩
        · rw [i2, e2, Nat.testBit_or]
          cases hx : (b.spots (p + a.n)).last.testBit (p + k) with
          | false => rw [Bool.or_false]
          | true => have := ib.la_in _ hx; omega
      · rw [if_neg hk] at hq hm
        obtain ⟨i1, i2⟩ := ib.rest _ q m hq hm
        refine ⟨fun r => ?_, ?_⟩
        · rw [i1]
          constructor
          · rintro ⟨j, hj, hb⟩
            refine ⟨a.n + j, by rw [← Nat.add_assoc]; exact hj, ?_⟩
            rw [hB, if_neg (by omega), Nat.add_sub_cancel_left]; exact hb
          · rintro ⟨j, hj, hb⟩
            have := ib.fo_in _ m hm _ hj
            rw [hB, if_neg (by omega)] at hb
            exact ⟨j - a.n, by rw [show p + a.n + (j - a.n) = p + j by omega]; exact hj, hb⟩
        · rw [i2, e2, Nat.testBit_or, show p + a.n + (k - a.n) = p + k by omega]
          cases hx : (a.spots p).last.testBit (p + k) with
          | false => rw [Bool.false_or]
          | true => have := ia.la_in _ hx; omega
  | cat a b, p, h => by
    have ia := sound a p h.1
    have la := spots_length a p
    have ib := sound b (p + (a.spots p).follow.length) h.2
    have hB : ∀ k, (cat a b).behind[k]? = if k < a.n then (put a.behind b)[k]? else b.behind[k - a.n]? := fun k => by
      rw [T.behind]
      by_cases hk : k < a.n
      · rw [if_pos hk, List.getElem?_append_left (by rw [put_length, behind_length]; exact hk)]
      · rw [if_neg hk, List.getElem?_append_right (by rw [put_length, behind_length]; omega), put_length, behind_length]
    have hF : ∀ k, ((cat a b).spots p).follow[k]? = if k < a.n then (led (a.spots p).follow (a.spots p).last (b.spots (p + (a.spots p).follow.length)).first p)[k]? else (b.spots (p + (a.spots p).follow.length)).follow[k - a.n]? := fun k => by
      show (led (a.spots p).follow (a.spots p).last (b.spots (p + (a.spots p).follow.length)).first p ++ (b.spots (p + (a.spots p).follow.length)).follow)[k]? = _
      by_cases hk : k < a.n
      · rw [if_pos hk, List.getElem?_append_left (by rw [led_length, la]; exact hk)]
      · rw [if_neg hk, List.getElem?_append_right (by rw [led_length, la]; omega), led_length, la]
    have e1 : ((cat a b).spots p).first = if (a.spots p).null = true then (a.spots p).first ||| (b.spots (p + (a.spots p).follow.length)).first else (a.spots p).first := rfl
    have e2 : ((cat a b).spots p).last = if (b.spots (p + (a.spots p).follow.length)).null = true then (a.spots p).last ||| (b.spots (p + (a.spots p).follow.length)).last else (b.spots (p + (a.spots p).follow.length)).last := rfl
    have e3 : ((cat a b).spots p).null = ((a.spots p).null && (b.spots (p + (a.spots p).follow.length)).null) := rfl
    have en : (cat a b).n = a.n + b.n := rfl
    rw [la] at ib hF e1 e2 e3
    have f1 : ∀ i, ((cat a b).spots p).first.testBit i = ((a.spots p).first.testBit i || ((a.spots p).null && (b.spots (p + a.n)).first.testBit i)) := fun i => by rw [e1, led_bit]
    have f2 : ∀ i, ((cat a b).spots p).last.testBit i = (((b.spots (p + a.n)).null && (a.spots p).last.testBit i) || (b.spots (p + a.n)).last.testBit i) := fun i => by
      rw [e2]
      cases (b.spots (p + a.n)).null with
      | true => rw [if_pos rfl, Nat.testBit_or, Bool.true_and]
      | false => rw [if_neg Bool.false_ne_true, Bool.false_and, Bool.false_or]
    have leftP : ∀ q, q ∈ put a.left b ↔ ∃ k, (a.spots p).first.testBit (p + k) = true ∧ (put a.behind b)[k]? = some q := fun q => by
      rw [put_eq, List.mem_map]
      constructor
      · rintro ⟨q', hq', rfl⟩
        obtain ⟨k, hk, hb⟩ := (ia.left q').mp hq'
        exact ⟨k, hk, map_get.mpr ⟨q', hb, rfl⟩⟩
      · rintro ⟨k, hk, hb⟩
        obtain ⟨q', hb', rfl⟩ := map_get.mp hb
        exact ⟨q', (ia.left q').mpr ⟨k, hk, hb'⟩, rfl⟩
    refine ⟨fun i hi => ?_, fun i hi => ?_, fun k m hm i hi => ?_, ?_, fun q => ?_, fun k q m hq hm => ?_⟩
    · rw [f1, Bool.or_eq_true, Bool.and_eq_true] at hi
      rcases hi with hi | hi
      · have := ia.fi_in i hi; omega
      · have := ib.fi_in i hi.2; omega
    · rw [f2, Bool.or_eq_true, Bool.and_eq_true] at hi
      rcases hi with hi | hi
      · have := ia.la_in i hi.2; omega
      · have := ib.la_in i hi; omega
    · rw [hF] at hm
      by_cases hk : k < a.n
      · rw [if_pos hk] at hm
        obtain ⟨m', hm', rfl⟩ := led_get hm
        rw [led_bit, Bool.or_eq_true, Bool.and_eq_true] at hi
        rcases hi with hi | hi
        · have := ia.fo_in k m' hm' i hi; omega
        · have := ib.fi_in i hi.2; omega
      · rw [if_neg hk] at hm
        have := ib.fo_in _ m hm i hi; omega
    · rw [e3, ← ia.null, ← ib.null]; rfl
    · rw [mem_cat, leftP, ib.left, ia.null]
      constructor
      · rintro (⟨k, hk, hb⟩ | ⟨hn, k, hk, hb⟩)
        · have := ia.fi_in _ hk
          exact ⟨k, by rw [f1, hk, Bool.true_or], by rw [hB, if_pos (by omega)]; exact hb⟩
        · refine ⟨a.n + k, by rw [f1, hn, ← Nat.add_assoc, hk, Bool.true_and, Bool.or_true], ?_⟩
          rw [hB, if_neg (by omega), Nat.add_sub_cancel_left]; exact hb
      · rintro ⟨k, hk, hb⟩
        rw [f1, Bool.or_eq_true, Bool.and_eq_true] at hk
        rw [hB] at hb
        rcases hk with hk | ⟨hn, hk⟩
        · have := ia.fi_in _ hk
          rw [if_pos (by omega)] at hb
          exact .inl ⟨k, hk, hb⟩
        · have := ib.fi_in _ hk
          rw [if_neg (by omega)] at hb
          exact .inr ⟨hn, k - a.n, by rw [show p + a.n + (k - a.n) = p + k by omega]; exact hk, hb⟩
    · rw [hB] at hq
      rw [hF] at hm
      by_cases hk : k < a.n
      · rw [if_pos hk] at hq hm
        obtain ⟨q', hq', rfl⟩ := map_get.mp hq
        obtain ⟨m', hm', rfl⟩ := led_get hm
        obtain ⟨i1, i2⟩ := ia.rest k q' m' hq' hm'
        refine ⟨fun r => ?_, ?_⟩
        · rw [glue_left, put_eq, List.mem_map, i2, ib.left]
          constructor
          · rintro (⟨r', hr', rfl⟩ | ⟨hl, j, hj, hb⟩)
            · obtain ⟨j, hj, hb⟩ := (i1 r').mp hr'
              have := ia.fo_in k m' hm' _ hj
              exact ⟨j, by rw [led_bit, hj, Bool.true_or], by rw [hB, if_pos (by omega)]; exact map_get.mpr ⟨r', hb, rfl⟩⟩
            · refine ⟨a.n + j, by rw [led_bit, hl, ← Nat.add_assoc, hj, Bool.true_and, Bool.or_true], ?_⟩
              rw [hB, if_neg (by omega), Nat.add_sub_cancel_left]; exact hb
          · rintro ⟨j, hj, hb⟩
            rw [led_bit, Bool.or_eq_true, Bool.and_eq_true] at hj
            rw [hB] at hb
            rcases hj with hj | ⟨hl, hj⟩
            · have := ia.fo_in k m' hm' _ hj
              rw [if_pos (by omega)] at hb
              obtain ⟨r', hb', rfl⟩ := map_get.mp hb
              exact .inl ⟨r', (i1 r').mpr ⟨j, hj, hb'⟩, rfl⟩
            · have := ib.fi_in _ hj
              rw [if_neg (by omega)] at hb
              exact .inr ⟨hl, j - a.n, by rw [show p + a.n + (j - a.n) = p + j by omega]; exact hj, hb⟩
        · rw [glue_empty, i2, f2, ib.null]
          cases hx : (b.spots (p + a.n)).last.testBit (p + k) with
          | false => rw [Bool.or_false, Bool.and_comm]
          | true => have := ib.la_in _ hx; omega
      · rw [if_neg hk] at hq hm
        obtain ⟨i1, i2⟩ := ib.rest _ q m hq hm
        refine ⟨fun r => ?_, ?_⟩
        · rw [i1]
          constructor
          · rintro ⟨j, hj, hb⟩
            refine ⟨a.n + j, by rw [← Nat.add_assoc]; exact hj, ?_⟩
            rw [hB, if_neg (by omega), Nat.add_sub_cancel_left]; exact hb
          · rintro ⟨j, hj, hb⟩
            have := ib.fo_in _ m hm _ hj
            rw [hB, if_neg (by omega)] at hb
            exact ⟨j - a.n, by rw [show p + a.n + (j - a.n) = p + j by omega]; exact hj, hb⟩
        · rw [i2, f2, show p + a.n + (k - a.n) = p + k by omega]
          cases hx : (a.spots p).last.testBit (p + k) with
          | false => rw [Bool.and_false, Bool.false_or]
          | true => have := ia.la_in _ hx; omega
end T
end Mine
end

section
open PySem PySem.W PyProof.Rows PySem.Calls PySem.SeqAt
set_option maxRecDepth 100000
namespace Mine
namespace T

/-! ## Every place is come to -/
theorem last_some : ∀ (e : T) (p : Nat), e.reg → ∃ k, k < e.n ∧ (e.spots p).last.testBit (p + k) = true
  | leaf l, p, h => ⟨0, Nat.one_pos, by show (2 ^ p).testBit (p + 0) = true; rw [Nat.add_zero, Nat.testBit_two_pow_self]⟩
  | star a, p, h => last_some a p h
  | alt a b, p, h => by
    obtain ⟨k, hk, hl⟩ := last_some a p h.1
    refine ⟨k, by show k < a.n + b.n; omega, ?_⟩
    show ((a.spots p).last ||| _).testBit _ = true
    rw [Nat.testBit_or, hl, Bool.true_or]
  | cat a b, p, h => by
    obtain ⟨k, hk, hl⟩ := last_some b (p + (a.spots p).follow.length) h.2
    rw [spots_length] at hl
    refine ⟨a.n + k, by show a.n + k < a.n + b.n; omega, ?_⟩
    show (if (b.spots (p + (a.spots p).follow.length)).null = true then (a.spots p).last ||| (b.spots (p + (a.spots p).follow.length)).last else (b.spots (p + (a.spots p).follow.length)).last).testBit _ = true
    rw [spots_length, ← Nat.add_assoc]
    split
    · rw [Nat.testBit_or, hl, Bool.or_true]
    · exact hl
theorem all_reached : ∀ (e : T) (p : Nat), e.reg → ∀ C : Nat → Prop, (∀ k, (e.spots p).first.testBit (p + k) = true → C k) → (∀ (j m k : Nat), C j → (e.spots p).follow[j]? = some m → m.testBit (p + k) = true → C k) → ∀ k, k < e.n → C k
  | leaf l, p, h, C, h1, h2, k, hk => by
    have : k = 0 := by have : k < 1 := hk; omega
    subst this
    refine h1 0 ?_
    show (2 ^ p).testBit (p + 0) = true
    rw [Nat.add_zero, Nat.testBit_two_pow_self]
  | star a, p, h, C, h1, h2, k, hk => by
    refine all_reached a p h C h1 (fun j m k hj hm hb => ?_) k hk
    have hs : ((star a).spots p).follow[j]? = some (if (a.spots p).last.testBit (p + j) then m ||| (a.spots p).first else m) := by
      show (led _ _ _ _)[j]? = _
      unfold led
      rw [List.getElem?_map, List.getElem?_zipIdx, hm]
      simp
    refine h2 j _ k hj hs ?_
    rw [led_bit, hb, Bool.true_or]
  | alt a b, p, h, C, h1, h2, k, hk => by
    have la := spots_length a p
    have hF : ∀ (j m : Nat), (a.spots p).follow[j]? = some m → ((alt a b).spots p).follow[j]? = some m := fun j m hm => by
      show ((a.spots p).follow ++ _)[j]? = _
      rw [List.getElem?_append_left (List.getElem?_eq_some_iff.mp hm).1]; exact hm
    have hG : ∀ (j m : Nat), (b.spots (p + a.n)).follow[j]? = some m → ((alt a b).spots p).follow[a.n + j]? = some m := fun j m hm => by
      show ((a.spots p).follow ++ (b.spots (p + (a.spots p).follow.length)).follow)[a.n + j]? = _
      rw [la, List.getElem?_append_right (by omega), la, Nat.add_sub_cancel_left]; exact hm
    have e1 : ((alt a b).spots p).first = (a.spots p).first ||| (b.spots (p + a.n)).first := by show _ ||| (b.spots (p + (a.spots p).follow.length)).first = _; rw [la]
    have ka := all_reached a p h.1 C (fun k hk => h1 k (by rw [e1, Nat.testBit_or, hk, Bool.true_or])) (fun j m k hj hm hb => h2 j m k hj (hF j m hm) hb)
    have kb := all_reached b (p + a.n) h.2 (fun k => C (a.n + k)) (fun k hk => h1 (a.n + k) (by rw [e1, Nat.testBit_or, ← Nat.add_assoc, hk, Bool.or_true]))
      (fun j m k hj hm hb => h2 (a.n + j) m (a.n + k) hj (hG j m hm) (by rw [← Nat.add_assoc]; exact hb))
    by_cases hka : k < a.n
    · exact ka k hka
    · have : k < a.n + b.n := hk
      have := kb (k - a.n) (by omega)
      rwa [show a.n + (k - a.n) = k by omega] at this
  | cat a b, p, h, C, h1, h2, k, hk => by
    have la := spots_length a p
    have hF : ∀ (j m : Nat), (a.spots p).follow[j]? = some m → ((cat a b).spots p).follow[j]? = some (if (a.spots p).last.testBit (p + j) then m ||| (b.spots (p + a.n)).first else m) := fun j m hm => by
      show (led (a.spots p).follow (a.spots p).last (b.spots (p + (a.spots p).follow.length)).first p ++ (b.spots (p + (a.spots p).follow.length)).follow)[j]? = _
      rw [List.getElem?_append_left (by rw [led_length]; exact (List.getElem?_eq_some_iff.mp hm).1), la]
      unfold led
      rw [List.getElem?_map, List.getElem?_zipIdx, hm]
      simp
    have hG : ∀ (j m : Nat), (b.spots (p + a.n)).follow[j]? = some m → ((cat a b).spots p).follow[a.n + j]? = some m := fun j m hm => by
      show (led (a.spots p).follow (a.spots p).last (b.spots (p + (a.spots p).follow.length)).first p ++ (b.spots (p + (a.spots p).follow.length)).follow)[a.n + j]? = _
      rw [List.getElem?_append_right (by rw [led_length]; omega), led_length, la, Nat.add_sub_cancel_left]; exact hm
    have e1 : ∀ i, (a.spots p).first.testBit i = true → ((cat a b).spots p).first.testBit i = true := fun i hi => by
      show (if (a.spots p).null = true then (a.spots p).first ||| (b.spots (p + (a.spots p).follow.length)).first else (a.spots p).first).testBit i = true
      split
      · rw [Nat.testBit_or, hi, Bool.true_or]
      · exact hi
    have ka := all_reached a p h.1 C (fun k hk => h1 k (e1 _ hk)) (fun j m k hj hm hb => h2 j _ k hj (hF j m hm) (by rw [led_bit, hb, Bool.true_or]))
    obtain ⟨j, hj, hl⟩ := last_some a p h.1
    have hjl : ∃ m, (a.spots p).follow[j]? = some m := ⟨_, List.getElem?_eq_getElem (by rw [la]; exact hj)⟩
    obtain ⟨m, hm⟩ := hjl
    have kb := all_reached b (p + a.n) h.2 (fun k => C (a.n + k)) (fun k hk => h2 j _ (a.n + k) (ka j hj) (hF j m hm) (by rw [led_bit, hl, ← Nat.add_assoc, hk, Bool.true_and, Bool.or_true]))
      (fun j m k hj hm hb => h2 (a.n + j) m (a.n + k) hj (hG j m hm) (by rw [← Nat.add_assoc]; exact hb))
    by_cases hka : k < a.n
    · exact ka k hka
    · have : k < a.n + b.n := hk
      have := kb (k - a.n) (by omega)
      rwa [show a.n + (k - a.n) = k by omega] at this

/-! ## The table -/
noncomputable def grow (fs : List T) (ps : List (Int × T)) : List T := ps.foldl (fun fs p => if p.2 ∈ fs then fs else fs ++ [p.2]) fs
theorem grow_prefix : ∀ (ps : List (Int × T)) (fs : List T), fs <+: grow fs ps
  | [], fs => List.prefix_refl _
  | p :: ps, fs => by
    show fs <+: grow (if p.2 ∈ fs then fs else fs ++ [p.2]) ps
    split
    · exact grow_prefix ps fs
    · exact (List.prefix_append fs [p.2]).trans (grow_prefix ps _)
theorem grow_mem : ∀ (ps : List (Int × T)) (fs : List T) (x : T), x ∈ grow fs ps ↔ x ∈ fs ∨ ∃ p ∈ ps, p.2 = x
  | [], fs, x => by simp [grow]
  | p :: ps, fs, x => by
    show x ∈ grow (if p.2 ∈ fs then fs else fs ++ [p.2]) ps ↔ _
    rw [grow_mem ps]
    split
    · rename_i h
      constructor
      · rintro (hx | ⟨q, hq, rfl⟩)
        · exact .inl hx
        · exact .inr ⟨q, .tail _ hq, rfl⟩
      · rintro (hx | ⟨q, hq, rfl⟩)
        · exact .inl hx
        · rcases List.mem_cons.mp hq with rfl | hq
          · exact .inl h
          · exact .inr ⟨q, hq, rfl⟩
    · constructor
      · rintro (hx | ⟨q, hq, rfl⟩)
        · rcases List.mem_append.mp hx with hx | hx
          · exact .inl hx
          · exact .inr ⟨p, .head _, (List.mem_singleton.mp hx).symm⟩
        · exact .inr ⟨q, .tail _ hq, rfl⟩
      · rintro (hx | ⟨q, hq, rfl⟩)
        · exact .inl (List.mem_append_left _ hx)
        · rcases List.mem_cons.mp hq with rfl | hq
          · exact .inl (List.mem_append_right _ (List.mem_singleton.mpr rfl))
          · exact .inr ⟨q, hq, rfl⟩
theorem grow_nodup : ∀ (ps : List (Int × T)) (fs : List T), fs.Nodup → (grow fs ps).Nodup
  | [], fs, h => h
  | p :: ps, fs, h => by
    show (grow (if p.2 ∈ fs then fs else fs ++ [p.2]) ps).Nodup
    split
    · exact grow_nodup ps fs h
    · rename_i hp
      refine grow_nodup ps _ ?_
      rw [List.nodup_append]
      exact ⟨h, by simp, fun a ha b hb => by rw [List.mem_singleton.mp hb]; exact fun q => hp (q ▸ ha)⟩
noncomputable def run (w : T) : Nat → List T
  | 0 => [w]
  | k + 1 => match (run w k)[k]? with
    | some f => grow (run w k) f.left
    | none => run w k
theorem run_some {w : T} {k : Nat} {f : T} (h : (run w k)[k]? = some f) : run w (k + 1) = grow (run w k) f.left := by
  rw [run, h]
theorem run_none {w : T} {k : Nat} (h : (run w k)[k]? = none) : run w (k + 1) = run w k := by
  rw [run, h]
theorem run_prefix (w : T) (k : Nat) : run w k <+: run w (k + 1) := by
  cases h : (run w k)[k]? with
  | some f => rw [run_some h]; exact grow_prefix _ _
  | none => rw [run_none h]; exact List.prefix_refl _
theorem run_mono (w : T) (k : Nat) : ∀ d, run w k <+: run w (k + d)
  | 0 => List.prefix_refl _
  | d + 1 => (run_mono w k d).trans (run_prefix w (k + d))
theorem run_nodup (w : T) : ∀ k, (run w k).Nodup
  | 0 => by simp [run]
  | k + 1 => by
    cases h : (run w k)[k]? with
    | some f => rw [run_some h]; exact grow_nodup _ _ (run_nodup w k)
    | none => rw [run_none h]; exact run_nodup w k
theorem run_over {w : T} {k : Nat} (h : (run w k).length ≤ k) : ∀ d, run w (k + d) = run w k
  | 0 => rfl
  | d + 1 => by
    have ih := run_over h d
    have : (run w (k + d))[k + d]? = none := by rw [ih]; exact List.getElem?_eq_none (by omega)
    show run w (k + d + 1) = _
    rw [run_none this, ih]
theorem nodup_le : ∀ (l m : List T), l.Nodup → (∀ x ∈ l, x ∈ m) → l.length ≤ m.length
  | [], m, _, _ => Nat.zero_le _
  | x :: l, m, h, hs => by
    have hx := hs x (.head _)
    have h' := List.nodup_cons.mp h
    have := nodup_le l (m.erase x) h'.2 fun y hy => by
      have hne : y ≠ x := fun q => h'.1 (q ▸ hy)
      exact (List.mem_erase_of_ne hne).mpr (hs y (.tail _ hy))
    rw [List.length_erase_of_mem hx] at this
    have := List.length_pos_of_mem hx
    rw [List.length_cons]; omega

section
variable {w : T} (hr : w.reg)
include hr
theorem run_in : ∀ k, ∀ f ∈ run w k, f = w ∨ ∃ q ∈ w.behind, q.2 = f
  | 0, f, hf => .inl (by simpa [run] using hf)
  | k + 1, f, hf => by
    have S := sound w 0 hr
    cases h : (run w k)[k]? with
    | none => rw [run_none h] at hf; exact run_in k f hf
    | some g =>
      rw [run_some h, grow_mem] at hf
      rcases hf with hf | ⟨q, hq, rfl⟩
      · exact run_in k f hf
      · have hg := run_in k g (List.mem_of_getElem? h)
        rcases hg with rfl | ⟨r, hrb, rfl⟩
        · obtain ⟨i, _, hi⟩ := (S.left q).mp hq
          exact .inr ⟨q, List.mem_of_getElem? hi, rfl⟩
        · obtain ⟨i, hi⟩ := List.getElem?_of_mem hrb
          have hfl : ∃ m, (w.spots 0).follow[i]? = some m := ⟨_, List.getElem?_eq_getElem (by rw [spots_length, ← behind_length]; exact (List.getElem?_eq_some_iff.mp hi).1)⟩
          obtain ⟨m, hm⟩ := hfl
          obtain ⟨j, _, hj⟩ := ((S.rest i r m hi hm).1 q).mp hq
          exact .inr ⟨q, List.mem_of_getElem? hj, rfl⟩
theorem run_len (hn : w.n = 4) (k : Nat) : (run w k).length ≤ 5 := by
  have := nodup_le (run w k) (w :: w.behind.map (·.2)) (run_nodup w k) fun f hf => by
    rcases run_in hr k f hf with rfl | ⟨q, hq, rfl⟩
    · exact .head _
    · exact .tail _ (List.mem_map.mpr ⟨q, hq, rfl⟩)
  rw [List.length_cons, List.length_map, behind_length, hn] at this
  exact this
theorem run_closed (hn : w.n = 4) : ∀ f ∈ run w 5, ∀ q ∈ f.left, q.2 ∈ run w 5 := fun f hf q hq => by
  obtain ⟨i, hi⟩ := List.getElem?_of_mem hf
  have hl := (List.getElem?_eq_some_iff.mp hi).1
  have h5 := run_len hr hn 5
  have hlt : i < (run w i).length := by
    by_cases h : i < (run w i).length
    · exact h
    · have := run_over (w := w) (k := i) (by omega) (5 - i)
      rw [show i + (5 - i) = 5 by omega] at this
      rw [this] at hl; omega
  have pre := run_mono w i (5 - i)
  rw [show i + (5 - i) = 5 by omega] at pre
  have hif : (run w i)[i]? = some f := by
    obtain ⟨t, ht⟩ := pre
    rw [← ht, List.getElem?_append_left hlt] at hi
    exact hi
  have pre2 := run_mono w (i + 1) (4 - i)
  rw [show i + 1 + (4 - i) = 5 by omega, run_some hif] at pre2
  exact pre2.subset ((grow_mem _ _ _).mpr (.inr ⟨q, hq, rfl⟩))
omit hr in
theorem w_in (k : Nat) : w ∈ run w k := by
  have := run_mono w 0 k
  rw [Nat.zero_add] at this
  exact this.subset (by simp [run])
/-- what stands behind each place is found -/
theorem all_found (hn : w.n = 4) : ∀ q ∈ w.behind, ∃ f ∈ run w 5, q ∈ f.left := by
  have S := sound w 0 hr
  have key := all_reached w 0 hr (fun k => ∀ q, w.behind[k]? = some q → ∃ f ∈ run w 5, q ∈ f.left)
    (fun k hk q hq => ⟨w, w_in 5, (S.left q).mpr ⟨k, hk, hq⟩⟩) fun j m k hj hm hb q hq => by
      have hjl : ∃ r, w.behind[j]? = some r := ⟨_, List.getElem?_eq_getElem (by rw [behind_length, ← spots_length w 0]; exact (List.getElem?_eq_some_iff.mp hm).1)⟩
      obtain ⟨r, hr'⟩ := hjl
      obtain ⟨f, hf, hrf⟩ := hj r hr'
      exact ⟨r.2, run_closed hr hn f hf r hrf, ((S.rest j r m hr' hm).1 q).mpr ⟨k, hb, hq⟩⟩
  intro q hq
  obtain ⟨k, hk⟩ := List.getElem?_of_mem hq
  exact key k (by rw [← behind_length]; exact (List.getElem?_eq_some_iff.mp hk).1) q hk
end

/-! ## The words -/
noncomputable def told (S : S) : List Nat := (S.first + if S.null then 48 else 32) :: S.follow.zipIdx.map fun q => q.1 + if S.last.testBit q.2 then 48 else 32
theorem mask_lt {m : Nat} (h : ∀ i, m.testBit i = true → i < 4) : m < 16 := by
  have := Nat.lt_pow_two_of_testBit (n := 4) m fun i hi => by
    cases hb : m.testBit i with
    | false => rfl
    | true => have := h i hb; omega
  exact this
theorem bit_mod {m x k : Nat} (hm : m < 16) (hx : x % 16 = m) (hk : k < 4) : x.testBit k = m.testBit k := by
  have := Nat.testBit_mod_two_pow x 4 k
  rw [show (2 : Nat) ^ 4 = 16 from rfl, hx] at this
  rw [this]
  simp [hk]
/-- what a number tells of a state -/
structure Tells (w s : T) (v : Nat) : Prop where
  lo : 32 ≤ v
  hi : v < 64
  left : ∀ q, q ∈ s.left ↔ ∃ k, k < 4 ∧ v.testBit k = true ∧ w.behind[k]? = some q
  empty : s.empty = decide (48 ≤ v)
theorem tells_of {w s : T} {m : Nat} {b : Bool} (hm : ∀ i, m.testBit i = true → i < 4) (hl : ∀ q, q ∈ s.left ↔ ∃ k, m.testBit k = true ∧ w.behind[k]? = some q) (he : s.empty = b) : Tells w s (m + if b then 48 else 32) := by
  have hlt := mask_lt hm
  have hmod : (m + if b then 48 else 32) % 16 = m := by cases b <;> simp <;> omega
  refine ⟨by cases b <;> simp <;> omega, by cases b <;> simp <;> omega, fun q => ?_, ?_⟩
  · rw [hl]
    constructor
    · rintro ⟨k, hk, hq⟩
      have := hm k hk
      exact ⟨k, this, by rw [bit_mod hlt hmod this]; exact hk, hq⟩
    · rintro ⟨k, h4, hk, hq⟩
      exact ⟨k, by rw [bit_mod hlt hmod h4] at hk; exact hk, hq⟩
  · rw [he]
    cases b with
    | true => symm; simp
    | false => symm; simp; omega
theorem told_length (S : S) : (told S).length = S.follow.length + 1 := by unfold told; simp
theorem tells {w : T} (hr : w.reg) (hn : w.n = 4) : ∀ (i : Nat) (s : T) (v : Nat), (w :: w.behind.map (·.2))[i]? = some s → (told (w.spots 0))[i]? = some v → Tells w s v := by
  have S := sound w 0 hr
  intro i s v hs hv
  cases i with
  | zero =>
    have e1 : s = w := (Option.some.inj hs).symm
    have e2 : v = _ := (Option.some.inj hv).symm
    subst e1; subst e2
    refine tells_of (fun i hi => ?_) (fun q => ?_) S.null
    · have := S.fi_in i hi; omega
    · rw [S.left]; simp only [Nat.zero_add]
  | succ i =>
    have hs' : (w.behind.map (·.2))[i]? = some s := hs
    have hv' : ((w.spots 0).follow.zipIdx.map fun q => q.1 + if (w.spots 0).last.testBit q.2 then 48 else 32)[i]? = some v := hv
    rw [List.getElem?_map] at hs' hv'
    rw [List.getElem?_zipIdx] at hv'
    cases hb : w.behind[i]? with
    | none => rw [hb] at hs'; cases hs'
    | some r => cases hf : (w.spots 0).follow[i]? with
      | none => rw [hf] at hv'; cases hv'
      | some m =>
        rw [hb] at hs'; rw [hf] at hv'
        simp at hs' hv'
        subst hs'; subst hv'
        obtain ⟨r1, r2⟩ := S.rest i r m hb hf
        rw [Nat.zero_add] at r2
        refine tells_of (fun j hj => ?_) (fun q => ?_) r2
        · have := S.fo_in i m hf j hj; omega
        · rw [r1]; simp only [Nat.zero_add]
end T
end Mine
end

section
open PySem PySem.W PyProof.Rows PySem.Calls PySem.SeqAt
set_option maxRecDepth 100000
namespace Mine

/-! ## The drawn tree -/
namespace T
structure Fine (k : Nat) (t : T) : Prop where
  ok : t.ok
  reg : t.reg
  sy : ∀ s ∈ t.ser, Sy s
  h : t.h ≤ k
theorem Fine.more {k m : Nat} {t : T} (x : Fine k t) (h : k ≤ m) : Fine m t := ⟨x.ok, x.reg, x.sy, Nat.le_trans x.h h⟩
theorem fine_lf (a k : Nat) : Fine 1 (lf a k) := by
  have hl : Sy (255 - ((a / 2 ^ k % 2 : Nat) : Int)) := by
    have := Nat.mod_two_eq_zero_or_one (a / 2 ^ k)
    rcases this with e | e <;> rw [e]
    · exact .inr (.inl rfl)
    · exact .inl rfl
  have hb : (255 - ((a / 2 ^ k % 2 : Nat) : Int)) < 256 ∧ (255 - ((a / 2 ^ k % 2 : Nat) : Int)) ≠ 0 := by omega
  unfold lf
  split
  · exact ⟨hb.1, hb.2, fun s hs => by
      simp [ser] at hs
      rcases hs with rfl | rfl
      · exact .inr (.inr (.inr (.inr rfl)))
      · exact hl, Nat.le_refl _⟩
  · exact ⟨hb.1, hb.2, fun s hs => by
      simp [ser] at hs
      subst hs; exact hl, Nat.zero_le _⟩
theorem fine_both {k c : Nat} {x y : T} (hx : Fine k x) (hy : Fine k y) : Fine (k + 2) (both c x y) := by
  have s6 : Sy 256 := .inr (.inr (.inl rfl))
  have s7 : Sy 257 := .inr (.inr (.inr (.inl rfl)))
  have s8 : Sy 258 := .inr (.inr (.inr (.inr rfl)))
  have mid : Fine (k + 1) (if c % 2 = 0 then cat x y else alt x y) := by
    have h1 := hx.h
    have h2 := hy.h
    split
    · exact ⟨⟨hx.ok, hy.ok⟩, ⟨hx.reg, hy.reg⟩, fun s hs => by
        simp only [ser, List.mem_cons, List.mem_append] at hs
        rcases hs with rfl | hs | hs
        · exact s6
        · exact hx.sy s hs
        · exact hy.sy s hs, by rw [h_cat]; omega⟩
    · exact ⟨⟨hx.ok, hy.ok⟩, ⟨hx.reg, hy.reg⟩, fun s hs => by
        simp only [ser, List.mem_cons, List.mem_append] at hs
        rcases hs with rfl | hs | hs
        · exact s7
        · exact hx.sy s hs
        · exact hy.sy s hs, by rw [h_alt]; omega⟩
  unfold both
  generalize (if c % 2 = 0 then cat x y else alt x y) = z at *
  split
  · exact ⟨mid.ok, mid.reg, fun s hs => by
      simp only [ser, List.mem_cons] at hs
      rcases hs with rfl | hs
      · exact s8
      · exact mid.sy s hs, by rw [h_star]; have := mid.h; omega⟩
  · exact mid.more (by omega)
theorem steps_tree (a b c d : Nat) : ∃ t, steps a [b, c, d] = [t] ∧ Fine 7 t ∧ t.n = 4 ∧ t.ser.length ≤ 30 := by
  have l0 : (leaves a).length = 4 := rfl
  have l1 := joinStep_length (ps := leaves a) b (by omega)
  have l2 := joinStep_length (ps := joinStep (leaves a) b) c (by omega)
  have l3 := joinStep_length (ps := joinStep (joinStep (leaves a) b) c) d (by omega)
  obtain ⟨t, ht⟩ := List.length_eq_one_iff.mp (show (joinStep (joinStep (joinStep (leaves a) b) c) d).length = 1 by omega)
  have f0 : ∀ p ∈ leaves a, Fine 1 p := fun p hp => by
    simp [leaves] at hp
    rcases hp with rfl | rfl | rfl | rfl <;> exact fine_lf a _
  have f1 : ∀ p ∈ joinStep (leaves a) b, Fine 3 p := joinStep_all (c := b) (P := Fine 1) (Q := Fine 3) (by omega) f0 (fun x y hx hy => fine_both hx hy) fun p hp => hp.more (by decide)
  have f2 : ∀ p ∈ joinStep (joinStep (leaves a) b) c, Fine 5 p := joinStep_all (c := c) (P := Fine 3) (Q := Fine 5) (by omega) f1 (fun x y hx hy => fine_both hx hy) fun p hp => hp.more (by decide)
  have f3 : ∀ p ∈ joinStep (joinStep (joinStep (leaves a) b) c) d, Fine 7 p := joinStep_all (c := d) (P := Fine 5) (Q := Fine 7) (by omega) f2 (fun x y hx hy => fine_both hx hy) fun p hp => hp.more (by decide)
  have n0 : ((leaves a).map n).sum = 4 := by
    have : ∀ k, (lf a k).n = 1 := fun k => by unfold lf; split <;> rfl
    simp [leaves, this]
  have n1 := joinStep_n (ps := leaves a) b (by omega)
  have n2 := joinStep_n (ps := joinStep (leaves a) b) c (by omega)
  have n3 := joinStep_n (ps := joinStep (joinStep (leaves a) b) c) d (by omega)
  have s0 : ∀ p ∈ leaves a, p.ser.length ≤ 2 := fun p hp => by have := leaves_ser a p hp; omega
  have s1 : ∀ p ∈ joinStep (leaves a) b, p.ser.length ≤ 6 := joinStep_all (c := b) (P := fun p => p.ser.length ≤ 2) (Q := fun p => p.ser.length ≤ 6) (by omega) s0 (fun x y hx hy => by have := both_ser b x y; omega) fun p hp => by omega
  have s2 : ∀ p ∈ joinStep (joinStep (leaves a) b) c, p.ser.length ≤ 14 := joinStep_all (c := c) (P := fun p => p.ser.length ≤ 6) (Q := fun p => p.ser.length ≤ 14) (by omega) s1 (fun x y hx hy => by have := both_ser c x y; omega) fun p hp => by omega
  have s3 : ∀ p ∈ joinStep (joinStep (joinStep (leaves a) b) c) d, p.ser.length ≤ 30 := joinStep_all (c := d) (P := fun p => p.ser.length ≤ 14) (Q := fun p => p.ser.length ≤ 30) (by omega) s2 (fun x y hx hy => by have := both_ser d x y; omega) fun p hp => by omega
  refine ⟨t, ht, f3 t (by rw [ht]; exact .head _), ?_, s3 t (by rw [ht]; exact .head _)⟩
  rw [n2, n1, n0, ht] at n3
  simpa using n3
theorem ser_ne (t : T) : t.ser ≠ [] := by cases t <;> simp [ser]
theorem put_n {ps : List (Int × T)} {e : T} {k : Nat} (h : ∀ p ∈ ps, p.2.n ≤ k) : ∀ p ∈ put ps e, p.2.n ≤ k + e.n := fun p hp => by
  obtain ⟨q, hq, rfl⟩ := List.mem_map.mp hp
  dsimp only
  split
  · omega
  · show q.2.n + e.n ≤ _
    have := h q hq; omega
theorem behind_n : ∀ (e : T) (k : Nat), e.h ≤ k → ∀ p ∈ e.behind, p.2.n ≤ 1 + k * e.n
  | leaf l, k, hk, p, hp => by simp [behind] at hp; subst hp; show 1 ≤ _; omega
  | star a, k, hk, p, hp => by
    rw [h_star] at hk
    obtain ⟨m, rfl⟩ : ∃ m, k = m + 1 := ⟨k - 1, by omega⟩
    have := put_n (behind_n a m (by omega)) p hp
    show _ ≤ 1 + (m + 1) * a.n
    rw [Nat.add_mul, Nat.one_mul]
    show _ ≤ _
    have e : (star a).n = a.n := rfl
    omega
  | alt a b, k, hk, p, hp => by
    rw [h_alt] at hk
    show _ ≤ 1 + k * (a.n + b.n)
    rw [Nat.mul_add]
    rcases List.mem_append.mp hp with hp | hp
    · have := behind_n a k (by omega) p hp; omega
    · have := behind_n b k (by omega) p hp; omega
  | cat a b, k, hk, p, hp => by
    rw [h_cat] at hk
    obtain ⟨m, rfl⟩ : ∃ m, k = m + 1 := ⟨k - 1, by omega⟩
    show _ ≤ 1 + (m + 1) * (a.n + b.n)
    rw [Nat.mul_add, Nat.add_mul, Nat.add_mul]
    rcases List.mem_append.mp hp with hp | hp
    · have := put_n (behind_n a m (by omega)) p hp
      have e : b.n = b.n := rfl
      omega
    · have := behind_n b m (by omega) p hp; omega
theorem behind_h : ∀ e : T, ∀ p ∈ e.behind, p.2.h ≤ 2 * e.h
  | leaf l, p, hp => by simp [behind] at hp; subst hp; exact Nat.zero_le _
  | star a, p, hp => by
    have := put_h (k := 2 * a.h + 1) (fun p hp => Nat.le_succ_of_le (behind_h a p hp)) (e := star a) (by rw [h_star]; omega) p hp
    rw [h_star]; omega
  | alt a b, p, hp => by
    rw [h_alt]
    rcases List.mem_append.mp hp with hp | hp
    · have := behind_h a p hp; omega
    · have := behind_h b p hp; omega
  | cat a b, p, hp => by
    rw [h_cat]
    rcases List.mem_append.mp hp with hp | hp
    · have := put_h (k := 2 * max a.h b.h) (fun p hp => Nat.le_trans (behind_h a p hp) (by omega)) (e := b) (by omega) p hp
      omega
    · have := behind_h b p hp; omega
theorem put_ok {ps : List (Int × T)} {e : T} (h : ∀ p ∈ ps, p.2.ok) (he : e.ok) : ∀ p ∈ put ps e, p.2.ok := fun p hp => by
  obtain ⟨q, hq, rfl⟩ := List.mem_map.mp hp
  dsimp only
  split
  · exact he
  · exact ⟨h q hq, he⟩
theorem behind_ok : ∀ e : T, e.ok → ∀ p ∈ e.behind, p.2.ok
  | leaf l, h, p, hp => by simp [behind] at hp; subst hp; show (0 : Int) < 256; decide
  | star a, h, p, hp => put_ok (behind_ok a h) h p hp
  | alt a b, h, p, hp => by
    rcases List.mem_append.mp hp with hp | hp
    · exact behind_ok a h.1 p hp
    · exact behind_ok b h.2 p hp
  | cat a b, h, p, hp => by
    rcases List.mem_append.mp hp with hp | hp
    · exact put_ok (behind_ok a h.1) h.2 p hp
    · exact behind_ok b h.2 p hp
/-- all that can be found is small -/
structure Small (t : T) : Prop where
  ok : t.ok
  n : t.n ≤ 100
  h : t.h ≤ 20
theorem run_small {w : T} (hf : Fine 7 w) (hn : w.n = 4) (k : Nat) : ∀ f ∈ run w k, Small f := fun f h => by
  have hh := hf.h
  rcases run_in hf.reg k f h with rfl | ⟨q, hq, rfl⟩
  · exact ⟨hf.ok, by omega, by omega⟩
  · have h1 := behind_n w 7 hf.h q hq
    have h2 := behind_h w q hq
    rw [hn] at h1
    exact ⟨behind_ok w hf.ok q hq, by omega, by omega⟩
end T
end Mine
end

section
open PySem PySem.W PyProof.Rows PySem.Calls PySem.SeqAt
set_option maxRecDepth 100000
namespace Mine

section
variable {c : Cx} {ρ ρ' : Vars} {ω : Owns} {scope : Scope} {cl : List (Str × Addr)} {elt tgt iter tgt2 iter2 : Expr} {ifs : List Expr} {pos ppos : Pos} {pair pair2 : Bool} {its : List D} {os : Nat → List D} {gs : List Comprehension} {em : Value → Env → Sem Unit}
theorem Ev.compG (ok : c.Ok) (co : CompOk c scope cl) (hit : It c ρ ω iter pair its) (hcap : Captures c scope cl ρ ρ') (body : BodyG c scope cl ρ' pair tgt ifs em its os)
    (hturn : ∀ it acc env, compTurn (.ListComp elt (⟨tgt, iter, ifs, 0⟩ :: gs) scope pos) 0 it acc env = turnOf (.ListComp elt (⟨tgt, iter, ifs, 0⟩ :: gs) scope pos) 0 iter.pos tgt ifs (em acc env) it acc env) (hsz : ((List.range its.length).flatMap os).length ≤ 100000)
    (hs : ∀ x, foldedSetIterable iter c.env x = pure x := by intro _; rfl) :
    Ev c ρ ω (.ListComp elt (⟨tgt, iter, ifs, 0⟩ :: gs) scope pos) (.lst ((List.range its.length).flatMap os)) := .mk fun Y s F Q E k => by
  show wpAny _ _ (comprehension (.ListComp elt (⟨tgt, iter, ifs, 0⟩ :: gs) scope pos) scope c.env iter.pos (newList []) false (eval iter c.env) none) _ _ _
  refine comp_any (gs := gs) ok co hit hcap body hturn hsz F (fun C Dl s' vs m g dC dD hCD hm p r => ?_) hs
  refine ⟨m, hm, fun h' hs' => ?_⟩
  have g' : Grow s (s'.on h' s'.toks) := by
    obtain ⟨⟨h, t, e⟩, kp, tk, ex, sn⟩ := g
    exact ⟨⟨h', t, by show ({ s'.sh with heap := h', toks := s'.sh.toks } : Shared) = _; rw [e]⟩, fun b o e => hs'.extBut b o (fun q => by rw [q, dC] at e; cases e) (kp b o e), tk, ex, sn⟩
  have nX : ¬ Xω Y ω Dl := fun q => by obtain ⟨o, e⟩ := F.xlive _ q; rw [dD] at e; cases e
  refine k _ _ g' (.lst (plain_keep p fun o e => hs'.extBut _ o (Ne.symm hCD) e) nX (Reps.move (s := s') (s' := s'.on h' s'.toks) (fun _ _ e => e) (fun b o hb e => hs'.extBut b o (fun q => hb (.inr (.inr q))) e) (fun b o q _ => .inl q) r))


/-- rest for .. in a table's rows -/
theorem Ev.comp2 {α β : Type} {f : α → D} {inner : α → List β} {f2 g : β → D} {ps : List α} (ok : c.Ok) (co : CompOk c scope cl) (hit : It c ρ ω iter pair (ps.map f)) (hcap : Captures c scope cl ρ ρ')
    (htgt : ∀ C s₂ X₀, TgtOk (c.comp scope cl C s₂ X₀) [] pair tgt) (htgt2 : ∀ C s₂ X₀, TgtOk (c.comp scope cl C s₂ X₀) [] pair2 tgt2) (sub : ∀ a, a ∈ ps → Sub ρ' (binds tgt (f a) ++ ρ')) (sub2 : ∀ a b, a ∈ ps → b ∈ inner a → Sub (binds tgt (f a) ++ ρ') (binds tgt2 (f2 b) ++ (binds tgt (f a) ++ ρ')))
    (hit2 : ∀ C s₂ X₀, (c.comp scope cl C s₂ X₀).Ok → ∀ a, a ∈ ps → It (c.comp scope cl C s₂ X₀) (binds tgt (f a) ++ ρ') [] iter2 pair2 ((inner a).map f2))
    (helt : ∀ C s₂ X₀, (c.comp scope cl C s₂ X₀).Ok → ∀ a b, a ∈ ps → b ∈ inner a → Ev (c.comp scope cl C s₂ X₀) (binds tgt2 (f2 b) ++ (binds tgt (f a) ++ ρ')) [] elt (g b)) (hsz : (ps.flatMap inner).length ≤ 100000)
    (hs : ∀ x, foldedSetIterable iter c.env x = pure x := by intro _; rfl) (hs2 : ∀ C s₂ X₀ x, foldedSetIterable iter2 (c.comp scope cl C s₂ X₀).env x = pure x := by intro _ _ _ _; rfl) :
    Ev c ρ ω (.ListComp elt [⟨tgt, iter, [], 0⟩, ⟨tgt2, iter2, [], 0⟩] scope pos) (.lst ((ps.flatMap inner).map g)) := by
  let its2 : Nat → List D := fun i => match ps[i]? with
    | some a => (inner a).map f2
    | none => []
  let os2 : Nat → Nat → D := fun i j => match ps[i]? with
    | some a => match (inner a)[j]? with
      | some b => g b
      | none => .none
    | none => .none
  have body : Body2 c scope cl ρ' pair tgt pair2 tgt2 iter2 elt (ps.map f) its2 os2 := .mk fun C s₂ X₀ ok' => ⟨htgt C s₂ X₀, htgt2 C s₂ X₀, fun i d hd => by
    rw [List.getElem?_map] at hd
    cases ha : ps[i]? with
    | none => rw [ha] at hd; cases hd
    | some a =>
      rw [ha] at hd; simp at hd; subst hd
      have hm := List.mem_of_getElem? ha
      have e1 : its2 i = (inner a).map f2 := by show (match ps[i]? with | some a => _ | none => _) = _; rw [ha]
      rw [e1]
      refine ⟨sub a hm, hit2 C s₂ X₀ ok' a hm, hs2 C s₂ X₀, fun j e he => ?_⟩
      rw [List.getElem?_map] at he
      cases hb : (inner a)[j]? with
      | none => rw [hb] at he; cases he
      | some b =>
        rw [hb] at he; simp at he; subst he
        have hbm := List.mem_of_getElem? hb
        have e2 : os2 i j = g b := by
          show (match ps[i]? with | some a => _ | none => _) = _
          rw [ha]
          show (match (inner a)[j]? with | some b => _ | none => _) = _
          rw [hb]
        rw [e2]
        exact ⟨sub2 a b hm hbm, helt C s₂ X₀ ok' a b hm hbm⟩⟩
  have key : ∀ i, (match ps[i]? with | some a => (inner a).map g | none => []) = (List.range (its2 i).length).flatMap fun j => [os2 i j] := fun i => by
    cases ha : ps[i]? with
    | none =>
      have e1 : its2 i = [] := by show (match ps[i]? with | some a => _ | none => _) = _; rw [ha]
      rw [e1]; rfl
    | some a =>
      have e1 : its2 i = (inner a).map f2 := by show (match ps[i]? with | some a => _ | none => _) = _; rw [ha]
      rw [e1, List.length_map]
      dsimp only
      rw [← flat_map g (inner a)]
      rw [List.flatMap_def, List.flatMap_def]
      congr 1
      apply List.map_congr_left
      intro j hj
      have hj := List.mem_range.mp hj
      show _ = [match ps[i]? with | some a => _ | none => _]
      rw [ha]
      show _ = [match (inner a)[j]? with | some b => _ | none => _]
      rw [List.getElem?_eq_getElem hj]; rfl
  have tot : ∀ (ps : List α), ((List.range ps.length).flatMap fun i => match ps[i]? with | some a => (inner a).map g | none => []) = (ps.flatMap inner).map g := fun ps => by
    induction ps with
    | nil => rfl
    | cons a ps ih =>
      rw [List.length_cons, List.range_succ_eq_map, List.flatMap_cons, List.flatMap_map]
      simp only [List.getElem?_cons_succ, List.getElem?_cons_zero]
      rw [ih, List.flatMap_cons, List.map_append]
  have fin : ((List.range (ps.map f).length).flatMap fun i => (List.range (its2 i).length).flatMap fun j => [os2 i j]) = (ps.flatMap inner).map g := by
    rw [List.length_map, ← tot ps, List.flatMap_def, List.flatMap_def]
    congr 1
    apply List.map_congr_left
    intro i _
    exact (key i).symm
  have := Ev.compG (gs := [⟨tgt2, iter2, [], 0⟩]) (pos := pos) ok co hit hcap (body.toG (iter := iter) (pos := pos)) (fun it acc env => turn_two0 elt tgt iter tgt2 iter2 scope pos it acc env) (by rw [fin, List.length_map]; exact hsz) hs
  rw [fin] at this
  exact this
end
end Mine
end

section
open PySem PySem.W PyProof.Rows PySem.Calls PySem.SeqAt
set_option maxRecDepth 100000
namespace Mine

/-! ## The law's last part -/
noncomputable def wd (n : Nat) : List UInt8 := [UInt8.ofNat (65 + n / 16), UInt8.ofNat (65 + n % 16)]
theorem wd_val {n : Nat} (h : n < 64) : 16 * (((UInt8.ofNat (65 + n / 16)).toNat : Int) - 65) + ((UInt8.ofNat (65 + n % 16)).toNat : Int) - 65 = n := by
  have h1 : (UInt8.ofNat (65 + n / 16)).toNat = 65 + n / 16 := by simp; omega
  have h2 : (UInt8.ofNat (65 + n % 16)).toNat = 65 + n % 16 := by simp; omega
  rw [h1, h2]
  omega
noncomputable def tb (f : T) : D := .lst (f.left.map encP)
noncomputable def eps0 : Int × T := (0, .leaf 0)
noncomputable def dueL (w : T) (v : Nat) : List (Int × T) := ((List.range 4).filter fun k => v.testBit k).map fun k => w.behind.getD k eps0
theorem due_mem {w s : T} {v : Nat} (hn : w.n = 4) (ht : T.Tells w s v) (q : Int × T) : q ∈ dueL w v ↔ q ∈ s.left := by
  rw [ht.left]
  unfold dueL
  rw [List.mem_map]
  constructor
  · rintro ⟨k, hk, rfl⟩
    obtain ⟨h1, h2⟩ := List.mem_filter.mp hk
    have h4 := List.mem_range.mp h1
    refine ⟨k, h4, h2, ?_⟩
    rw [List.getD_eq_getElem?_getD, List.getElem?_eq_getElem (by rw [T.behind_length, hn]; exact h4)]; rfl
  · rintro ⟨k, h4, hk, hq⟩
    refine ⟨k, List.mem_filter.mpr ⟨List.mem_range.mpr h4, hk⟩, ?_⟩
    rw [List.getD_eq_getElem?_getD, hq]; rfl

theorem nodup_once : ∀ (l : List T) (i j : Nat) (a : T), l.Nodup → i < j → l[i]? = some a → l[j]? = some a → False
  | [], _, _, _, _, _, h, _ => by simp at h
  | x :: l, 0, j + 1, a, hn, _, h1, h2 => by
    simp at h1 h2
    subst h1
    exact (List.nodup_cons.mp hn).1 (List.mem_of_getElem? h2)
  | x :: l, i + 1, j + 1, a, hn, hij, h1, h2 => by
    simp at h1 h2
    exact nodup_once l i j a (List.nodup_cons.mp hn).2 (by omega) h1 h2
structure Facts (w : T) (F : List T) (vs : List Nat) : Prop where
  fine : T.Fine 7 w
  n : w.n = 4
  small : ∀ f ∈ F, T.Small f
  nodup : F.Nodup
  len : F.length ≤ 5
  isin : ∀ f ∈ F, f = w ∨ ∃ q ∈ w.behind, q.2 = f
  closed : ∀ f ∈ F, ∀ q ∈ f.left, q.2 ∈ F
  found : ∀ q ∈ w.behind, ∃ f ∈ F, q ∈ f.left
  win : w ∈ F
  vlen : vs.length = 5
  tells : ∀ (i : Nat) (s : T) (v : Nat), (w :: w.behind.map (·.2))[i]? = some s → vs[i]? = some v → T.Tells w s v

theorem Facts.left_in {w : T} {F : List T} {vs : List Nat} (x : Facts w F vs) : ∀ f ∈ F, ∀ q ∈ f.left, q ∈ w.behind := fun f hf q hq => by
  have S := T.sound w 0 x.fine.reg
  rcases x.isin f hf with rfl | ⟨r, hr, rfl⟩
  · obtain ⟨i, _, hi⟩ := (S.left q).mp hq
    exact List.mem_of_getElem? hi
  · obtain ⟨i, hi⟩ := List.getElem?_of_mem hr
    have hfl : ∃ m, (w.spots 0).follow[i]? = some m := ⟨_, List.getElem?_eq_getElem (by rw [T.spots_length, ← T.behind_length]; exact (List.getElem?_eq_some_iff.mp hi).1)⟩
    obtain ⟨m, hm⟩ := hfl
    obtain ⟨j, _, hj⟩ := ((S.rest i r m hi hm).1 q).mp hq
    exact List.mem_of_getElem? hj
theorem Facts.state_in {w : T} {F : List T} {vs : List Nat} (x : Facts w F vs) : ∀ s ∈ w :: w.behind.map (·.2), s ∈ F := fun s hs => by
  rcases List.mem_cons.mp hs with rfl | hs
  · exact x.win
  · obtain ⟨q, hq, rfl⟩ := List.mem_map.mp hs
    obtain ⟨f, hf, hqf⟩ := x.found q hq
    exact x.closed f hf q hqf
/-- all rests that the table names -/
noncomputable def reach (F : List T) : List T := (F.flatMap T.left).map (·.2)
theorem Facts.reach_iff {w : T} {F : List T} {vs : List Nat} (x : Facts w F vs) (s : T) : s ∈ reach F ↔ s ∈ w.behind.map (·.2) := by
  unfold reach
  rw [List.mem_map, List.mem_map]
  constructor
  · rintro ⟨q, hq, rfl⟩
    obtain ⟨f, hf, hq⟩ := List.mem_flatMap.mp hq
    exact ⟨q, x.left_in f hf q hq, rfl⟩
  · rintro ⟨q, hq, rfl⟩
    obtain ⟨f, hf, hqf⟩ := x.found q hq
    exact ⟨q, List.mem_flatMap.mpr ⟨f, hf, hqf⟩, rfl⟩
theorem filter_no {α : Type} {l : List α} {q : α → Bool} (h : ∀ a ∈ l, q a = false) : l.filter q = [] := by
  rw [List.filter_eq_nil_iff]; intro a ha; rw [h a ha]; exact Bool.false_ne_true
theorem flat_len {α β : Type} (f : α → List β) (k : Nat) : ∀ l : List α, (∀ a ∈ l, (f a).length ≤ k) → (l.flatMap f).length ≤ l.length * k
  | [], _ => Nat.zero_le _
  | a :: l, h => by
    have h1 := h a (.head _)
    have h2 := flat_len f k l fun b hb => h b (.tail _ hb)
    rw [List.flatMap_cons, List.length_append, List.length_cons, Nat.add_mul]
    omega
theorem ne_nil_no {c : Cx} (ok : c.Ok) : Op2 c (compareOp .NotEq) (.lst []) (.lst []) (.bool false) := by
  have := Op2.neD (c := c) (d := .lst []) (e := .lst []) (n := 1) (m := 1) ok (.lst fun d hd => by cases hd) (.lst fun d hd => by cases hd) (by decide)
  exact this

section
variable {prog : Program} {w : World} {W : Wld}
theorem law_end (H : Known prog w W.K W.nums) {A : Around} {L f : Addr} {s₀ : Gs} {X₀ : Addr → Prop} {qual : Str} {code : Value} (ok : Cx.Ok ⟨prog, w, W, A, 40, envD (scopeOf 82) L f qual code, s₀, X₀, true⟩)
    {ρ : Vars} {t : T} {F : List T} {vs : List Nat} (x : Facts t F vs)
    (h1 : ρ.lookup ("whole" : PySem.Str) = some t.enc) (h2 : ρ.lookup ("behind" : PySem.Str) = some (.lst (t.behind.map encP))) (h3 : ρ.lookup ("flags" : PySem.Str) = some (.tup (vs.map fun v => .bytes (wd v).toArray)))
    (h4 : ρ.lookup ("found" : PySem.Str) = some (.lst (F.map T.enc))) (h5 : ρ.lookup ("table" : PySem.Str) = some (.lst (F.map tb))) :
    Xq ⟨prog, w, W, A, 40, envD (scopeOf 82) L f qual code, s₀, X₀, true⟩ ((bodyOf 82).drop 19) ρ [] (fun _ _ => False) (· = .bool true) := by
  have bl : t.behind.length = 4 := by rw [T.behind_length, x.n]
  have ll : ∀ f ∈ F, f.left.length ≤ 100 := fun f hf => Nat.le_trans (T.left_length f) (x.small f hf).n
  have fl := flat_len T.left 100 F ll
  have f5 := x.len
  have rl : (reach F).length ≤ 500 := by unfold reach; rw [List.length_map]; omega
  have sm : ∀ s ∈ reach F, s.h ≤ 20 := fun s hs => by
    rw [x.reach_iff] at hs
    exact (x.small s (x.state_in s (.tail _ hs))).h
  -- reached
  refine Xq.consAt (Xs.assign ok (d := .lst ((reach F).map T.enc)) (Ev.to (Ev.comp2 (f := tb) (inner := T.left) (f2 := encP) (g := fun q => q.2.enc) (ps := F) (pair := false) (pair2 := true) (ρ' := []) ok (CompOk.of rfl all_nil) (It.list ok (Ev.name ok h5)) .nil
    (fun C s₂ X₀ => ⟨_, _, rfl, .inl rfl, by simp⟩) (fun C s₂ X₀ => ⟨_, _, _, _, _, _, rfl, .inl rfl, .inl rfl, by simp, by simp⟩) (fun a _ => Sub.new rfl) (fun a b _ _ => (Sub.new rfl).trans (Sub.new rfl))
    (fun C s₂ X₀ ok' a ha => It.pairs ok' (Ev.name ok' rfl) fun d hd => by obtain ⟨q, _, rfl⟩ := List.mem_map.mp hd; exact ⟨_, _, rfl⟩) (fun C s₂ X₀ ok' a b _ _ => Ev.name ok' rfl) (by omega)) (by unfold reach; rw [List.map_map]; rfl)) (.inr ⟨rfl, rfl, rfl⟩) (by simp) rfl) ?_
  -- states
  refine Xq.consAt (Xs.assign ok (d := .lst ((t :: t.behind.map (·.2)).map T.enc)) (Ev.to (Ev.bin (Ev.lis (Evs.one (Ev.name (d := t.enc) ok ?a1))) (Ev.compMap (f := encP) (g := fun q => q.2.enc) (ps := t.behind) (pair := true) (ρ' := []) ok (CompOk.of rfl all_nil) (It.pairs (ds := t.behind.map encP) ok (Ev.name ok ?a2) ?a3) .nil
    (fun C s₂ X₀ => ⟨_, _, _, _, _, _, rfl, .inl rfl, .inl rfl, by simp, by simp⟩) (fun a _ => (Sub.new rfl).trans (Sub.new rfl)) (fun C s₂ X₀ ok' a _ => Ev.name ok' rfl) (by omega)) (Op2.cat (by simp; omega))) (by simp)) (.inr ⟨rfl, rfl, rfl⟩) (by simp) rfl) ?_
  case a1 => exact h1
  case a2 => exact h2
  case a3 =>
    intro d hd
    obtain ⟨q, _, rfl⟩ := List.mem_map.mp hd
    exact ⟨_, _, rfl⟩
  have pk : pickD ((t :: t.behind.map (·.2)).map T.enc) (some (1 : Int)) none = (t.behind.map (·.2)).map T.enc := pick_drop (l := (t :: t.behind.map (·.2)).map T.enc) 1 (by simp)
  have sl : (t.behind.map (·.2)).length = 4 := by rw [List.length_map, bl]
  have sth : ∀ s ∈ t.behind.map (·.2), s.h ≤ 20 := fun s hs => (x.small s (x.state_in s (.tail _ hs))).h
  -- check 1
  have z1 : ((t.behind.map (·.2)).filter fun s => decide (s ∉ reach F)) = [] := filter_no fun s hs => by
    have := (x.reach_iff s).mpr hs
    simp [this]
  refine Xq.skipB (Tr.cmp (Ev.to (Ev.compFilter (f := T.enc) (g := T.enc) (q := fun s => decide (s ∉ reach F)) (ps := t.behind.map (·.2)) (pair := false) ok (CompOk.of rfl (all_cons rfl all_nil)) (It.list ok (Ev.to (Ev.slice (ds := (t :: t.behind.map (·.2)).map T.enc) (lo := some 1) (hi := none) (Ev.name ok rfl) (.some (h := .s) Ev.int) .none (by simp; omega)) (congrArg D.lst pk))) (.var (x := "reached") rfl rfl rfl rfl rfl .nil)
    (fun C s₂ X₀ => ⟨_, _, rfl, .inl rfl, by simp⟩) (fun a _ => Sub.new rfl) (fun C s₂ X₀ ok' s hs => ?b1) (fun C s₂ X₀ ok' a _ _ => Ev.name ok' rfl) (by omega)) (congrArg (fun l => D.lst (l.map T.enc)) z1)) (Ev.lis Evs.nil) (ne_nil_no ok)) rfl ?_
  case b1 =>
    refine (Tr.not (Tr.of (Ev.fn (c_contains H (enc_num s) (lst_num' sm) ?_) ok' rfl (Evs.cons (Ev.name ok' rfl) (Evs.one (Ev.name ok' rfl))) (by show 1 ≤ 40; decide)) Truth.bool)).to ?_
    · have := sth s hs; omega
    · rw [any_enc]; simp
  -- check 2
  have z2 : ((reach F).filter fun s => decide (s ∉ t.behind.map (·.2))) = [] := filter_no fun s hs => by
    have := (x.reach_iff s).mp hs
    simp only [decide_eq_false_iff_not, Classical.not_not]
    exact this
  refine Xq.skipB (Tr.cmp (Ev.to (Ev.compFilter (f := T.enc) (g := T.enc) (q := fun s => decide (s ∉ t.behind.map (·.2))) (ps := reach F) (pair := false) ok (CompOk.of rfl (all_cons rfl all_nil)) (It.list ok (Ev.name ok rfl)) (.var (x := "states") rfl rfl rfl rfl rfl .nil)
    (fun C s₂ X₀ => ⟨_, _, rfl, .inl rfl, by simp⟩) (fun a _ => Sub.new rfl) (fun C s₂ X₀ ok' s hs => ?b2) (fun C s₂ X₀ ok' a _ _ => Ev.name ok' rfl) (by omega)) (congrArg (fun l => D.lst (l.map T.enc)) z2)) (Ev.lis Evs.nil) (ne_nil_no ok)) rfl ?_
  case b2 =>
    refine (Tr.not (Tr.of (Ev.fn (c_contains H (enc_num s) (lst_num' sth) ?_) ok' rfl (Evs.cons (Ev.to (Ev.slice (ds := (t :: t.behind.map (·.2)).map T.enc) (lo := some 1) (hi := none) (Ev.name ok' rfl) (.some (h := .s) Ev.int) .none (by simp; omega)) (congrArg D.lst pk)) (Evs.one (Ev.name ok' rfl))) (by show 1 ≤ 40; decide)) Truth.bool)).to ?_
    · have := sm s hs; omega
    · rw [any_enc]; simp
  -- for state, word in zip(states, flags)
  have zl : ((t :: t.behind.map (·.2)).map T.enc).length = (vs.map fun v => D.bytes (wd v).toArray).length := by simp [bl, x.vlen]
  refine Xq.cons (P' := fun ρ' ω' => ω' = []) (Xs.for ok (It.zip ok (n_zip H rfl) (Ev.name ok rfl) (Ev.name ok ?g1) zl)
    (fun i ρ' ω' => ω' = [] ∧ ρ'.lookup ("behind" : PySem.Str) = some (.lst (t.behind.map encP)) ∧ ρ'.lookup ("found" : PySem.Str) = some (.lst (F.map T.enc)) ∧ ρ'.lookup ("table" : PySem.Str) = some (.lst (F.map tb)))
    (fun i ρ' ω' inv => ?g2) ⟨rfl, h2, h4, h5⟩ (fun i z ρ' ω' hz inv => ?turn) fun ρ' ω' inv => Xq.nil inv.1) fun ρ' ω' inv => ?g3
  case g1 => exact h3
  case g2 =>
    obtain ⟨rfl, _⟩ := inv
    exact ⟨_, _, _, _, _, _, rfl, .inl rfl, .inl rfl, by simp, by simp⟩
  case g3 =>
    subst inv
    exact Xq.ret Ev.cbool rfl
  case turn =>
    obtain ⟨rfl, k1, k2, k3⟩ := inv
    obtain ⟨d1, d2, hd1, hd2, rfl⟩ := zipD_get hz
    rw [List.getElem?_map] at hd1 hd2
    cases hs : (t :: t.behind.map (·.2))[i]? with
    | none => rw [hs] at hd1; cases hd1
    | some s => cases hv : vs[i]? with
      | none => rw [hv] at hd2; cases hd2
      | some v =>
        rw [hs] at hd1; rw [hv] at hd2
        simp at hd1 hd2
        subst hd1; subst hd2
        have tl := x.tells i s v hs hv
        have lo := tl.lo
        have hi := tl.hi
        have hsF : s ∈ F := x.state_in s (List.mem_of_getElem? hs)
        obtain ⟨p, hp⟩ := List.getElem?_of_mem hsF
        have hpl := (List.getElem?_eq_some_iff.mp hp).1
        have sS := x.small s hsF
        have dm := due_mem x.n tl
        have dlen : (dueL t v).length ≤ 4 := by
          unfold dueL
          rw [List.length_map]
          exact Nat.le_trans (List.length_filter_le ..) (by simp)
        have lfh : ∀ q ∈ s.left, q.2.h ≤ 40 := fun q hq => by have := T.left_h s q hq; have := sS.h; omega
        have dh : ∀ q ∈ dueL t v, q.2.h ≤ 40 := fun q hq => lfh q ((dm q).mp hq)
        have sll := ll s hsF
        -- value
        refine Xq.consAt (Xs.assign ok (d := solN v) (Ev.to (Ev.bin (Ev.bin (Ev.bin Ev.int (Ev.bin (Ev.item_bytes (b := wd v) (i := 0) (hdi := .s) (y := UInt8.ofNat (65 + v / 16)) (Ev.name ok rfl) Ev.int (by decide) rfl (by show 2 ≤ 100000; decide)) Ev.int (Op2.sub (hd := .i) (he := .s))) (Op2.mul (hd := .s) (he := .s) ?m1)) (Ev.item_bytes (b := wd v) (i := 1) (hdi := .s) (y := UInt8.ofNat (65 + v % 16)) (Ev.name ok rfl) Ev.int (by decide) rfl (by show 2 ≤ 100000; decide)) (Op2.add (hd := .s) (he := .i))) Ev.int (Op2.sub (hd := .s) (he := .s))) (congrArg D.sol (wd_val hi))) (.inr ⟨rfl, rfl, rfl⟩) (by simp) rfl) ?_
        case m1 => exact IntMulOk.of_left (by decide +kernel)
        -- due
        refine Xq.consAt (Xs.assign ok (d := .lst ((dueL t v).map encP)) (Ev.to (Ev.compFilter (f := fun k : Nat => .int (k : Nat)) (g := fun k => encP (t.behind.getD k eps0)) (q := fun k => v.testBit k) (ps := List.range 4) (pair := false) ok (CompOk.of rfl (all_cons rfl (all_cons rfl all_nil))) (It.range (m := (4 : Int)) (n := 4) ok (n_range H rfl) Ev.int rfl (by decide)) (.var (x := "value") rfl rfl rfl rfl rfl (.var (x := "behind") k1 rfl rfl rfl rfl .nil))
          (fun C s₂ X₀ => ⟨_, _, rfl, .inl rfl, by simp⟩) (fun a _ => Sub.new rfl) (fun C s₂ X₀ ok' k hk => ?t1) (fun C s₂ X₀ ok' k hk _ => ?t2) (by simp)) (by unfold dueL; rw [List.map_map]; rfl)) (.inr ⟨rfl, rfl, rfl⟩) (by simp) rfl) ?_
        case t1 =>
          have hk4 := List.mem_range.mp hk
          refine Tr.to (Tr.of (Ev.fn (c_andN H (a := v) (b := 2 ^ k)) ok' rfl (Evs.cons (Ev.name ok' rfl) (Evs.one (Ev.fn (c_shl1 H (k := k) (d := .sol 1) (e := .int (k : Nat)) (by omega)) ok' rfl (Evs.cons Ev.int (Evs.one (Ev.name ok' rfl))) (by show 1 ≤ 40; decide)))) (by show 1 ≤ 40; decide)) Truth.int) (and_pow v k)
        case t2 =>
          have hk4 := List.mem_range.mp hk
          have hb : (t.behind.map encP)[((k : Nat) : Int).toNat]? = some (encP (t.behind.getD k eps0)) := by
            rw [Int.toNat_natCast, List.getElem?_map, List.getD_eq_getElem?_getD, List.getElem?_eq_getElem (by omega)]; rfl
          exact Ev.item_lst (hdi := .i) (Ev.name ok' rfl) (Ev.name ok' rfl) (by omega) hb (by omega)
        -- got
        have hix : Fun prog w W 1 "indexOf" [.lst (F.map T.enc), s.enc] (.int p) := by
          refine c_indexOf H (n := 21) (fun z hz => ?_) (enc_sol s) (fun z hz => ?_) ((enc_num s).more (by have := sS.h; omega)) (by decide) (by rw [enc_eqv]; simp) ⟨s.enc, by rw [List.getElem?_map, hp]; rfl, by rw [enc_eqv]; simp⟩ fun i z hi hz => ?_
          · obtain ⟨q, _, rfl⟩ := List.mem_map.mp hz; exact enc_sol q
          · obtain ⟨q, hq, rfl⟩ := List.mem_map.mp hz
            exact (enc_num q).more (by have := (x.small q hq).h; omega)
          · rw [List.getElem?_map] at hz
            cases hq : F[i]? with
            | none => rw [hq] at hz; cases hz
            | some q =>
              rw [hq] at hz; simp at hz; subst hz
              rw [enc_eqv]
              refine decide_eq_false fun e => ?_
              subst e
              exact nodup_once F i p q x.nodup hi hq hp
        have htb : (F.map tb)[((p : Nat) : Int).toNat]? = some (tb s) := by rw [Int.toNat_natCast, List.getElem?_map, hp]; rfl
        refine Xq.consAt (Xs.assign ok (d := .lst (s.left.map encP)) (Ev.item_lst (d := tb s) (ds := F.map tb) (hdi := .i) (Ev.name ok ?n1) (Ev.fn hix ok rfl (Evs.cons (Ev.name ok ?n2) (Evs.one (Ev.name ok rfl))) (by show 1 ≤ 40; decide)) (by omega) htb (by omega)) (.inr ⟨rfl, rfl, rfl⟩) (by simp) rfl) ?_
        case n1 => exact k3
        case n2 => exact k2
        -- due within got
        have z3 : ((dueL t v).filter fun q => decide (q ∉ s.left)) = [] := filter_no fun q hq => by
          have := (dm q).mp hq; simp [this]
        refine Xq.skipB (Tr.cmp (Ev.to (Ev.compFilter (f := encP) (g := encP) (q := fun q => decide (q ∉ s.left)) (ps := dueL t v) (pair := false) ok (CompOk.of rfl (all_cons rfl all_nil)) (It.list ok (Ev.name ok rfl)) (.var (x := "got") rfl rfl rfl rfl rfl .nil)
          (fun C s₂ X₀ => ⟨_, _, rfl, .inl rfl, by simp⟩) (fun a _ => Sub.new rfl) (fun C s₂ X₀ ok' q hq => ?b3) (fun C s₂ X₀ ok' a _ _ => Ev.name ok' rfl) (by omega)) (congrArg (fun l => D.lst (l.map encP)) z3)) (Ev.lis Evs.nil) (ne_nil_no ok)) rfl ?_
        case b3 =>
          refine (Tr.not (Tr.of (Ev.fn (c_contains H (encP_num q) (lst_num lfh) ?_) ok' rfl (Evs.cons (Ev.name ok' rfl) (Evs.one (Ev.name ok' rfl))) (by show 1 ≤ 40; decide)) Truth.bool)).to ?_
          · have := dh q hq; omega
          · rw [any_encP]; simp
        -- got within due
        have z4 : (s.left.filter fun q => decide (q ∉ dueL t v)) = [] := filter_no fun q hq => by
          have := (dm q).mpr hq; simp [this]
        refine Xq.skipB (Tr.cmp (Ev.to (Ev.compFilter (f := encP) (g := encP) (q := fun q => decide (q ∉ dueL t v)) (ps := s.left) (pair := false) ok (CompOk.of rfl (all_cons rfl all_nil)) (It.list ok (Ev.name ok rfl)) (.var (x := "due") rfl rfl rfl rfl rfl .nil)
          (fun C s₂ X₀ => ⟨_, _, rfl, .inl rfl, by simp⟩) (fun a _ => Sub.new rfl) (fun C s₂ X₀ ok' q hq => ?b4) (fun C s₂ X₀ ok' a _ _ => Ev.name ok' rfl) (by omega)) (congrArg (fun l => D.lst (l.map encP)) z4)) (Ev.lis Evs.nil) (ne_nil_no ok)) rfl ?_
        case b4 =>
          refine (Tr.not (Tr.of (Ev.fn (c_contains H (encP_num q) (lst_num dh) ?_) ok' rfl (Evs.cons (Ev.name ok' rfl) (Evs.one (Ev.name ok' rfl))) (by show 1 ≤ 40; decide)) Truth.bool)).to ?_
          · have := lfh q hq; omega
          · rw [any_encP]; simp
        -- empty
        refine Xq.skipB (Tr.cmp (Ev.fn (c_empty H s sS.ok) ok rfl (Evs.one (Ev.name ok rfl)) (by show s.h + 2 ≤ 40; have := sS.h; omega)) (Ev.cmp (Ev.name ok rfl) Ev.int (Op2.ge (a := (v : Int)) (hd := .s) (he := .s))) Op2.neBool) ?_ (Xq.nil ⟨rfl, k1, k2, k3⟩)
        rw [tl.empty]
        have : decide (48 ≤ v) = decide ((48 : Int) ≤ (v : Int)) := by
          rw [Bool.eq_iff_iff, decide_eq_true_iff, decide_eq_true_iff]; omega
        rw [this]
        simp
end
end Mine
end

section
open PySem PySem.W PyProof.Rows PySem.Calls PySem.SeqAt
set_option maxRecDepth 100000
namespace Mine

theorem facts_run {t : T} (hf : T.Fine 7 t) (hn : t.n = 4) : Facts t (T.run t 5) (T.told (t.spots 0)) where
  fine := hf
  n := hn
  small := T.run_small hf hn 5
  nodup := T.run_nodup t 5
  len := T.run_len hf.reg hn 5
  isin := T.run_in hf.reg 5
  closed := T.run_closed hf.reg hn
  found := T.all_found hf.reg hn
  win := T.w_in 5
  vlen := by rw [T.told_length, T.spots_length, hn]
  tells := T.tells hf.reg hn

theorem grow_snoc (fs : List T) (l : List (Int × T)) (p : Int × T) : T.grow fs (l ++ [p]) = if p.2 ∈ T.grow fs l then T.grow fs l else T.grow fs l ++ [p.2] := by
  unfold T.grow
  rw [List.foldl_append]; rfl
theorem grow_len (fs : List T) : ∀ l : List (Int × T), (T.grow fs l).length ≤ fs.length + l.length := fun l => by
  induction l generalizing fs with
  | nil => exact Nat.le_refl _
  | cons p l ih =>
    show (T.grow (if p.2 ∈ fs then fs else fs ++ [p.2]) l).length ≤ _
    rw [List.length_cons]
    by_cases h : p.2 ∈ fs
    · rw [if_pos h]
      have := ih fs
      omega
    · rw [if_neg h]
      have := ih (fs ++ [p.2])
      rw [List.length_append, List.length_singleton] at this
      omega

section
variable {prog : Program} {w : World} {W : Wld}
theorem law_mid (H : Known prog w W.K W.nums) {A : Around} {L f : Addr} {s₀ : Gs} {X₀ : Addr → Prop} {qual : Str} {code : Value} (ok : Cx.Ok ⟨prog, w, W, A, 40, envD (scopeOf 82) L f qual code, s₀, X₀, true⟩)
    {t : T} (hf : T.Fine 7 t) (hn : t.n = 4) {fl : D} (hfl : fl = .tup ((T.told (t.spots 0)).map fun v => .bytes (wd v).toArray)) :
    Xq ⟨prog, w, W, A, 40, envD (scopeOf 82) L f qual code, s₀, X₀, true⟩ ((bodyOf 82).drop 16) [("whole", t.enc), ("behind", .lst (t.behind.map encP)), ("flags", fl)] [] (fun _ _ => False) (· = .bool true) := by
  refine Xq.new ok (Evs.one (Ev.name ok rfl)) (.inl rfl) (by simp) rfl (by simp) fun a1 => ?_
  refine Xq.new ok Evs.nil (.inl rfl) (by show _ ∉ [("found" : PySem.Str)]; decide) rfl (by simp) fun a2 => ?_
  refine Xq.cons (P' := fun ρ' ω' => ω' = [(("table" : PySem.Str), a2, (T.run t 5).map tb), (("found" : PySem.Str), a1, (T.run t 5).map T.enc)] ∧ ρ'.lookup ("whole" : PySem.Str) = some t.enc ∧ ρ'.lookup ("behind" : PySem.Str) = some (.lst (t.behind.map encP)) ∧ ρ'.lookup ("flags" : PySem.Str) = some fl)
    (Xs.for ok (It.range (m := (5 : Int)) (n := 5) ok (n_range H rfl) Ev.int rfl (by decide))
    (fun i ρ' ω' => ω' = [(("table" : PySem.Str), a2, ((T.run t i).take i).map tb), (("found" : PySem.Str), a1, (T.run t i).map T.enc)] ∧ ρ'.lookup ("whole" : PySem.Str) = some t.enc ∧ ρ'.lookup ("behind" : PySem.Str) = some (.lst (t.behind.map encP)) ∧ ρ'.lookup ("flags" : PySem.Str) = some fl)
    (fun i ρ' ω' inv => ?tgt) ⟨rfl, rfl, rfl, rfl⟩ (fun i z ρ' ω' hz inv => ?turn) fun ρ' ω' inv => Xq.nil ?fin) fun ρ' ω' inv => ?rest
  case tgt =>
    obtain ⟨rfl, _⟩ := inv
    exact ⟨_, _, rfl, .inl rfl, by show _ ∉ [("table" : PySem.Str), ("found" : PySem.Str)]; decide⟩
  case fin =>
    rw [rangeD_length] at inv
    have : (T.run t 5).take 5 = T.run t 5 := List.take_of_length_le (T.run_len hf.reg hn 5)
    rw [this] at inv
    exact inv
  case rest =>
    obtain ⟨rfl, h1, h2, h3⟩ := inv
    refine Xq.freeze (Xq.freeze ?_)
    exact law_end H ok (facts_run hf hn) h1 h2 (hfl ▸ h3) rfl rfl
  case turn =>
    obtain ⟨rfl, h1, h2, h3⟩ := inv
    obtain ⟨hi, rfl⟩ := rangeD_get hz
    have rl := T.run_len hf.reg hn i
    have sm := T.run_small hf hn i
    have sm' := T.run_small hf hn (i + 1)
    refine Xq.cons (P' := fun ρ' ω' => ω' = [(("table" : PySem.Str), a2, ((T.run t (i + 1)).take (i + 1)).map tb), (("found" : PySem.Str), a1, (T.run t (i + 1)).map T.enc)] ∧ ρ'.lookup ("whole" : PySem.Str) = some t.enc ∧ ρ'.lookup ("behind" : PySem.Str) = some (.lst (t.behind.map encP)) ∧ ρ'.lookup ("flags" : PySem.Str) = some fl)
      (Xs.ite (Tr.cmp (Ev.name ok rfl) (Ev.borrow2 (Ev.len_lst ok (n_len H rfl) (Ev.name ok rfl) (by rw [List.length_map]; omega)) rfl) (Op2.lt (hd := .i) (he := .i))) (fun q => ?yes) fun q => Xq.nil ?no) fun ρ' ω' inv => Xq.nil inv
    case no =>
      rw [List.length_map] at q
      have q := of_decide_eq_false q
      have hno : (T.run t i)[i]? = none := List.getElem?_eq_none (by omega)
      rw [T.run_none hno, List.take_of_length_le (by omega), List.take_of_length_le (by omega)]
      exact ⟨rfl, h1, h2, h3⟩
    case yes =>
      rw [List.length_map] at q
      have q := of_decide_eq_true q
      have hil : i < (T.run t i).length := by omega
      obtain ⟨g, hg⟩ : ∃ g, (T.run t i)[i]? = some g := ⟨_, List.getElem?_eq_getElem hil⟩
      have gs := sm g (List.mem_of_getElem? hg)
      have e1 := T.run_some hg
      have e2 : (T.run t (i + 1)).take (i + 1) = (T.run t i).take i ++ [g] := by
        obtain ⟨r, hr⟩ := T.run_prefix t i
        rw [← hr, List.take_append_of_le_length (by omega), List.take_add_one, hg]; rfl
      have tl : ((T.run t i).take i).length = i := by rw [List.length_take]; omega
      have hge : ((T.run t i).map T.enc)[((i : Nat) : Int).toNat]? = some g.enc := by rw [Int.toNat_natCast, List.getElem?_map, hg]; rfl
      refine Xq.consAt (Xs.append (ω₁ := []) (ω₂ := [(("found" : PySem.Str), a1, (T.run t i).map T.enc)]) (d := tb g) ok (EvX.pure (Ev.fn (c_left H g gs.ok (by have := gs.n; omega) (by have := gs.h; omega)) ok rfl (Evs.one (Ev.item_own (hdi := .i) ok (.tail _ (.head _)) (Ev.name ok rfl) (by omega) hge (by omega))) (by show g.h + 3 ≤ 40; have := gs.h; omega))) (by rw [List.length_map]; omega)) ?_
      have htb : (((T.run t i).take i).map tb ++ [tb g])[((i : Nat) : Int).toNat]? = some (tb g) := by
        rw [Int.toNat_natCast, List.getElem?_append_right (by rw [List.length_map]; omega), List.length_map, tl, Nat.sub_self]; rfl
      have gl := Nat.le_trans (T.left_length g) gs.n
      refine Xq.cons (P' := fun ρ' ω' => ω' = [(("table" : PySem.Str), a2, ((T.run t (i + 1)).take (i + 1)).map tb), (("found" : PySem.Str), a1, (T.run t (i + 1)).map T.enc)] ∧ ρ'.lookup ("whole" : PySem.Str) = some t.enc ∧ ρ'.lookup ("behind" : PySem.Str) = some (.lst (t.behind.map encP)) ∧ ρ'.lookup ("flags" : PySem.Str) = some fl)
        (Xs.for (its := g.left.map encP) ok (It.pairs ok (Ev.item_own (hdi := .i) ok (.head _) (Ev.name ok rfl) (by omega) htb (by omega)) ?prs)
        (fun j ρ' ω' => ω' = [(("table" : PySem.Str), a2, ((T.run t i).take i).map tb ++ [tb g]), (("found" : PySem.Str), a1, (T.grow (T.run t i) (g.left.take j)).map T.enc)] ∧ ρ'.lookup ("whole" : PySem.Str) = some t.enc ∧ ρ'.lookup ("behind" : PySem.Str) = some (.lst (t.behind.map encP)) ∧ ρ'.lookup ("flags" : PySem.Str) = some fl)
        (fun j ρ' ω' inv => ?tgt2) ⟨rfl, h1, h2, h3⟩ (fun j z ρ' ω' hz inv => ?turn2) fun ρ' ω' inv => Xq.nil ?fin2) fun ρ' ω' inv => Xq.nil inv
      case prs =>
        intro d hd
        obtain ⟨p, _, rfl⟩ := List.mem_map.mp hd
        exact ⟨_, _, rfl⟩
      case tgt2 =>
        obtain ⟨rfl, _⟩ := inv
        exact ⟨_, _, _, _, _, _, rfl, .inl rfl, .inl rfl, by show _ ∉ [("table" : PySem.Str), ("found" : PySem.Str)]; decide, by show _ ∉ [("table" : PySem.Str), ("found" : PySem.Str)]; decide⟩
      case fin2 =>
        rw [List.length_map, List.take_length] at inv
        rw [e2, e1, List.map_append]
        exact inv
      case turn2 =>
        obtain ⟨rfl, h1, h2, h3⟩ := inv
        rw [List.getElem?_map] at hz
        cases hq : g.left[j]? with
        | none => rw [hq] at hz; cases hz
        | some p =>
          rw [hq] at hz; simp at hz; subst hz
          have hjl := (List.getElem?_eq_some_iff.mp hq).1
          have es : T.grow (T.run t i) (g.left.take (j + 1)) = if p.2 ∈ T.grow (T.run t i) (g.left.take j) then T.grow (T.run t i) (g.left.take j) else T.grow (T.run t i) (g.left.take j) ++ [p.2] := by
            rw [List.take_add_one, hq]; exact grow_snoc _ _ _
          have glen := grow_len (T.run t i) (g.left.take j)
          have tj : (g.left.take j).length ≤ j := by rw [List.length_take]; omega
          have sj : ∀ x ∈ T.grow (T.run t i) (g.left.take j), x.h ≤ 20 := fun x hx => by
            refine (sm' x ?_).h
            rw [e1, T.grow_mem]
            rw [T.grow_mem] at hx
            exact hx.imp id fun ⟨r, hr, e⟩ => ⟨r, List.mem_of_mem_take hr, e⟩
          have ph : p.2.h ≤ 20 := (sm' p.2 (by rw [e1, T.grow_mem]; exact .inr ⟨p, List.mem_of_getElem? hq, rfl⟩)).h
          generalize hG : T.grow (T.run t i) (g.left.take j) = G at *
          refine Xq.cons (P' := fun ρ' ω' => ω' = [(("table" : PySem.Str), a2, ((T.run t i).take i).map tb ++ [tb g]), (("found" : PySem.Str), a1, (T.grow (T.run t i) (g.left.take (j + 1))).map T.enc)] ∧ ρ'.lookup ("whole" : PySem.Str) = some t.enc ∧ ρ'.lookup ("behind" : PySem.Str) = some (.lst (t.behind.map encP)) ∧ ρ'.lookup ("flags" : PySem.Str) = some fl)
            (Xs.ite (Tr.to (Tr.borrow2 (Tr.not (Tr.of (Ev.fn (c_contains H (enc_num p.2) (lst_num' sj) (by omega)) ok rfl (Evs.cons (Ev.name ok rfl) (Evs.one (Ev.name ok rfl))) (by show 1 ≤ 40; decide)) Truth.bool))) (congrArg (fun b => !b) (any_enc G p.2))) (fun q => ?add) fun q => Xq.nil ?keep) fun ρ' ω' inv => Xq.nil inv
          case keep =>
            have q : p.2 ∈ G := by simpa using q
            rw [es, if_pos q]
            exact ⟨rfl, h1, h2, h3⟩
          case add =>
            have q : p.2 ∉ G := by simpa using q
            rw [es, if_neg q]
            refine Xq.cons (Xs.append (ω₁ := [(("table" : PySem.Str), a2, ((T.run t i).take i).map tb ++ [tb g])]) (ω₂ := []) ok (EvX.pure (Ev.name ok rfl)) (by rw [List.length_map]; omega)) fun ρ' ω' e => Xq.nil ?_
            obtain ⟨rfl, rfl⟩ := e
            rw [List.map_append]
            exact ⟨rfl, h1, h2, h3⟩
end
end Mine
end

section
open PySem PySem.W PyProof.Rows PySem.Calls PySem.SeqAt
set_option maxRecDepth 100000
namespace Mine
open PySem.Builtin

/-! ## The words, joined and parted -/
theorem wd_is {n : Nat} (h0 : 32 ≤ n) (h1 : n < 64) : apn 6 n = wd n := by
  have : ∀ n : Fin 64, 32 ≤ n.val → apn 6 n.val = wd n.val := by decide +kernel
  exact this ⟨n, h1⟩ h0
theorem wd_no {n : Nat} (h1 : n < 64) : ∀ x ∈ wd n, x ≠ 10 ∧ x ≠ 40 ∧ x ≠ 41 ∧ Bytes.isSpace x = false := by
  have : ∀ n : Fin 64, ∀ x ∈ wd n.val, x ≠ 10 ∧ x ≠ 40 ∧ x ≠ 41 ∧ Bytes.isSpace x = false := by decide +kernel
  exact this ⟨n, h1⟩
/-- words with blanks between -/
noncomputable def jw : List Nat → List UInt8
  | [] => []
  | [v] => wd v
  | v :: u :: r => wd v ++ 32 :: jw (u :: r)
theorem jw_length : ∀ vs : List Nat, (jw vs).length ≤ 3 * vs.length
  | [] => Nat.le_refl _
  | [v] => by show 2 ≤ 3; decide
  | v :: u :: r => by
    have := jw_length (u :: r)
    rw [jw, List.length_append, List.length_cons, List.length_cons]
    have e : (wd v).length = 2 := rfl
    rw [e]
    simp at this ⊢
    omega
theorem jw_mem : ∀ (vs : List Nat) (x : UInt8), x ∈ jw vs → x = 32 ∨ ∃ v ∈ vs, x ∈ wd v
  | [], x, h => by cases h
  | [v], x, h => .inr ⟨v, .head _, h⟩
  | v :: u :: r, x, h => by
    rw [jw] at h
    rcases List.mem_append.mp h with h | h
    · exact .inr ⟨v, .head _, h⟩
    · rcases List.mem_cons.mp h with h | h
      · exact .inl h
      · rcases jw_mem (u :: r) x h with h | ⟨z, hz, h⟩
        · exact .inl h
        · exact .inr ⟨z, .tail _ hz, h⟩
theorem jw_no {vs : List Nat} (h : ∀ v ∈ vs, v < 64) : 10 ∉ jw vs ∧ 40 ∉ jw vs ∧ 41 ∉ jw vs := by
  refine ⟨fun q => ?_, fun q => ?_, fun q => ?_⟩
  · rcases jw_mem vs _ q with e | ⟨v, hv, e⟩
    · exact absurd e (by decide)
    · exact (wd_no (h v hv) _ e).1 rfl
  · rcases jw_mem vs _ q with e | ⟨v, hv, e⟩
    · exact absurd e (by decide)
    · exact (wd_no (h v hv) _ e).2.1 rfl
  · rcases jw_mem vs _ q with e | ⟨v, hv, e⟩
    · exact absurd e (by decide)
    · exact (wd_no (h v hv) _ e).2.2.1 rfl
theorem words_step {v : Nat} (hv : v < 64) (f l : Nat) (r : List UInt8) (hr : r = [] ∨ ∃ r', r = 32 :: r') : Bytes.words (f + 1) (l + 1) (wd v ++ r) = wd v :: Bytes.words f l r := by
  have n1 := (wd_no hv _ (.head _)).2.2.2
  have n2 := (wd_no hv _ (.tail _ (.head _))).2.2.2
  have d1 : (wd v ++ r).dropWhile Bytes.isSpace = wd v ++ r := by
    show (UInt8.ofNat (65 + v / 16) :: (UInt8.ofNat (65 + v % 16) :: r)).dropWhile _ = _
    rw [List.dropWhile_cons, if_neg (by rw [n1]; exact Bool.false_ne_true)]; rfl
  rw [Bytes.words, d1]
  have ht : (wd v ++ r).takeWhile (fun x => !Bytes.isSpace x) = wd v := by
    show (UInt8.ofNat (65 + v / 16) :: (UInt8.ofNat (65 + v % 16) :: r)).takeWhile _ = _
    rw [List.takeWhile_cons, if_pos (by rw [n1]; rfl), List.takeWhile_cons, if_pos (by rw [n2]; rfl)]
    rcases hr with rfl | ⟨r', rfl⟩
    · rfl
    · rw [List.takeWhile_cons, if_neg (by decide)]; rfl
  have hd : (wd v ++ r).dropWhile (fun x => !Bytes.isSpace x) = r := by
    show (UInt8.ofNat (65 + v / 16) :: (UInt8.ofNat (65 + v % 16) :: r)).dropWhile _ = _
    rw [List.dropWhile_cons, if_pos (by rw [n1]; rfl), List.dropWhile_cons, if_pos (by rw [n2]; rfl)]
    rcases hr with rfl | ⟨r', rfl⟩
    · rfl
    · rw [List.dropWhile_cons, if_neg (by decide)]
  show (match wd v ++ r with | [] => [] | rest => if (l + 1 == 0) = true then [rest] else rest.takeWhile (!Bytes.isSpace ·) :: Bytes.words f (l + 1 - 1) (rest.dropWhile (!Bytes.isSpace ·))) = _
  rw [show wd v ++ r = UInt8.ofNat (65 + v / 16) :: (UInt8.ofNat (65 + v % 16) :: r) from rfl] at ht hd ⊢
  dsimp only
  rw [ht, hd]
  rfl
theorem words_blank (f l : Nat) (r : List UInt8) : Bytes.words f l (32 :: r) = Bytes.words f l r := by
  cases f with
  | zero => rfl
  | succ f =>
    rw [Bytes.words, Bytes.words]
    have : (32 :: r).dropWhile Bytes.isSpace = r.dropWhile Bytes.isSpace := by
      rw [List.dropWhile_cons, if_pos (by decide)]
    rw [this]
theorem words_jw : ∀ (vs : List Nat) (f l : Nat), (∀ v ∈ vs, v < 64) → vs.length < f → vs.length < l → Bytes.words f l (jw vs) = vs.map wd
  | [], f + 1, l, _, _, _ => rfl
  | [v], f + 1, l + 1, h, hf, _ => by
    have := words_step (h v (.head _)) f l [] (.inl rfl)
    rw [List.append_nil] at this
    rw [jw, this]
    obtain ⟨f, rfl⟩ : ∃ f', f = f' + 1 := ⟨f - 1, by simp at hf; omega⟩
    rfl
  | v :: u :: r, f + 1, l + 1, h, hf, hl => by
    rw [jw, words_step (h v (.head _)) f l _ (.inr ⟨_, rfl⟩), words_blank, words_jw (u :: r) f l (fun x hx => h x (.tail _ hx)) (by simp at hf ⊢; omega) (by simp at hl ⊢; omega)]
    rfl
theorem wordsB_jw (vs : List Nat) (h : ∀ v ∈ vs, v < 64) : wordsB (jw vs).toArray = vs.map fun v => (wd v).toArray := by
  unfold wordsB
  have hl : vs.length ≤ (jw vs).length := by
    clear h
    induction vs with
    | nil => exact Nat.le_refl _
    | cons v r ih => cases r with
      | nil => show 1 ≤ 2; decide
      | cons u r =>
        have e : (wd v).length = 2 := rfl
        have e2 : (32 :: jw (u :: r)).length = (jw (u :: r)).length + 1 := rfl
        have e3 : (v :: u :: r).length = (u :: r).length + 1 := rfl
        rw [jw, List.length_append]
        omega
  show (Bytes.words ((jw vs).toArray.size + 1) ((jw vs).toArray.size + 1) (jw vs)).map _ = _
  rw [List.size_toArray, words_jw vs _ _ h (by omega) (by omega), List.map_map]
  rfl
theorem joined_jw (vs : List Nat) : Bytes.joined #[32] (vs.map fun v => (wd v).toArray) = (jw vs).toArray := by
  unfold Bytes.joined
  have gen : ∀ (vs : List Nat) (k : Nat) (acc : Array UInt8), 0 < k → (((vs.map fun v => (wd v).toArray).zipIdx k).foldl (fun out (p : Array UInt8 × Nat) => (if p.2 > 0 then out ++ #[32] else out) ++ p.1) acc) = acc ++ (vs.flatMap fun v => 32 :: wd v).toArray := by
    intro vs
    induction vs with
    | nil => intro k acc _; simp
    | cons v vs ih =>
      intro k acc hk
      rw [List.map_cons, List.zipIdx_cons, List.foldl_cons, ih _ _ (Nat.succ_pos _), if_pos hk]
      apply Array.ext'
      simp
  have flat : ∀ (v : Nat) (vs : List Nat), jw (v :: vs) = wd v ++ vs.flatMap fun v => 32 :: wd v := by
    intro v vs
    induction vs generalizing v with
    | nil => simp [jw]
    | cons u vs ih => rw [jw, ih, List.flatMap_cons]; simp
  cases vs with
  | nil => rfl
  | cons v vs =>
    rw [List.map_cons, List.zipIdx_cons, List.foldl_cons]
    refine (gen vs (0 + 1) (#[] ++ (wd v).toArray) (by decide)).trans ?_
    rw [flat]
    apply Array.ext'
    simp
theorem eqv_ints (l : List Int) : D.eqv (.lst (l.map D.sol)) (.lst (l.map D.sol)) = true := by
  rw [eqv_lst]
  induction l with
  | nil => rfl
  | cons i l ih =>
    show (D.eqv (.sol i) (.sol i) && PyData.eqvAll _ _) = true
    rw [eqv_sol]
    simp only [List.map_map] at ih ⊢
    rw [ih]; simp
theorem num_ints (l : List Int) : Num (.lst (l.map D.sol)) 1 := .lst fun d hd => by
  obtain ⟨i, _, rfl⟩ := List.mem_map.mp hd; exact .sol _ _
theorem tooLong_no {n : Nat} (h : n ≤ 100000) : Bytes.tooLong n = false := by
  unfold Bytes.tooLong
  exact decide_eq_false fun q => absurd (Nat.lt_of_lt_of_le q h) (by decide)
theorem wd_sum : ∀ vs : List Nat, ((vs.map fun v => (wd v).toArray).map (·.size)).sum = 2 * vs.length
  | [] => rfl
  | v :: vs => by
    rw [List.map_cons, List.map_cons, List.sum_cons, wd_sum vs, List.length_cons]
    show 2 + _ = _
    omega
theorem BCall.jw {c : Cx} {vs : List Nat} (h2 : 2 ≤ vs.length) (h : vs.length ≤ 100) : BCall c "bytes.join" [.bytes #[32], .lst ((vs.map fun v => (wd v).toArray).map D.bytes)] (.bytes (Mine.jw vs).toArray) := by
  have jl := jw_length vs
  have := BCall.joinB (c := c) (sep := #[32]) (bs := vs.map fun v => (wd v).toArray) (by rw [List.length_map]; omega) (tooLong_no ?_) ?_
  · rw [joined_jw] at this; exact this
  · rw [← Array.foldl_toList, foldl_size]
    have e := wd_sum vs
    rw [List.length_map]
    show 1 * (vs.length - 1) + _ ≤ _
    rw [e]; omega
  · rw [joined_jw, List.size_toArray]
    exact Nat.le_trans (by omega : _ ≤ 100000) (by decide)
end Mine
end

section
open PySem PySem.W PyProof.Rows PySem.Calls PySem.SeqAt
set_option maxRecDepth 100000
namespace Mine

theorem Op2.to {c : Cx} {t : Value → Value → Sem Value} {d e r r' : D} (h : Op2 c t d e r) (hr : r = r') : Op2 c t d e r' := hr ▸ h
theorem told_get {S : T.S} {i : Nat} {m : Nat} (h : S.follow[i]? = some m) : (T.told S)[i + 1]? = some (m + if S.last.testBit i then 48 else 32) := by
  unfold T.told
  rw [List.getElem?_cons_succ, List.getElem?_map, List.getElem?_zipIdx, h]
  simp
noncomputable def aHead : List UInt8 := [42, 32, 70, 76, 65, 71, 83, 32, 40]
noncomputable def aMid : List UInt8 := [41, 32, 91, 80, 69, 82, 77, 65, 78, 69, 78, 84]
noncomputable def fw8 : List UInt8 := [70, 76, 65, 71, 83, 32, 40]

section
variable {prog : Program} {w : World} {W : Wld}
theorem law_words (H : Known prog w W.K W.nums) {A : Around} {L f : Addr} {s₀ : Gs} {X₀ : Addr → Prop} {qual : Str} {code : Value} (ok : Cx.Ok ⟨prog, w, W, A, 40, envD (scopeOf 82) L f qual code, s₀, X₀, true⟩)
    {t : T} (hf : T.Fine 7 t) (hn : t.n = 4) :
    Xq ⟨prog, w, W, A, 40, envD (scopeOf 82) L f qual code, s₀, X₀, true⟩ ((bodyOf 82).drop 13) [("sets", .lst ((T.told (t.spots 0)).map solN)), ("whole", t.enc), ("behind", .lst (t.behind.map encP))] [] (fun _ _ => False) (· = .bool true) := by
  have vlen : (T.told (t.spots 0)).length = 5 := by rw [T.told_length, T.spots_length, hn]
  have rng : ∀ v ∈ T.told (t.spots 0), 32 ≤ v ∧ v < 64 := fun v hv => by
    obtain ⟨i, hi⟩ := List.getElem?_of_mem hv
    have hl := (List.getElem?_eq_some_iff.mp hi).1
    have hs : ∃ s, (t :: t.behind.map (·.2))[i]? = some s := ⟨_, List.getElem?_eq_getElem (by rw [List.length_cons, List.length_map, T.behind_length]; omega)⟩
    obtain ⟨s, hs⟩ := hs
    have := T.tells hf.reg hn i s v hs hi
    exact ⟨this.lo, this.hi⟩
  have mid := law_mid H ok hf hn (fl := .tup ((T.told (t.spots 0)).map fun v => .bytes (wd v).toArray)) rfl
  generalize hvs : T.told (t.spots 0) = vs at *
  have r64 : ∀ v ∈ vs, v < 64 := fun v hv => (rng v hv).2
  have zl : vs.zipIdx.length = 5 := by rw [List.length_zipIdx, vlen]
  have zmap : vs.zipIdx.map (fun q : Nat × Nat => D.bytes (wd q.1).toArray) = (vs.map fun v => (wd v).toArray).map D.bytes := by
    rw [List.map_map]
    have := List.zipIdx_map_fst 0 vs
    conv => rhs; rw [← this]
    rw [List.map_map]; rfl
  -- words
  refine Xq.consAt (Xs.compMap (f := fun q : Nat × Nat => .tup [.int (q.2 : Nat), solN q.1]) (g := fun q => .bytes (wd q.1).toArray) (ps := vs.zipIdx) (pair := true) ok (CompOk.of rfl all_nil) ((enumD_map solN vs) ▸ It.enum ok (n_enumerate H rfl) (Ev.name ok rfl)) .nil
    (fun C s₂ X₀ => ⟨_, _, _, _, _, _, rfl, .inl rfl, .inl rfl, by simp, by simp⟩) (fun q _ => (Sub.new rfl).trans (Sub.new rfl)) (fun C s₂ X₀ ok' q hq => ?elt) (by omega) (.inl rfl) (by simp) rfl) ?_
  case elt =>
    have hm : q.1 ∈ vs := List.mem_of_getElem? (List.mem_zipIdx_iff_getElem?.mp hq)
    have hr := rng q.1 hm
    have e := wd_is hr.1 hr.2
    by_cases hk : q.2 % 2 = 0
    · refine Ev.to (Ev.fn (c_Int2AP H (d := .sol ((q.1 : Nat) : Int)) (a := ((q.1 : Nat) : Int)) (n := q.1) (hd := .s) (by omega) (by omega)) ok' rfl (Evs.one (Ev.ifexp (q := false) (Tr.to (Tr.of (Ev.modN (a := q.2) (b := 2) (ha := .i) (hb := .s) (Ev.name ok' rfl) Ev.int (by decide)) Truth.solN) (by rw [hk]; rfl)) (fun h => by cases h) fun _ => Ev.name ok' rfl)) (by show 1 ≤ 40; decide)) (by rw [e])
    · have hk1 : q.2 % 2 = 1 := by omega
      refine Ev.to (Ev.fn (c_Int2AP H (d := .sol (-((q.1 : Nat) : Int))) (a := -((q.1 : Nat) : Int)) (n := q.1) (hd := .s) (by split <;> omega) (by omega)) ok' rfl (Evs.one (Ev.ifexp (q := true) (Tr.to (Tr.of (Ev.modN (a := q.2) (b := 2) (ha := .i) (hb := .s) (Ev.name ok' rfl) Ev.int (by decide)) Truth.solN) (by rw [hk1]; rfl)) (fun _ => Ev.un (Ev.name ok' rfl) (Op1.neg (hd := .s))) fun h => by cases h)) (by show 1 ≤ 40; decide)) (by rw [e])
  rw [zmap]
  -- flags
  have jl := jw_length vs
  have jl2 := jw_length vs.reverse
  rw [List.length_reverse] at jl2
  have jno := jw_no r64
  have jno2 := jw_no (vs := vs.reverse) fun v hv => r64 v (List.mem_reverse.mp hv)
  have hflags := c_flags H (A := aHead ++ jw vs.reverse ++ aMid) (V := jw vs) (B := [93]) (by
      intro q
      simp only [List.mem_append] at q
      rcases q with ((q | q) | q) | q | q
      · exact absurd q (by decide)
      · exact jno2.1 q
      · exact absurd q (by decide)
      · exact absurd q (by decide)
      · exact q.elim jno.1 fun q => absurd q (by decide)) (by
      intro q
      rcases List.mem_append.mp q with q | q
      · exact jno.2.1 q
      · exact absurd q (by decide)) jno.2.2 (by simp [aHead, aMid]; omega) (by
      have : (32 : UInt8) ∈ jw vs := by
        match vs, vlen with
        | v :: u :: r, _ => rw [jw]; exact List.mem_append_right _ (.head _)
      rw [Array.any_eq_true']
      exact ⟨32, by simpa using this, by decide⟩) (by
      rw [wordsB_jw vs r64]
      intro x hx
      obtain ⟨v, _, rfl⟩ := List.mem_map.mp hx
      show 2 ≤ 1000
      decide) (by rw [wordsB_jw vs r64, List.length_map]; omega)
  rw [wordsB_jw vs r64] at hflags
  have hno := c_noflags H (b := jw vs) jno.1 jno.2.1 (by
      match vs, vlen with
      | [a, b, c, d, e], _ => show 8 ≤ 14; decide) (by omega)
  refine Xq.consAt (Xs.assign ok (d := .tup (vs.map fun v => .bytes (wd v).toArray)) (Ev.to (Ev.fn hflags ok rfl (Evs.one (Ev.to (Ev.bin (Ev.bin (Ev.bin (Ev.bin Ev.cbytes (Ev.methB slot_bytes_join type_bytes_join Ev.cbytes (Evs.one (Ev.to (Ev.slice_rev (ds := (vs.map fun v => (wd v).toArray).map D.bytes) (Ev.name ok rfl) (Ev.un Ev.int Op1.neg) (by rw [List.length_map, List.length_map]; omega)) ?rv)) (BCall.jw (vs := vs.reverse) (by rw [List.length_reverse]; omega) (by rw [List.length_reverse]; omega))) (Op2.catB (by simp; omega))) Ev.cbytes (Op2.catB (by simp; omega)))
    (Ev.methB slot_bytes_join type_bytes_join Ev.cbytes (Evs.one (Ev.name ok rfl)) (BCall.jw (vs := vs) (by omega) (by omega))) (Op2.catB (by simp; omega))) Ev.cbytes (Op2.catB (by simp; omega))) ?cat)) (by show 1 ≤ 40; decide)) (by rw [List.map_map]; rfl)) (.inl rfl) (by simp) rfl) ?_
  case rv => simp
  case cat =>
    congr 1
    apply Array.ext'
    simp [aHead, aMid]
  -- if
  have e5 : ((vs.map fun v => D.bytes (wd v).toArray).length : Int) = 5 := by rw [List.length_map, vlen]; rfl
  refine Xq.skipB (Tr.or2 (Tr.cmp (Ev.len_tup (ds := vs.map fun v => .bytes (wd v).toArray) ok (n_len H rfl) (Ev.name ok rfl) (by rw [List.length_map]; omega)) Ev.int (Op2.ne (hd := .i) (he := .s))) fun _ =>
    Tr.cmp (Ev.fn hno ok rfl (Evs.one (Ev.methB slot_bytes_join type_bytes_join Ev.cbytes (Evs.one (Ev.name ok rfl)) (BCall.jw (vs := vs) (by omega) (by omega)))) (by show 1 ≤ 40; decide)) (Ev.tup Evs.nil) (Op2.neD (n := 1) (m := 1) ok (.tup fun d hd => by cases hd) (.tup fun d hd => by cases hd) (by decide))) ?no ?_
  case no => rw [e5]; rfl
  exact Xq.less mid (Sub.cons rfl (Sub.cons rfl (Sub.cons rfl (Sub.nil _))))

theorem c_law (H : Known prog w W.K W.nums) (script : List Int) (hsz : script.length ≤ 1000) : Fun prog w W 41 "law" [.lst (script.map D.int)] (.bool true) := by
  refine Fun.of (names := ["script"]) H.fLaw ?_ (hbind := bindsArgs rfl fun fd vs hv => by obtain ⟨v, rfl⟩ := vs1 hv; rfl)
  intro A L s₀ X₀ f qual code ok
  -- cells
  refine Xq.new ok (Evs.cons Ev.int (Evs.cons Ev.int (Evs.cons Ev.int (Evs.one Ev.int)))) (.inl rfl) (by simp) rfl (by simp) fun l => ?_
  have pl : (pickD (script.map D.int) none (some 16)).length ≤ 1000 := by
    unfold pickD
    rw [List.length_take, List.length_drop, List.length_map]
    omega
  refine Xq.cons (P' := fun ρ' ω' => ∃ cs : List Nat, cs.length = 4 ∧ ω' = [(("cells" : PySem.Str), l, cs.map solN)]) (Xs.for ok (It.enum ok (n_enumerate H rfl) (Ev.slice (ds := script.map D.int) (lo := none) (hi := some 16) (Ev.name ok rfl) .none (.some (h := .s) Ev.int) (by rw [List.length_map]; omega)))
    (fun i ρ' ω' => ∃ cs : List Nat, cs.length = 4 ∧ ω' = [(("cells" : PySem.Str), l, cs.map solN)])
    (fun i ρ' ω' inv => ?tgt) ⟨[46, 0, 4, 3], rfl, rfl⟩ (fun i z ρ' ω' hz inv => ?turn) fun ρ' ω' inv => Xq.nil inv) fun ρ' ω' inv => ?rest
  case tgt =>
    obtain ⟨cs, _, rfl⟩ := inv
    exact ⟨_, _, _, _, _, _, rfl, .inl rfl, .inl rfl, by show _ ∉ [("cells" : PySem.Str)]; decide, by show _ ∉ [("cells" : PySem.Str)]; decide⟩
  case turn =>
    obtain ⟨cs, hcs, rfl⟩ := inv
    obtain ⟨x, hx, rfl⟩ := enumD_get hz
    have hm : x ∈ script.map D.int := by
      have := List.mem_of_getElem? hx
      unfold pickD at this
      exact List.mem_of_mem_drop (List.mem_of_mem_take this)
    obtain ⟨num, _, rfl⟩ := List.mem_map.mp hm
    have h4 := Nat.mod_lt i (show 0 < 4 by decide)
    obtain ⟨old, ho⟩ : ∃ old, cs[i % 4]? = some old := ⟨_, List.getElem?_eq_getElem (by omega)⟩
    have ho' : (cs.map solN)[((i % 4 : Nat) : Int).toNat]? = some (solN old) := by rw [Int.toNat_natCast, List.getElem?_map, ho]; rfl
    have hp : ((10 : Int) ^ ((6 : Int)).toNat) = 1000000 := by decide
    have hnn := Int.fmod_nonneg_of_pos num (b := 1000000) (by decide)
    refine Xq.cons (Xs.augItem (ω₁ := []) (ω₂ := []) (i := ((i % 4 : Nat) : Int)) (hdi := .s) (b := solN (num.fmod 1000000).toNat) (d := solN (old + (num.fmod 1000000).toNat)) ok (Ev.modN (a := i) (b := 4) (ha := .i) (hb := .s) (Ev.name ok rfl) Ev.int (by decide)) (by omega) ho' (by omega)
      (Ev.to (Ev.bin (Ev.name ok rfl) (Ev.bin Ev.int Ev.int (Op2.pow (hd := .s) (he := .s) (by decide) (by decide) (by decide))) (Op2.mod (hd := .i) (he := .s) (by rw [hp]; decide))) ?e1) (Op2.to (Op2.iadd (a := (old : Int)) (b := ((num.fmod 1000000).toNat : Nat)) (hd := .s) (he := .s)) ?e2)) fun ρ' ω' q => Xq.nil ?_
    case e1 => rw [hp]; show D.sol _ = D.sol _; congr 1; omega
    case e2 => show D.sol _ = D.sol _; congr 1
    obtain ⟨rfl, rfl⟩ := q
    refine ⟨cs.set (i % 4) (old + (num.fmod 1000000).toNat), by rw [List.length_set]; exact hcs, ?_⟩
    rw [Int.toNat_natCast, List.map_set]; rfl
  case rest =>
    obtain ⟨cs, hcs, rfl⟩ := inv
    obtain ⟨a, b, c, d, rfl⟩ : ∃ a b c d, cs = [a, b, c, d] := by
      match cs, hcs with
      | [a, b, c, d], _ => exact ⟨a, b, c, d, rfl⟩
    refine Xq.freeze (Xq.less (ρ' := [("cells", .lst [solN a, solN b, solN c, solN d])]) ?_ (Sub.cons rfl (Sub.nil _)))
    obtain ⟨t, ht, hf, hn, hser⟩ := T.steps_tree a b c d
    have hd := c_drawn H a b c d
    rw [ht] at hd
    have dr : Fun prog w W 1 "_law_drawn" [.lst [solN a, solN b, solN c, solN d]] (.lst (t.ser.map D.sol)) := hd
    have m3 := Nat.mod_lt (b / 16) (show 0 < 3 by decide)
    have hh := hf.h
    -- drawn, heard
    refine Xq.consAt (Xs.assign ok (Ev.fn dr ok rfl (Evs.one (Ev.name ok rfl)) (by show 1 ≤ 40; decide)) (.inl rfl) (by simp) rfl) ?_
    refine Xq.consAt (Xs.assign ok (Ev.fn (c_heard H t.ser (a / 256 : Nat) (1 + b / 16 % 3) hf.sy (T.ser_ne t) (by omega) (by omega) (dt := solN (a / 256)) (dn := solN (1 + b / 16 % 3)) (hdt := .s) (hdn := .s)) ok rfl (Evs.cons (Ev.name ok rfl) (Evs.cons (Ev.fdivN (a := a) (b := 256) (ha := .s) (hb := .s) (Ev.item_lst (ds := [solN a, solN b, solN c, solN d]) (i := 0) (hdi := .s) (Ev.name ok rfl) Ev.int (by decide) rfl (by decide)) Ev.int (by decide) (by decide))
      (Evs.one (Ev.addN (a := 1) (b := b / 16 % 3) (ha := .s) (hb := .s) Ev.int (Ev.modN (a := b / 16) (b := 3) (ha := .s) (hb := .s) (Ev.fdivN (a := b) (b := 16) (ha := .s) (hb := .s) (Ev.item_lst (ds := [solN a, solN b, solN c, solN d]) (i := 1) (hdi := .s) (Ev.name ok rfl) Ev.int (by decide) rfl (by decide)) Ev.int (by decide) (by decide)) Ev.int (by decide)))))) (by show 2 ≤ 40; decide)) (.inl rfl) (by simp) rfl) ?_
    refine Xq.skipB (Tr.cmp (Ev.name ok rfl) (Ev.name ok rfl) (Op2.neD ok (num_ints t.ser) (num_ints t.ser) (by decide))) (by rw [eqv_ints]; rfl) ?_
    -- piled
    refine Xq.consAt (Xs.assign ok (Ev.fn (c_pile H t hf.ok (by omega)) ok rfl (Evs.one (Ev.name ok rfl)) (by show 2 ≤ 40; decide)) (.inl rfl) (by simp) rfl) ?_
    refine Xq.skipB (Tr.cmp (Ev.len_lst ok (n_len H rfl) (Ev.name ok rfl) (by simp)) Ev.int (Op2.ne (hd := .i) (he := .s))) rfl ?_
    refine Xq.consAt (Xs.assign ok (d := t.enc) (Ev.item_lst (ds := [t.enc]) (i := 0) (hdi := .s) (Ev.name ok rfl) Ev.int (by decide) rfl (by decide)) (.inl rfl) (by simp) rfl) ?_
    -- behind
    refine Xq.consAt (Xs.assign ok (Ev.fn (c_behind H t hf.ok (by omega)) ok rfl (Evs.one (Ev.name ok rfl)) (by show t.h + 3 ≤ 40; omega)) (.inr ⟨rfl, rfl, rfl⟩) (by simp) rfl) ?_
    have bl : ((t.behind.map encP).length : Int) = 4 := by rw [List.length_map, T.behind_length, hn]; rfl
    refine Xq.skipB (Tr.cmp (Ev.len_lst ok (n_len H rfl) (Ev.name ok rfl) (by rw [List.length_map, T.behind_length]; omega)) Ev.int (Op2.ne (hd := .i) (he := .s))) (by rw [bl]; rfl) ?_
    -- spots
    refine Xq.consAt (Xs.assign ok (Ev.fn (c_spots H t 0 hf.ok (by omega)) ok rfl (Evs.cons (Ev.name ok rfl) (Evs.one Ev.int)) (by show t.h + 3 ≤ 40; omega)) (.inl rfl) (by simp) rfl) ?_
    have sl := T.spots_length t 0
    generalize hS : t.spots 0 = S at *
    -- sets
    refine Xq.new (ds := [solN (S.first + if S.null then 48 else 32)]) ok (Evs.one (Ev.addN (a := S.first) (b := if S.null then 48 else 32) (ha := .s) (hb := .s) (Ev.at1 (Ev.name ok rfl)) (Ev.ifexp (q := S.null) (Tr.of (Ev.at0 (Ev.name ok rfl)) Truth.bool) (fun q => Ev.to Ev.int (by rw [q]; rfl)) fun q => Ev.to Ev.int (by rw [q]; rfl)))) (.inl rfl) (by simp) rfl (by simp) fun l2 => ?_
    refine Xq.cons (P' := fun ρ' ω' => ω' = [(("sets" : PySem.Str), l2, (T.told S).map solN)] ∧ ρ'.lookup ("whole" : PySem.Str) = some t.enc ∧ ρ'.lookup ("behind" : PySem.Str) = some (.lst (t.behind.map encP)))
      (Xs.for ok (It.range (m := (4 : Int)) (n := 4) ok (n_range H rfl) Ev.int rfl (by decide))
      (fun i ρ' ω' => ω' = [(("sets" : PySem.Str), l2, ((T.told S).take (i + 1)).map solN)] ∧ ρ'.lookup ("whole" : PySem.Str) = some t.enc ∧ ρ'.lookup ("behind" : PySem.Str) = some (.lst (t.behind.map encP)) ∧ ρ'.lookup ("spots" : PySem.Str) = some S.enc)
      (fun i ρ' ω' inv => ?tgt2) ⟨rfl, rfl, rfl, rfl⟩ (fun i z ρ' ω' hz inv => ?turn2) fun ρ' ω' inv => Xq.nil ?fin2) fun ρ' ω' inv => ?rest2
    case tgt2 =>
      obtain ⟨rfl, _⟩ := inv
      exact ⟨_, _, rfl, .inl rfl, by show _ ∉ [("sets" : PySem.Str)]; decide⟩
    case fin2 =>
      rw [rangeD_length] at inv
      have : (T.told S).take (4 + 1) = T.told S := List.take_of_length_le (by rw [T.told_length, sl, hn]; exact Nat.le_refl _)
      rw [this] at inv
      exact ⟨inv.1, inv.2.1, inv.2.2.1⟩
    case rest2 =>
      obtain ⟨rfl, h1, h2⟩ := inv
      have := law_words H ok hf hn
      rw [hS] at this
      exact Xq.freeze (Xq.less this (Sub.cons rfl (Sub.cons h1 (Sub.cons h2 (Sub.nil _)))))
    case turn2 =>
      obtain ⟨rfl, h1, h2, h3⟩ := inv
      obtain ⟨hi, rfl⟩ := rangeD_get hz
      obtain ⟨m, hm⟩ : ∃ m, S.follow[i]? = some m := ⟨_, List.getElem?_eq_getElem (by omega)⟩
      have hm' : (S.follow.map solN)[((i : Nat) : Int).toNat]? = some (solN m) := by rw [Int.toNat_natCast, List.getElem?_map, hm]; rfl
      have tg := told_get hm
      refine Xq.cons (Xs.append (ω₁ := []) (ω₂ := []) (d := solN (m + if S.last.testBit i then 48 else 32)) ok (EvX.pure (Ev.addN (a := m) (b := if S.last.testBit i then 48 else 32) (ha := .s) (hb := .s) (Ev.item_lst (ds := S.follow.map solN) (hdi := .i) (Ev.at3 (Ev.name (d := S.enc) ok ?n1)) (Ev.name ok rfl) (by omega) hm' (by omega))
        (Ev.ifexp (q := S.last.testBit i) (Tr.to (Tr.of (Ev.fn (c_andN H (a := S.last) (b := 2 ^ i)) ok rfl (Evs.cons (Ev.at2 (Ev.name (d := S.enc) ok ?n2)) (Evs.one (Ev.fn (c_shl1 H (k := i) (d := .sol 1) (e := .int (i : Nat)) (by omega)) ok rfl (Evs.cons Ev.int (Evs.one (Ev.name ok rfl))) (by show 1 ≤ 40; decide)))) (by show 1 ≤ 40; decide)) Truth.int) (and_pow S.last i)) (fun q => Ev.to Ev.int (by rw [q]; rfl)) fun q => Ev.to Ev.int (by rw [q]; rfl)))) ?len) fun ρ' ω' q => Xq.nil ?_
      case n1 => exact h3
      case n2 => exact h3
      case len => rw [List.length_map, List.length_take]; omega
      obtain ⟨rfl, rfl⟩ := q
      refine ⟨?_, h1, h2, h3⟩
      rw [List.take_add_one (i := i + 1), tg, List.map_append]; rfl
end
end Mine
end

section
open PySem PySem.W PyProof.Rows PySem.Calls PySem.SeqAt
set_option maxRecDepth 100000
namespace Mine

/-! ## What is read of the text's state -/
theorem isNone_eq {v : Value} (h : isNone v = true) : v = .none := by
  cases v <;> first | rfl | cases h
theorem FnIs.of {K : Frag} {x : PySem.Str} {i : Nat} (f : Addr) (h1 : nsIn K mainGlobals x = some (some (.ref f))) (h2 : fnLook K f = some (.stmts (bodyOf i), scopeOf i, paramsOf i)) : FnIs K x i := by
  unfold fnLook at h2
  split at h2
  · rename_i oc od fd osl hk
    split at h2
    · rename_i hc
      simp only [Bool.and_eq_true] at hc
      obtain ⟨⟨⟨⟨⟨c1, c2⟩, c3⟩, c4⟩, c5⟩, c6⟩ := hc
      injection h2 with h2
      injection h2 with e1 h2
      injection h2 with e2 e3
      exact ⟨f, oc, od, fd, osl, h1, hk, c1, e1, e2, e3, by simpa using c2, by simpa using c3, by simpa using c4, isNone_eq c5, isNone_eq c6⟩
    · cases h2
  · cases h2
end Mine
end

section
open PySem PySem.W PyProof.Rows PySem.Calls PySem.SeqAt
set_option maxRecDepth 100000
namespace Mine
open Builtin Builtin.Re

theorem IsPat.of {K : Frag} {h : Heap} (X : K.In h) {P : Addr} {want groups : Nat} {gi : Value} {code : Array Nat} (e : patLook K P = some (want, groups, gi, code.toList)) :
    IsPat h P want groups code gi ∧ ∃ o, h.get? P = some o ∧ o.cls = .type "re.Pattern" ∧ o.dict = none := by
  unfold patLook at e
  split at e
  · rename_i fs sl hk
    split at e
    · rename_i C hc
      split at e
      · rename_i od its n sl' hk'
        injection e with e
        injection e with e1 e
        injection e with e2 e
        injection e with e3 e4
        refine ⟨⟨fs, sl, X _ _ hk, e2, e1, e3, C, its, hc, ⟨_, X _ _ hk', rfl, n, rfl⟩, ?_⟩, _, X _ _ hk, rfl, rfl⟩
        apply Array.toList_inj.mp
        rw [Array.toList_map, Array.toList_map]
        exact e4
      · cases e
    · cases e
  · cases e

theorem keyOf_is {e : DictEntry} {x : PySem.Str} {i : Int} (h : keyOf e = some (x, i)) : ∃ t, e.key = .str x t ∧ e.hash = i := by
  obtain ⟨hash, key, val⟩ := e
  unfold keyOf at h
  cases key with
  | str y t => cases h; exact ⟨t, rfl, rfl⟩
  | _ => cases h
theorem keysLit_of {P : Params} : ∀ {es : List DictEntry} {l : List PySem.Str}, es.map keyOf = keysOf P l → KeysLit P es
  | [], _, _ => trivial
  | e :: r, [], h => nomatch h
  | e :: r, x :: l, h => by
    injection h with h1 h2
    obtain ⟨t, e1, e2⟩ := keyOf_is h1
    exact ⟨⟨x, t, e1, e2⟩, keysLit_of h2⟩
theorem mapOf_of {prog : Program} {w : World} {K : Frag} {a : Addr} {l : List PySem.Str} (h1 : keysA K a = some (keysOf w.params l)) :
    ∃ f : PySem.Str → Option Value, (∀ h, K.In h → h.MapOf (PySem.strKind prog w) a f) ∧ ∀ x r, nsIn K a x = some r → f x = r := by
  unfold keysA at h1
  obtain ⟨⟨es, n⟩, e, h1⟩ := Option.map_eq_some_iff.mp h1
  have hk : K.lookup a = some ⟨.type "dict", none, .dict es.toArray n, #[]⟩ := by
    unfold dictLook at e
    split at e
    · rename_i es m sl hk
      split at e
      · rename_i hs
        injection e with e
        injection e with e1 e2
        subst e1 e2
        rw [hk, Array.isEmpty_iff.mp hs]
      · cases e
    · cases e
  have hl : KeysLit w.params es.toArray.toList := keysLit_of h1
  exact ⟨_, fun h X => mapOf_K X hk hl, fun x r q => find_K hk q⟩

/-- no token is booked -/
theorem keyOf_some {e : DictEntry} (h : (keyOf e).isSome = true) : ∃ n t, e.key = .str n t := by
  obtain ⟨hash, key, val⟩ := e
  unfold keyOf at h
  cases key <;> first
    | exact ⟨_, _, rfl⟩
    | (simp at h)
theorem noneBooked_of {K : Frag} {h : Heap} (X : K.In h) (e : bookLook K = true) : NoneBooked h := by
  unfold bookLook at e
  split at e
  · rename_i c d es n sl hk
    simp only [Bool.and_eq_true] at e
    refine ⟨fun x => nsFind es x, ⟨_, es, n, X _ _ hk, rfl, fun y hy => ?_, fun _ => rfl⟩, ?_⟩
    · exact keyOf_some (List.all_eq_true.mp e.1 y (Array.mem_toList_iff.mpr hy))
    · have := e.2; rwa [Option.isNone_iff_eq_none] at this
  · cases e

/-- the numbers of the table -/
noncomputable def numsAt (l : List (Tok × Int)) (t : Tok) : Option Int := l.lookup t

theorem FnIs.ofList {K : Frag} {l : List (PySem.Str × Addr × Nat)} (h : (l.map fun q => (nsIn K mainGlobals q.1, fnLook K q.2.1)) = l.map fun q => (some (some (.ref q.2.1)), some (.stmts (bodyOf q.2.2), scopeOf q.2.2, paramsOf q.2.2)))
    {x : PySem.Str} {f : Addr} {i : Nat} (k : Nat) (hm : l[k]? = some (x, f, i)) : FnIs K x i := by
  have := List.map_inj_left.mp h _ (List.mem_of_getElem? hm)
  injection this with h1 h2
  exact FnIs.of f h1 h2
noncomputable def numList : List (Tok × Int) := [(507, 23), (497, 18), (493, 16), (501, 20), (503, 21)]

theorem at_list {K : Frag} {a : Addr} {l : List (PySem.Str × Value)} (h : (l.map fun q => nsIn K a q.1) = l.map fun q => some (some q.2)) {x : PySem.Str} {v : Value} (k : Nat) (hm : l[k]? = some (x, v)) : nsIn K a x = some (some v) :=
  List.map_inj_left.mp h _ (List.mem_of_getElem? hm)
theorem bare_list {K : Frag} {l : List PySem.Str} (h : (l.map fun x => nsIn K mainGlobals x) = l.map fun _ => some none) {x : PySem.Str} (k : Nat) (hm : l[k]? = some x) : nsIn K mainGlobals x = some none :=
  List.map_inj_left.mp h _ (List.mem_of_getElem? hm)
theorem Known.of {prog : Program} {w : World} {K : Frag} {l1 l2 : List PySem.Str}
    (hf : (fnList.map fun q => (nsIn K mainGlobals q.1, fnLook K q.2.1)) = fnList.map fun q => (some (some (.ref q.2.1)), some (.stmts (bodyOf q.2.2), scopeOf q.2.2, paramsOf q.2.2)))
    (hb : (bareList.map fun x => nsIn K mainGlobals x) = bareList.map fun _ => some none)
    (hi : (intNames.map fun q => nsIn K mainGlobals q.1) = intNames.map fun q => some (some q.2))
    (p1 : patLook K 36 = some (1, 1, .ref 33, fcode.toList))
    (p2 : patLook K 90 = some (1, 0, .none, dcode.toList))
    (p3 : patLook K 95 = some (0, 0, .none, ecode.toList))
    (d1 : keysA K 33 = some (keysOf w.params l1)) (d3 : nsIn K 33 "flags" = some (some (.int 1 328)))
    (e1 : keysA K 110 = some (keysOf w.params l2)) (ho : (opList.map fun q => nsIn K 110 q.1) = opList.map fun q => some (some q.2)) :
    Known prog w K (numsAt numList) := by
  obtain ⟨m1, a1, b1⟩ := mapOf_of (prog := prog) d1
  obtain ⟨m2, a2, b2⟩ := mapOf_of (prog := prog) e1
  exact {
    fInt2AP := FnIs.ofList hf 0 rfl
    fParseFlags := FnIs.ofList hf 1 rfl
    fAnd := FnIs.ofList hf 2 rfl
    fShl := FnIs.ofList hf 3 rfl
    fContains := FnIs.ofList hf 4 rfl
    fIndexOf := FnIs.ofList hf 5 rfl
    fIor := FnIs.ofList hf 6 rfl
    fQuote := FnIs.ofList hf 7 rfl
    fEols := FnIs.ofList hf 8 rfl
    fTerm := FnIs.ofList hf 9 rfl
    fNonterm := FnIs.ofList hf 10 rfl
    fEof := FnIs.ofList hf 11 rfl
    fDrawn := FnIs.ofList hf 12 rfl
    fHeard := FnIs.ofList hf 13 rfl
    fPile := FnIs.ofList hf 14 rfl
    fEmpty := FnIs.ofList hf 15 rfl
    fPut := FnIs.ofList hf 16 rfl
    fLeft := FnIs.ofList hf 17 rfl
    fBehind := FnIs.ofList hf 18 rfl
    fLed := FnIs.ofList hf 19 rfl
    fSpots := FnIs.ofList hf 20 rfl
    fLaw := FnIs.ofList hf 21 rfl
    offset := ⟨_, at_list hi 0 rfl⟩
    marker := ⟨_, at_list hi 1 rfl⟩
    crlf := ⟨_, at_list hi 2 rfl⟩
    bEnumerate := bare_list hb 0 rfl
    bRange := bare_list hb 1 rfl
    bZip := bare_list hb 2 rfl
    bTuple := bare_list hb 3 rfl
    bInt := bare_list hb 4 rfl
    bLen := bare_list hb 5 rfl
    bAbs := bare_list hb 6 rfl
    bDivmod := bare_list hb 7 rfl
    flags := ⟨36, 33, m1, 328, at_list hi 3 rfl, fun h X => ⟨(IsPat.of X p1).1, (IsPat.of X p1).2, a1 h X⟩, b1 _ _ d3⟩
    dots := ⟨90, .none, at_list hi 4 rfl, fun h X => IsPat.of X p2⟩
    eols := ⟨95, .none, at_list hi 5 rfl, fun h X => IsPat.of X p3⟩
    table := ⟨110, m2, 507, 497, 493, 501, 503, at_list hi 6 rfl, a2, ⟨b2 _ _ (at_list ho 0 rfl), rfl⟩, ⟨b2 _ _ (at_list ho 1 rfl), rfl⟩, ⟨b2 _ _ (at_list ho 2 rfl), rfl⟩, ⟨b2 _ _ (at_list ho 3 rfl), rfl⟩, b2 _ _ (at_list ho 4 rfl), rfl⟩ }

theorem ints_reps {s : Gs} {X : Addr → Prop} : ∀ {vs : List Value} {ns : List Int}, IntsAre vs ns → Reps s X vs (ns.map D.int)
  | _, _, .nil => .nil
  | _, _, .cons n t r => .cons (.int n t) (ints_reps r)

theorem laid_plain {R : WRecords} {w : World} {s₀ s₁ : Shared} {ns : List Int} {a : Addr} {as : List Addr} {vs : List Value} (L : Laid R w s₀ s₁ [ofPy (PyData.list (ns.map PyData.int))] [.ref a] as) (hL : s₁.heap.IsList a vs.toArray) : s₁.heap.PlainList a vs.toArray := by
  obtain ⟨ord, _, e⟩ := L.laid
  simp only [ofPy, layAllW, layW] at e
  cases q : layAllW R (classAt s₀.heap) w.params ord (ofPys (List.map PyData.int ns)) s₀ with
  | none => rw [q] at e; cases e
  | some r =>
    rw [q] at e
    simp only [Option.some.injEq, Prod.mk.injEq, List.cons.injEq, Value.ref.injEq, and_true] at e
    obtain ⟨e1, e2⟩ := e
    have hp : s₁.heap.get? a = some { cls := .type "list", data := .seq r.1.toArray } := by
      rw [← e1, ← e2]
      exact Heap.get?_push_size _ rfl
    obtain ⟨o, ho, _, n, hd⟩ := hL
    rw [hp] at ho
    injection ho with ho
    subst ho
    injection hd with hd1 hd2
    rw [← hd1]
    exact ⟨_, hp⟩

theorem law_runs {prog : Program} {w : World} {K : Frag} (H : Known prog w K (numsAt numList)) (hnb : bookLook K = true) {p : Program} {loose : List PySem.Str} {mg mb : PySem.Str → Option Value} {s₁ : Shared}
    (KX : K.In s₁.heap) (T : TopRead p loose mg mb s₁.heap) (htk : 772 ≤ s₁.toks) {fa a : Addr} {vs : List Value} {xs : List Int} (hmg : mg "law" = some (.ref fa)) (hp : s₁.heap.PlainList a vs.toArray) (hi : IntsAre vs xs) (hsz : xs.length ≤ 1000)
    {Q : Value → Shared → Prop} {E : Value → Shared → Prop} (h : ∀ s', (∀ b o, s₁.heap.get? b = some o → s'.heap.get? b = some o) → s'.os = s₁.os → s'.gens = s₁.gens → Q (.bool true) s') :
    wpAny (model prog w) callerA (call (.ref fa) [.ref a]) Q E s₁ := by
  let W : Wld := ⟨K, p, loose, mg, mb, numsAt numList⟩
  have F := c_law (prog := prog) (w := w) (W := W) H xs hsz
  obtain ⟨f, oc, od, fd, osl, hn, hk, hc⟩ := F.ex
  have hf : fa = f := by
    have := mg_of (K := K) KX T.g hn
    rw [hmg] at this
    injection this with this
    injection this
  subst hf
  have hsane : ∀ t i, numsAt numList t = some i → t ≠ 0 ∧ t < s₁.toks := by
    intro t i e
    have : t ∈ numList.map (·.1) := by
      obtain ⟨q, hq, rfl⟩ : ∃ q ∈ numList, q.1 = t := by
        have := List.lookup_eq_some_iff.mp e
        obtain ⟨l1, l2, h1, h2⟩ := this
        exact ⟨(t, i), by rw [h1]; simp, rfl⟩
      exact List.mem_map_of_mem hq
    simp only [numList, List.map_cons, List.map_nil, List.mem_cons, List.not_mem_nil, or_false] at this
    rcases this with rfl | rfl | rfl | rfl | rfl <;> exact ⟨by decide, Nat.lt_of_lt_of_le (by decide) htk⟩
  let s : Gs := ⟨s₁, numsAt numList⟩
  have hW : W.In s := ⟨KX, T, noneBooked_of KX hnb, fun _ _ e => e⟩
  have hG : Good s (fun _ => False) := ⟨fun _ q => q.elim, Nat.lt_of_lt_of_le (by decide) htk, hsane⟩
  refine hc.run callerA ⟨rfl, by decide, by decide⟩ (fun _ => False) s [.ref a] hW hG (.cons (.lst hp id (ints_reps hi)) .nil) Q E ?_
  intro v s' g r
  cases r
  obtain ⟨hh, tk, es⟩ := g.same
  exact h s'.sh g.keep (by rw [es]) (by rw [es])
end Mine
end

open PySem PySem.W PySem.W.X PyProof.Rows
set_option maxRecDepth 100000
namespace Mine
theorem kAt_in {h : Heap} : ∀ l, (kAt h l).In h
  | [], a, o, e => by simp [kAt] at e
  | b :: r, a, o, e => by
    unfold kAt at e
    split at e
    · rename_i o' hb
      rw [List.lookup_cons] at e
      split at e
      · rename_i q
        have : a = b := by simpa using q
        subst this
        cases e; exact hb
      · exact kAt_in r a o e
    · exact kAt_in r a o e
theorem known_at {prog : Program} {w : World} {K : Frag} {n : Nat} (y : lYK K n = lYa w) : Known prog w K (numsAt numList) ∧ bookLook K = true ∧ 772 ≤ n := by
  unfold lYK lYa at y
  injection y with y1 y
  injection y with y2 y
  injection y with y3 y
  injection y with y4 y
  injection y with y5 y
  injection y with y6 y
  injection y with y7 y
  injection y with y8 y9
  injection y4 with p1 p
  injection p with p2 p
  injection p with p3 p
  have c := Bool.and_eq_true_iff.mp y9
  exact ⟨Known.of y1 y2 y3 p1 p2 p3 y5 y7 y6 y8, c.1, Nat.le_of_ble_eq_true c.2⟩
theorem good_true {c : ClaimW} {cl : PySem.Str → Option Addr} {mean : ExcName → Option Value} {args : List WData} {s₁ s' : Shared} (hr : ∀ cls, c.raises args cls = false) (hp : c.post args (.bool true) args = true)
    (k : ∀ b o, s₁.heap.get? b = some o → s'.heap.get? b = some o) (ho : s'.os = s₁.os) (hg : s'.gens = s₁.gens) (hb : s₁.gens = #[]) : GoodWG c cl mean args s₁ (.ok (.ret (.bool true))) s' :=
  ⟨.inl ⟨_, _, [], rfl, hr, ReadsW.bool true, hp, fun _ => ⟨List.nodup_nil, fun _ hm => (nomatch hm)⟩⟩, .of_keep k, ho, .of_eq (hg.trans hb)⟩
theorem law_goes {w : World} {s₀ s₁ : Shared} {mg mb : PySem.Str → Option Value} {p : Program} {loose : List PySem.Str} {mean : ExcName → Option Value} {R : WRecords} {fa a : Addr} {vs : List Value} {xs : List Int} {as : List Addr}
    (y : lYf s₀ = lYa w) (T : Top p loose mean mg mb s₁.heap) (L : Laid R w s₀ s₁ [ofPy (PyData.list (xs.map PyData.int))] [.ref a] as) (hmg : mg lDef.1.name = some (.ref fa)) (hL : s₁.heap.IsList a vs.toArray) (hi : IntsAre vs xs) (hsz : xs.length ≤ 1000)
    {Q : Value → Shared → Prop} {E : Value → Shared → Prop} (h : ∀ s', (∀ b o, s₁.heap.get? b = some o → s'.heap.get? b = some o) → s'.os = s₁.os → s'.gens = s₁.gens → Q (.bool true) s') :
    wpAny (model lp w) callerA (call (.ref fa) [.ref a]) Q E s₁ := by
  obtain ⟨H, hb, ht⟩ := known_at (prog := lp) y
  rw [law_name] at hmg
  exact law_runs H hb ((kAt_in lAs).keeps L.keeps) (topRead_of T) (Nat.le_trans ht (script_toks L rfl)) hmg (laid_plain L hL) hi hsz h
end Mine
set_option maxHeartbeats 0 in
theorem PySem.Challenge.cw_wk0025_01_holds : PySem.Challenge.rw_wk0025_01.Holds := by
  refine holds_law Mine.law_said fun k1 => ?_
  refine holds_openX (q := Mine.lq) (loose := Mine.lloose) (Xt := Mine.lXt) (XP := fun _ _ => True) (Yf := Mine.lYf) (Ya := Mine.lYa) (N := 4882) Mine.law_left (fun _ _ => trivial) (fun _ _ _ _ _ => trivial) Mine.law_def Mine.law_the Mine.law_kw
    (fun s e => recFacts_of e) rfl k1 Mine.law_ok Mine.law_bare ⟨[.list []], by kernel_rfl, by kernel_rfl⟩ ?_
  intro w s₀ s₁ mg mb G y fa o pm cd doc dV kV ho hd hcd hD hmg hg args vals as L hpre hlay hrd hwl hlo
  refine Ground.open G ?_
  intro T B D TE TW
  clear ho hd hcd hD B D TE TW G
  wrow_args hpre hlay hrd hwl hlo
  refine Mine.law_goes y T L hmg (by assumption) (by assumption) ?sz (fun s' k o' g => ?fin)
  case sz => omega
  case fin =>
    refine Mine.good_true (fun _ => rfl) ?_ k o' g hg
    first | rfl | wrow_post
