import PyProof.Rows.All
import Wide.All
import OpenK.AllK
import Wide.FinOn
import PyProof.Rows.RaiseClass
import PyProof.TupleOfGen
import KE.RegLcTurns
import PyProof.SetNew
import PyProof.SetRoads
import PyProof.TupleIter
import PyProof.DictCompW
import PyProof.NeKinds
import PyProof.MinMaxWalk
import PyProof.Rows.EnumRows
import KE.KDictOf
import PyProof.Rows.StrPins
import PyProof.DictWalks
import PyProof.DictDisplay
import PyProof.DictTable
import KE.LcTurns
import KE.KPairComp
import Lean
import PySem.Challenge.RW_il0100_01
set_option Elab.async false
set_option maxRecDepth 100000
set_option linter.all false
noncomputable section
open PySem PySem.W PyProof.Rows
namespace Mine
noncomputable abbrev S (x : String) : Str := Str.ofString x
noncomputable def E (P : Params) (s : Str) (t : Tok) (v : Value) : DictEntry := ⟨PyData.keyHash P s, .str s t, v⟩
noncomputable abbrev pw : Program := PySem.Challenge.pw_il0100_01
noncomputable def top : List Stmt := pw.main.body
noncomputable def nth : List Stmt → Nat → Stmt
  | s :: _, 0 => s
  | _ :: r, n + 1 => nth r n
  | [], _ => .Pass default
noncomputable def cB : Stmt → List Stmt
  | .ClassDef _ _ _ b _ _ _ _ _ _ _ => b
  | _ => []
noncomputable def fO (s : Stmt) (qual : Str) (dV kV doc pm : Value) (an : Option Addr) (cdv ct : Value) : FuncData := match s with
  | .FunctionDef name args body _ _ _ scope _ _ _ => fnOf name qual args body scope dV kV doc pm an cdv ct
  | _ => fnOf qual qual ⟨[], [], none, [], [], none, []⟩ [] default dV kV doc pm an cdv ct

noncomputable def topRunT (stp : SharedT → Thread → Option (SharedT × Thread)) (ok : Thread → Bool) : Nat → SharedT → Thread → Option SharedT
  | 0, _, _ => none
  | n + 1, s, t => match through t with
    | true => some s
    | false => match ok t with
      | false => none
      | true => match stp s t with
        | some (s', t') => topRunT stp ok n s' t'
        | none => none
theorem topRunT_of {tb : String → Option Builtin} {p : Program} {w : World} {n₀ : Nat} {ann : Option Value} : ∀ {n : Nat} {s s' : SharedT} {t : Thread}, topRunT (stepT (denote tb) p w) (stepOk n₀ ann) n s t = some s' → topRun tb p w n₀ ann n s.abs t = some s'.abs
  | 0, _, _, _, h => by cases h
  | n + 1, s, s', t, h => by
    unfold topRunT at h
    unfold topRun
    cases he : through t with
    | true => rw [he] at h; cases h; rfl
    | false =>
      rw [he] at h
      cases hk : stepOk n₀ ann t with
      | false => rw [hk] at h; cases h
      | true =>
        rw [hk] at h
        cases hs : stepT (denote tb) p w s t with
        | none => rw [hs] at h; cases h
        | some r => obtain ⟨s₂, t₂⟩ := r; rw [hs] at h; dsimp only; rw [stepT_spec hs]; exact topRunT_of h
noncomputable def impRunT (stp : SharedT → Thread → Option (SharedT × Thread)) (ex : Thread → Option (List Value)) : Nat → SharedT → Thread → Option SharedT
  | 0, _, _ => none
  | n + 1, s, t => match ex t with
    | some [] => some s
    | some (_ :: _) => none
    | none => match stp s t with
      | some (s', t') => impRunT stp ex n s' t'
      | none => none
theorem impRunT_of {tb : String → Option Builtin} {p : Program} {w : World} : ∀ {n : Nat} {s s' : SharedT} {t : Thread}, impRunT (stepT (denote tb) p w) Thread.atExitBegin n s t = some s' → importEnds tb p w n s.abs t = some s'.abs
  | 0, _, _, _, h => by cases h
  | n + 1, s, s', t, h => by
    unfold impRunT at h
    unfold importEnds
    cases he : t.atExitBegin with
    | some l =>
      rw [he] at h
      cases l with
      | nil => cases h; rfl
      | cons _ _ => cases h
    | none =>
      rw [he] at h
      cases hs : stepT (denote tb) p w s t with
      | none => rw [hs] at h; cases h
      | some r => obtain ⟨s₂, t₂⟩ := r; rw [hs] at h; dsimp only; rw [stepT_spec hs]; exact impRunT_of h
noncomputable def startT (q : Program) : SharedT := ⟨.nil, 0, {}, #[], {}, 1, (start q).1.os⟩
theorem startT_abs (q : Program) : (startT q).abs = (start q).1 := rfl
noncomputable def z0 (P : Params) : Obj := ⟨(.type "dict"), none, (.dict #[(E P (S "__name__") 1 (.str (S "builtins") 160)), (E P (S "__doc__") 2 (.builtin "builtins.__doc__:str#opaque")), (E P (S "__package__") 3 (.builtin "builtins.__package__:str#opaque")), (E P (S "__loader__") 4 (.builtin "builtins.__loader__:shared#opaque")), (E P (S "__spec__") 5 (.builtin "builtins.__spec__#opaque")), (E P (S "__build_class__") 6 (.builtin "__build_class__")), (E P (S "__import__") 7 (.builtin "__import__")), (E P (S "abs") 8 (.builtin "abs")), (E P (S "all") 9 (.builtin "all")), (E P (S "any") 10 (.builtin "any")), (E P (S "ascii") 11 (.builtin "ascii")), (E P (S "bin") 12 (.builtin "bin")), (E P (S "breakpoint") 13 (.builtin "breakpoint")), (E P (S "callable") 14 (.builtin "callable")), (E P (S "chr") 15 (.builtin "chr")), (E P (S "compile") 16 (.builtin "compile")), (E P (S "delattr") 17 (.builtin "delattr")), (E P (S "dir") 18 (.builtin "dir")), (E P (S "divmod") 19 (.builtin "divmod")), (E P (S "eval") 20 (.builtin "eval")), (E P (S "exec") 21 (.builtin "exec")), (E P (S "format") 22 (.builtin "format")), (E P (S "getattr") 23 (.builtin "getattr")), (E P (S "globals") 24 (.builtin "globals")), (E P (S "hasattr") 25 (.builtin "hasattr")), (E P (S "hash") 26 (.builtin "hash")), (E P (S "hex") 27 (.builtin "hex")), (E P (S "id") 28 (.builtin "id")), (E P (S "input") 29 (.builtin "input")), (E P (S "isinstance") 30 (.builtin "isinstance")), (E P (S "issubclass") 31 (.builtin "issubclass")), (E P (S "iter") 32 (.builtin "iter")), (E P (S "aiter") 33 (.builtin "aiter")), (E P (S "len") 34 (.builtin "len")), (E P (S "locals") 35 (.builtin "locals")), (E P (S "max") 36 (.builtin "max")), (E P (S "min") 37 (.builtin "min")), (E P (S "next") 38 (.builtin "next")), (E P (S "anext") 39 (.builtin "anext")), (E P (S "oct") 40 (.builtin "oct")), (E P (S "ord") 41 (.builtin "ord")), (E P (S "pow") 42 (.builtin "pow")), (E P (S "print") 43 (.builtin "print")), (E P (S "repr") 44 (.builtin "repr")), (E P (S "round") 45 (.builtin "round")), (E P (S "setattr") 46 (.builtin "setattr")), (E P (S "sorted") 47 (.builtin "sorted")), (E P (S "sum") 48 (.builtin "sum")), (E P (S "vars") 49 (.builtin "vars")), (E P (S "None") 50 .none), (E P (S "Ellipsis") 51 .ellipsis), (E P (S "NotImplemented") 52 .notImplemented), (E P (S "False") 53 (.bool false)), (E P (S "True") 54 (.bool true)), (E P (S "bool") 55 (.type "bool")), (E P (S "memoryview") 56 (.type "memoryview")), (E P (S "bytearray") 57 (.type "bytearray")), (E P (S "bytes") 58 (.type "bytes")), (E P (S "classmethod") 59 (.type "classmethod")), (E P (S "complex") 60 (.type "complex")), (E P (S "dict") 61 (.type "dict")), (E P (S "enumerate") 62 (.type "enumerate")), (E P (S "filter") 63 (.type "filter")), (E P (S "float") 64 (.type "float")), (E P (S "frozenset") 65 (.type "frozenset")), (E P (S "property") 66 (.type "property")), (E P (S "int") 67 (.type "int")), (E P (S "list") 68 (.type "list")), (E P (S "map") 69 (.type "map")), (E P (S "object") 70 (.type "object")), (E P (S "range") 71 (.type "range")), (E P (S "reversed") 72 (.type "reversed")), (E P (S "set") 73 (.type "set")), (E P (S "slice") 74 (.type "slice")), (E P (S "staticmethod") 75 (.type "staticmethod")), (E P (S "str") 76 (.type "str")), (E P (S "super") 77 (.type "super")), (E P (S "tuple") 78 (.type "tuple")), (E P (S "type") 79 (.type "type")), (E P (S "zip") 80 (.type "zip")), (E P (S "__debug__") 81 (.bool true)), (E P (S "BaseException") 82 (.type "BaseException")), (E P (S "BaseExceptionGroup") 83 (.type "BaseExceptionGroup")), (E P (S "Exception") 84 (.type "Exception")), (E P (S "GeneratorExit") 85 (.type "GeneratorExit")), (E P (S "KeyboardInterrupt") 86 (.type "KeyboardInterrupt")), (E P (S "SystemExit") 87 (.type "SystemExit")), (E P (S "ArithmeticError") 88 (.type "ArithmeticError")), (E P (S "AssertionError") 89 (.type "AssertionError")), (E P (S "AttributeError") 90 (.type "AttributeError")), (E P (S "BufferError") 91 (.type "BufferError")), (E P (S "EOFError") 92 (.type "EOFError")), (E P (S "ImportError") 93 (.type "ImportError")), (E P (S "LookupError") 94 (.type "LookupError")), (E P (S "MemoryError") 95 (.type "MemoryError")), (E P (S "NameError") 96 (.type "NameError")), (E P (S "OSError") 97 (.type "OSError")), (E P (S "ReferenceError") 98 (.type "ReferenceError")), (E P (S "RuntimeError") 99 (.type "RuntimeError")), (E P (S "StopAsyncIteration") 100 (.type "StopAsyncIteration")), (E P (S "StopIteration") 101 (.type "StopIteration")), (E P (S "SyntaxError") 102 (.type "SyntaxError")), (E P (S "SystemError") 103 (.type "SystemError")), (E P (S "TypeError") 104 (.type "TypeError")), (E P (S "ValueError") 105 (.type "ValueError")), (E P (S "Warning") 106 (.type "Warning")), (E P (S "FloatingPointError") 107 (.type "FloatingPointError")), (E P (S "OverflowError") 108 (.type "OverflowError")), (E P (S "ZeroDivisionError") 109 (.type "ZeroDivisionError")), (E P (S "BytesWarning") 110 (.type "BytesWarning")), (E P (S "DeprecationWarning") 111 (.type "DeprecationWarning")), (E P (S "EncodingWarning") 112 (.type "EncodingWarning")), (E P (S "FutureWarning") 113 (.type "FutureWarning")), (E P (S "ImportWarning") 114 (.type "ImportWarning")), (E P (S "PendingDeprecationWarning") 115 (.type "PendingDeprecationWarning")), (E P (S "ResourceWarning") 116 (.type "ResourceWarning")), (E P (S "RuntimeWarning") 117 (.type "RuntimeWarning")), (E P (S "SyntaxWarning") 118 (.type "SyntaxWarning")), (E P (S "UnicodeWarning") 119 (.type "UnicodeWarning")), (E P (S "UserWarning") 120 (.type "UserWarning")), (E P (S "BlockingIOError") 121 (.type "BlockingIOError")), (E P (S "ChildProcessError") 122 (.type "ChildProcessError")), (E P (S "ConnectionError") 123 (.type "ConnectionError")), (E P (S "FileExistsError") 124 (.type "FileExistsError")), (E P (S "FileNotFoundError") 125 (.type "FileNotFoundError")), (E P (S "InterruptedError") 126 (.type "InterruptedError")), (E P (S "IsADirectoryError") 127 (.type "IsADirectoryError")), (E P (S "NotADirectoryError") 128 (.type "NotADirectoryError")), (E P (S "PermissionError") 129 (.type "PermissionError")), (E P (S "ProcessLookupError") 130 (.type "ProcessLookupError")), (E P (S "TimeoutError") 131 (.type "TimeoutError")), (E P (S "IndentationError") 132 (.type "IndentationError")), (E P (S "_IncompleteInputError") 133 (.type "_IncompleteInputError")), (E P (S "IndexError") 134 (.type "IndexError")), (E P (S "KeyError") 135 (.type "KeyError")), (E P (S "ModuleNotFoundError") 136 (.type "ModuleNotFoundError")), (E P (S "NotImplementedError") 137 (.type "NotImplementedError")), (E P (S "PythonFinalizationError") 138 (.type "PythonFinalizationError")), (E P (S "RecursionError") 139 (.type "RecursionError")), (E P (S "UnboundLocalError") 140 (.type "UnboundLocalError")), (E P (S "UnicodeError") 141 (.type "UnicodeError")), (E P (S "BrokenPipeError") 142 (.type "BrokenPipeError")), (E P (S "ConnectionAbortedError") 143 (.type "ConnectionAbortedError")), (E P (S "ConnectionRefusedError") 144 (.type "ConnectionRefusedError")), (E P (S "ConnectionResetError") 145 (.type "ConnectionResetError")), (E P (S "TabError") 146 (.type "TabError")), (E P (S "UnicodeDecodeError") 147 (.type "UnicodeDecodeError")), (E P (S "UnicodeEncodeError") 148 (.type "UnicodeEncodeError")), (E P (S "UnicodeTranslateError") 149 (.type "UnicodeTranslateError")), (E P (S "ExceptionGroup") 150 (.type "ExceptionGroup")), (E P (S "EnvironmentError") 151 (.type "OSError")), (E P (S "IOError") 152 (.type "OSError")), (E P (S "open") 153 (.builtin "open")), (E P (S "quit") 154 (.builtin "builtins.quit#opaque")), (E P (S "exit") 155 (.builtin "builtins.exit#opaque")), (E P (S "copyright") 156 (.builtin "builtins.copyright#opaque")), (E P (S "credits") 157 (.builtin "builtins.credits#opaque")), (E P (S "license") 158 (.builtin "builtins.license#opaque")), (E P (S "help") 159 (.builtin "builtins.help#opaque"))] 159), #[]⟩
noncomputable def z1 (P : Params) : Obj := ⟨(.type "dict"), none, (.dict #[(E P (S "builtins") 162 (.ref 4)), (E P (S "__main__") 163 (.ref 5)), (E P (S "_collections") 246 (.ref 13))] 3), #[]⟩
noncomputable def z2 (P : Params) : Obj := ⟨.none, none, (.dict #[(E P (S "\x69mport.loaded._collections") 185 (.bool true)), (E P (S "class._frozen_importlib.BuiltinImporter") 187 (.ref 15)), (E P (S "watched.\x69mport") 208 (.ref 19)), (E P (S "class._frozen_importlib.ModuleSpec") 218 (.ref 23)), (E P (S "sys.modules.booked-epoch") 247 (.int (3) 0)), (E P (S "sys.modules.landed._collections") 248 (.bool true)), (E P (S "\x69mport.later-laid._collections") 263 (.bool true)), (E P (S "watched.library") 265 (.ref 28)), (E P (S "watched.library-objects") 0 (.str (S "\x0d") 0)), (E P (S "watched.library-deep._collections") 266 (.str (S "\x04\x00\x00\x0c\x04\x00\x00\x0c\x04\x00\x00\x03\x04\x00\x00\x0c\x08\x04dict\x02") 0))] 10), #[]⟩
noncomputable def z3 (P : Params) : Obj := ⟨(.type "dict"), none, (.dict #[(E P (S "__name__") 165 (.str (S "__main__") 164)), (E P (S "__doc__") 166 .none), (E P (S "__package__") 167 .none), (E P (S "__loader__") 168 (.builtin "__main__.__loader__#opaque")), (E P (S "__spec__") 169 .none), (E P (S "__annotations__") 170 (.ref 6)), (E P (S "__builtins__") 171 (.ref 4)), (E P (S "__file__") 173 (.str (S "/claim/cut.py") 172)), (E P (S "__cached__") 174 .none), (E P (S "deque") 272 (.type "collections.deque"))] 10), #[]⟩
noncomputable def z4 (P : Params) : Obj := ⟨(.type "module"), (some 0), .plain, #[]⟩
noncomputable def z5 (P : Params) : Obj := ⟨(.type "module"), (some 3), .plain, #[]⟩
noncomputable def z6 (P : Params) : Obj := ⟨(.type "dict"), none, (.dict #[] 0), #[]⟩
noncomputable def z7 (P : Params) : Obj := ⟨(.type "tuple"), none, (.seq #[] 0), #[]⟩
noncomputable def z8 (P : Params) : Obj := ⟨.none, none, (.fields #[]), #[]⟩
noncomputable def z9 (P : Params) : Obj := ⟨(.type "code"), none, (.fields #[(.str (S "<module>") 176), (.str (S "<module>") 177), (.str (S "/claim/cut.py") 178), (.int (1) 0), (.int (0) 0), (.int (0) 0), (.int (0) 0), (.int (0) 0), (.ref 7), (.bool false), (.int (175) 0), (.ref 8), .none, .none, .none, .none, (.int (179) 0), (.int (1) 0), (.str (S "/claim/cut.py") 180)]), #[]⟩
noncomputable def z10 (P : Params) : Obj := ⟨(.type "frame"), none, .plain, #[(some (.ref 9)), (some (.ref 3)), (some (.ref 3)), none, (some (.str (S "__main__") 164)), none, (some (.ref 0))]⟩
noncomputable def z11 (P : Params) : Obj := ⟨(.type "tuple"), none, (.seq #[(.str (S "deque") 182)] 0), #[]⟩
noncomputable def z12 (P : Params) : Obj := ⟨(.type "dict"), none, (.dict #[(E P (S "__name__") 250 (.str (S "_collections") 249)), (E P (S "__doc__") 251 (.builtin "off-the-table:_collections.__doc__:shared#opaque")), (E P (S "__package__") 253 (.str (S "") 252)), (E P (S "__loader__") 254 (.builtin "off-the-table:_collections.__loader__:shared#opaque")), (E P (S "__spec__") 255 (.builtin "off-the-table:_collections.__spec__:shared#opaque")), (E P (S "_count_elements") 256 (.builtin "_collections._count_elements")), (E P (S "deque") 257 (.type "collections.deque")), (E P (S "defaultdict") 258 (.type "collections.defaultdict")), (E P (S "_deque_iterator") 259 (.builtin "off-the-table:_collections._deque_iterator:shared#opaque")), (E P (S "_deque_reverse_iterator") 260 (.builtin "off-the-table:_collections._deque_reverse_iterator:shared#opaque")), (E P (S "_tuplegetter") 261 (.type "collections._tuplegetter")), (E P (S "OrderedDict") 262 (.type "collections.OrderedDict"))] 12), #[]⟩
noncomputable def z13 (P : Params) : Obj := ⟨(.type "module"), (some 12), .plain, #[]⟩
noncomputable def z14 (P : Params) : Obj := ⟨(.type "dict"), none, (.dict #[(E P (S "__module__") 191 (.str (S "_frozen_importlib") 188)), (E P (S "__firstlineno__") 192 (.int (971) 189)), (E P (S "__doc__") 193 (.builtin "_frozen_importlib.BuiltinImporter.__doc__:str#opaque")), (E P (S "_ORIGIN") 194 (.str (S "built-in") 190)), (E P (S "find_spec") 195 (.builtin "_frozen_importlib.BuiltinImporter.find_spec#opaque")), (E P (S "create_module") 196 (.builtin "_frozen_importlib.BuiltinImporter.create_module#opaque")), (E P (S "exec_module") 197 (.builtin "_frozen_importlib.BuiltinImporter.exec_module#opaque")), (E P (S "get_code") 198 (.builtin "_frozen_importlib.BuiltinImporter.get_code#opaque")), (E P (S "get_source") 199 (.builtin "_frozen_importlib.BuiltinImporter.get_source#opaque")), (E P (S "is_package") 200 (.builtin "_frozen_importlib.BuiltinImporter.is_package#opaque")), (E P (S "load_module") 201 (.builtin "_frozen_importlib.BuiltinImporter.load_module#opaque")), (E P (S "__static_attributes__") 202 (.ref 16)), (E P (S "__dict__") 204 (.ref 17)), (E P (S "__weakref__") 206 (.ref 18))] 14), #[]⟩
noncomputable def z15 (P : Params) : Obj := ⟨(.type "type"), none, (.cls { name := (S "BuiltinImporter"), bases := [(.type "object")], mro := [(.ref 15), (.type "object")], ns := 14, qualname := (S "BuiltinImporter"), hasDict := true, slotNames := [], subclasses := [], abstract := false, collection := none, hasDel := false }), #[]⟩
noncomputable def z16 (P : Params) : Obj := ⟨(.type "tuple"), none, (.seq #[] 0), #[]⟩
noncomputable def z17 (P : Params) : Obj := ⟨(.type "getset_descriptor"), none, (.fields #[(.str (S "__dict__") 203), (.ref 15), (.builtin "function.__dict__"), (.builtin "function.__dict__#set")]), #[]⟩
noncomputable def z18 (P : Params) : Obj := ⟨(.type "getset_descriptor"), none, (.fields #[(.str (S "__weakref__") 205), (.ref 15), (.builtin "ExceptionGroup.__weakref__"), .none]), #[]⟩
noncomputable def z19 (P : Params) : Obj := ⟨.none, none, (.seq #[(.int (14) 0), (.str (PySem.Str.mk #[6, 191, 10, 95, 95, 109, 111, 100, 117, 108, 101, 95, 95, 6, 188, 17, 95, 102, 114, 111, 122, 101, 110, 95, 105, 109, 112, 111, 114, 116, 108, 105, 98, 6, 192, 15, 95, 95, 102, 105, 114, 115, 116, 108, 105, 110, 101, 110, 111, 95, 95, 4, 189, 0, 971, 6, 193, 7, 95, 95, 100, 111, 99, 95, 95, 9, 52, 95, 102, 114, 111, 122, 101, 110, 95, 105, 109, 112, 111, 114, 116, 108, 105, 98, 46, 66, 117, 105, 108, 116, 105, 110, 73, 109, 112, 111, 114, 116, 101, 114, 46, 95, 95, 100, 111, 99, 95, 95, 58, 115, 116, 114, 35, 111, 112, 97, 113, 117, 101, 6, 194, 7, 95, 79, 82, 73, 71, 73, 78, 6, 190, 8, 98, 117, 105, 108, 116, 45, 105, 110, 6, 195, 9, 102, 105, 110, 100, 95, 115, 112, 101, 99, 9, 50, 95, 102, 114, 111, 122, 101, 110, 95, 105, 109, 112, 111, 114, 116, 108, 105, 98, 46, 66, 117, 105, 108, 116, 105, 110, 73, 109, 112, 111, 114, 116, 101, 114, 46, 102, 105, 110, 100, 95, 115, 112, 101, 99, 35, 111, 112, 97, 113, 117, 101, 6, 196, 13, 99, 114, 101, 97, 116, 101, 95, 109, 111, 100, 117, 108, 101, 9, 54, 95, 102, 114, 111, 122, 101, 110, 95, 105, 109, 112, 111, 114, 116, 108, 105, 98, 46, 66, 117, 105, 108, 116, 105, 110, 73, 109, 112, 111, 114, 116, 101, 114, 46, 99, 114, 101, 97, 116, 101, 95, 109, 111, 100, 117, 108, 101, 35, 111, 112, 97, 113, 117, 101, 6, 197, 11, 101, 120, 101, 99, 95, 109, 111, 100, 117, 108, 101, 9, 52, 95, 102, 114, 111, 122, 101, 110, 95, 105, 109, 112, 111, 114, 116, 108, 105, 98, 46, 66, 117, 105, 108, 116, 105, 110, 73, 109, 112, 111, 114, 116, 101, 114, 46, 101, 120, 101, 99, 95, 109, 111, 100, 117, 108, 101, 35, 111, 112, 97, 113, 117, 101, 6, 198, 8, 103, 101, 116, 95, 99, 111, 100, 101, 9, 49, 95, 102, 114, 111, 122, 101, 110, 95, 105, 109, 112, 111, 114, 116, 108, 105, 98, 46, 66, 117, 105, 108, 116, 105, 110, 73, 109, 112, 111, 114, 116, 101, 114, 46, 103, 101, 116, 95, 99, 111, 100, 101, 35, 111, 112, 97, 113, 117, 101, 6, 199, 10, 103, 101, 116, 95, 115, 111, 117, 114, 99, 101, 9, 51, 95, 102, 114, 111, 122, 101, 110, 95, 105, 109, 112, 111, 114, 116, 108, 105, 98, 46, 66, 117, 105, 108, 116, 105, 110, 73, 109, 112, 111, 114, 116, 101, 114, 46, 103, 101, 116, 95, 115, 111, 117, 114, 99, 101, 35, 111, 112, 97, 113, 117, 101, 6, 200, 10, 105, 115, 95, 112, 97, 99, 107, 97, 103, 101, 9, 51, 95, 102, 114, 111, 122, 101, 110, 95, 105, 109, 112, 111, 114, 116, 108, 105, 98, 46, 66, 117, 105, 108, 116, 105, 110, 73, 109, 112, 111, 114, 116, 101, 114, 46, 105, 115, 95, 112, 97, 99, 107, 97, 103, 101, 35, 111, 112, 97, 113, 117, 101, 6, 201, 11, 108, 111, 97, 100, 95, 109, 111, 100, 117, 108, 101, 9, 52, 95, 102, 114, 111, 122, 101, 110, 95, 105, 109, 112, 111, 114, 116, 108, 105, 98, 46, 66, 117, 105, 108, 116, 105, 110, 73, 109, 112, 111, 114, 116, 101, 114, 46, 108, 111, 97, 100, 95, 109, 111, 100, 117, 108, 101, 35, 111, 112, 97, 113, 117, 101, 6, 202, 21, 95, 95, 115, 116, 97, 116, 105, 99, 95, 97, 116, 116, 114, 105, 98, 117, 116, 101, 115, 95, 95, 4, 0, 0, 16, 6, 204, 8, 95, 95, 100, 105, 99, 116, 95, 95, 4, 0, 0, 17, 6, 206, 11, 95, 95, 119, 101, 97, 107, 114, 101, 102, 95, 95, 4, 0, 0, 18]) 0), (.bool true), (.bool true), (.str (S "") 207), (.int (22) 0), (.str (PySem.Str.mk #[6, 229, 10, 95, 95, 109, 111, 100, 117, 108, 101, 95, 95, 6, 219, 17, 95, 102, 114, 111, 122, 101, 110, 95, 105, 109, 112, 111, 114, 116, 108, 105, 98, 6, 230, 15, 95, 95, 102, 105, 114, 115, 116, 108, 105, 110, 101, 110, 111, 95, 95, 4, 220, 0, 562, 6, 231, 7, 95, 95, 100, 111, 99, 95, 95, 9, 47, 95, 102, 114, 111, 122, 101, 110, 95, 105, 109, 112, 111, 114, 116, 108, 105, 98, 46, 77, 111, 100, 117, 108, 101, 83, 112, 101, 99, 46, 95, 95, 100, 111, 99, 95, 95, 58, 115, 116, 114, 35, 111, 112, 97, 113, 117, 101, 6, 232, 8, 95, 95, 105, 110, 105, 116, 95, 95, 9, 44, 95, 102, 114, 111, 122, 101, 110, 95, 105, 109, 112, 111, 114, 116, 108, 105, 98, 46, 77, 111, 100, 117, 108, 101, 83, 112, 101, 99, 46, 95, 95, 105, 110, 105, 116, 95, 95, 35, 111, 112, 97, 113, 117, 101, 6, 233, 8, 95, 95, 114, 101, 112, 114, 95, 95, 9, 44, 95, 102, 114, 111, 122, 101, 110, 95, 105, 109, 112, 111, 114, 116, 108, 105, 98, 46, 77, 111, 100, 117, 108, 101, 83, 112, 101, 99, 46, 95, 95, 114, 101, 112, 114, 95, 95, 35, 111, 112, 97, 113, 117, 101, 6, 234, 6, 95, 95, 101, 113, 95, 95, 9, 42, 95, 102, 114, 111, 122, 101, 110, 95, 105, 109, 112, 111, 114, 116, 108, 105, 98, 46, 77, 111, 100, 117, 108, 101, 83, 112, 101, 99, 46, 95, 95, 101, 113, 95, 95, 35, 111, 112, 97, 113, 117, 101, 6, 235, 6, 99, 97, 99, 104, 101, 100, 9, 42, 95, 102, 114, 111, 122, 101, 110, 95, 105, 109, 112, 111, 114, 116, 108, 105, 98, 46, 77, 111, 100, 117, 108, 101, 83, 112, 101, 99, 46, 99, 97, 99, 104, 101, 100, 35, 111, 112, 97, 113, 117, 101, 6, 236, 6, 112, 97, 114, 101, 110, 116, 9, 42, 95, 102, 114, 111, 122, 101, 110, 95, 105, 109, 112, 111, 114, 116, 108, 105, 98, 46, 77, 111, 100, 117, 108, 101, 83, 112, 101, 99, 46, 112, 97, 114, 101, 110, 116, 35, 111, 112, 97, 113, 117, 101, 6, 237, 12, 104, 97, 115, 95, 108, 111, 99, 97, 116, 105, 111, 110, 9, 48, 95, 102, 114, 111, 122, 101, 110, 95, 105, 109, 112, 111, 114, 116, 108, 105, 98, 46, 77, 111, 100, 117, 108, 101, 83, 112, 101, 99, 46, 104, 97, 115, 95, 108, 111, 99, 97, 116, 105, 111, 110, 35, 111, 112, 97, 113, 117, 101, 6, 238, 21, 95, 95, 115, 116, 97, 116, 105, 99, 95, 97, 116, 116, 114, 105, 98, 117, 116, 101, 115, 95, 95, 4, 0, 0, 24, 6, 240, 8, 95, 95, 100, 105, 99, 116, 95, 95, 4, 0, 0, 25, 6, 242, 11, 95, 95, 119, 101, 97, 107, 114, 101, 102, 95, 95, 4, 0, 0, 26, 6, 243, 8, 95, 95, 104, 97, 115, 104, 95, 95, 0]) 0), (.bool true), (.bool true), (.str (S "") 244)] 1), #[]⟩
noncomputable def z20 (P : Params) : Obj := ⟨(.type "list"), none, (.seq #[] 0), #[]⟩
noncomputable def z21 (P : Params) : Obj := ⟨(.type "dict"), none, (.dict #[(E P (S "name") 210 (.str (S "_collections") 209)), (E P (S "loader") 211 (.ref 15)), (E P (S "origin") 212 (.str (S "built-in") 186)), (E P (S "loader_state") 213 .none), (E P (S "submodule_search_locations") 214 .none), (E P (S "_uninitialized_submodules") 215 (.ref 20)), (E P (S "_set_fileattr") 216 (.bool false)), (E P (S "_cached") 217 .none), (E P (S "_initializing") 245 (.bool false))] 9), #[]⟩
noncomputable def z22 (P : Params) : Obj := ⟨(.type "dict"), none, (.dict #[(E P (S "__module__") 229 (.str (S "_frozen_importlib") 219)), (E P (S "__firstlineno__") 230 (.int (562) 220)), (E P (S "__doc__") 231 (.builtin "_frozen_importlib.ModuleSpec.__doc__:str#opaque")), (E P (S "__init__") 232 (.builtin "_frozen_importlib.ModuleSpec.__init__#opaque")), (E P (S "__repr__") 233 (.builtin "_frozen_importlib.ModuleSpec.__repr__#opaque")), (E P (S "__eq__") 234 (.builtin "_frozen_importlib.ModuleSpec.__eq__#opaque")), (E P (S "cached") 235 (.builtin "_frozen_importlib.ModuleSpec.cached#opaque")), (E P (S "parent") 236 (.builtin "_frozen_importlib.ModuleSpec.parent#opaque")), (E P (S "has_location") 237 (.builtin "_frozen_importlib.ModuleSpec.has_location#opaque")), (E P (S "__static_attributes__") 238 (.ref 24)), (E P (S "__dict__") 240 (.ref 25)), (E P (S "__weakref__") 242 (.ref 26)), (E P (S "__hash__") 243 .none)] 13), #[]⟩
noncomputable def z23 (P : Params) : Obj := ⟨(.type "type"), none, (.cls { name := (S "ModuleSpec"), bases := [(.type "object")], mro := [(.ref 23), (.type "object")], ns := 22, qualname := (S "ModuleSpec"), hasDict := true, slotNames := [], subclasses := [], abstract := false, collection := none, hasDel := false }), #[]⟩
noncomputable def z24 (P : Params) : Obj := ⟨(.type "tuple"), none, (.seq #[(.str (S "_cached") 221), (.str (S "_set_fileattr") 222), (.str (S "_uninitialized_submodules") 223), (.str (S "loader") 224), (.str (S "loader_state") 225), (.str (S "name") 226), (.str (S "origin") 227), (.str (S "submodule_search_locations") 228)] 0), #[]⟩
noncomputable def z25 (P : Params) : Obj := ⟨(.type "getset_descriptor"), none, (.fields #[(.str (S "__dict__") 239), (.ref 23), (.builtin "function.__dict__"), (.builtin "function.__dict__#set")]), #[]⟩
noncomputable def z26 (P : Params) : Obj := ⟨(.type "getset_descriptor"), none, (.fields #[(.str (S "__weakref__") 241), (.ref 23), (.builtin "ExceptionGroup.__weakref__"), .none]), #[]⟩
noncomputable def z27 (P : Params) : Obj := ⟨(.ref 23), (some 21), .plain, #[]⟩
noncomputable def z28 (P : Params) : Obj := ⟨.none, none, (.seq #[(.int (12) 0), (.str (PySem.Str.mk #[6, 250, 8, 95, 95, 110, 97, 109, 101, 95, 95, 6, 249, 12, 95, 99, 111, 108, 108, 101, 99, 116, 105, 111, 110, 115, 6, 251, 7, 95, 95, 100, 111, 99, 95, 95, 9, 31, 95, 99, 111, 108, 108, 101, 99, 116, 105, 111, 110, 115, 46, 95, 95, 100, 111, 99, 95, 95, 58, 115, 116, 114, 35, 111, 112, 97, 113, 117, 101, 6, 253, 11, 95, 95, 112, 97, 99, 107, 97, 103, 101, 95, 95, 6, 252, 0, 6, 254, 10, 95, 95, 108, 111, 97, 100, 101, 114, 95, 95, 4, 0, 0, 15, 6, 255, 8, 95, 95, 115, 112, 101, 99, 95, 95, 4, 0, 0, 27, 6, 256, 15, 95, 99, 111, 117, 110, 116, 95, 101, 108, 101, 109, 101, 110, 116, 115, 9, 28, 95, 99, 111, 108, 108, 101, 99, 116, 105, 111, 110, 115, 46, 95, 99, 111, 117, 110, 116, 95, 101, 108, 101, 109, 101, 110, 116, 115, 6, 257, 5, 100, 101, 113, 117, 101, 8, 17, 99, 111, 108, 108, 101, 99, 116, 105, 111, 110, 115, 46, 100, 101, 113, 117, 101, 6, 258, 11, 100, 101, 102, 97, 117, 108, 116, 100, 105, 99, 116, 8, 23, 99, 111, 108, 108, 101, 99, 116, 105, 111, 110, 115, 46, 100, 101, 102, 97, 117, 108, 116, 100, 105, 99, 116, 6, 259, 15, 95, 100, 101, 113, 117, 101, 95, 105, 116, 101, 114, 97, 116, 111, 114, 8, 27, 99, 111, 108, 108, 101, 99, 116, 105, 111, 110, 115, 46, 95, 100, 101, 113, 117, 101, 95, 105, 116, 101, 114, 97, 116, 111, 114, 6, 260, 23, 95, 100, 101, 113, 117, 101, 95, 114, 101, 118, 101, 114, 115, 101, 95, 105, 116, 101, 114, 97, 116, 111, 114, 8, 35, 99, 111, 108, 108, 101, 99, 116, 105, 111, 110, 115, 46, 95, 100, 101, 113, 117, 101, 95, 114, 101, 118, 101, 114, 115, 101, 95, 105, 116, 101, 114, 97, 116, 111, 114, 6, 261, 12, 95, 116, 117, 112, 108, 101, 103, 101, 116, 116, 101, 114, 8, 24, 99, 111, 108, 108, 101, 99, 116, 105, 111, 110, 115, 46, 95, 116, 117, 112, 108, 101, 103, 101, 116, 116, 101, 114, 6, 262, 11, 79, 114, 100, 101, 114, 101, 100, 68, 105, 99, 116, 8, 23, 99, 111, 108, 108, 101, 99, 116, 105, 111, 110, 115, 46, 79, 114, 100, 101, 114, 101, 100, 68, 105, 99, 116]) 0), (.bool true), (.bool false), (.str (S "_collections") 264)] 0), #[]⟩
noncomputable def k2 (P : Params) : Obj := ⟨.none, none, (.dict #[(E P (S "\x69mport.loaded._collections") 185 (.bool true)), (E P (S "class._frozen_importlib.BuiltinImporter") 187 (.ref 15)), (E P (S "watched.\x69mport") 208 (.ref 19)), (E P (S "class._frozen_importlib.ModuleSpec") 218 (.ref 23)), (E P (S "sys.modules.booked-epoch") 247 (.int (3) 0)), (E P (S "sys.modules.landed._collections") 248 (.bool true)), (E P (S "\x69mport.later-laid._collections") 263 (.bool true)), (E P (S "watched.library") 265 (.ref 28)), (E P (S "watched.library-objects") 0 (.str (S "\x0d") 0)), (E P (S "watched.library-deep._collections") 266 (.str (S "\x04\x00\x00\x0c\x04\x00\x00\x0c\x04\x00\x00\x03\x04\x00\x00\x0c\x08\x04dict\x02") 0)), (E P (S "type.__subclasses__.OSError.0") 520 (.int (197) 0)), (E P (S "type.__subclasses__.OSError.n") 521 (.int (1) 0))] 12), #[]⟩
noncomputable def k3 (P : Params) : Obj := ⟨(.type "dict"), none, (.dict #[(E P (S "__name__") 165 (.str (S "law_il0100_01") 1342)), (E P (S "__doc__") 166 .none), (E P (S "__package__") 167 .none), (E P (S "__loader__") 168 (.builtin "__main__.__loader__#opaque")), (E P (S "__spec__") 169 .none), (E P (S "__annotations__") 170 (.ref 6)), (E P (S "__builtins__") 171 (.ref 4)), (E P (S "__file__") 173 (.str (S "/claim/cut.py") 172)), (E P (S "__cached__") 174 .none), (E P (S "deque") 272 (.type "collections.deque")), (E P (S "_wall") 285 (.ref 39)), (E P (S "_iter_escaped_chars") 297 (.ref 46)), (E P (S "_strip_quoted_realnames") 309 (.ref 53)), (E P (S "_check_parenthesis") 319 (.ref 60)), (E P (S "_plain_name") 330 (.ref 67)), (E P (S "ABCMeta") 356 (.ref 84)), (E P (S "_ABCLike") 399 (.ref 117)), (E P (S "_abc_plain_meta") 406 (.ref 126)), (E P (S "fspath") 418 (.ref 133)), (E P (S "_check_arg_types") 431 (.ref 744)), (E P (S "check_arg_types_genericpath") 432 (.ref 140)), (E P (S "_get_sep") 441 (.ref 147)), (E P (S "join") 452 (.ref 758)), (E P (S "join_posixpath") 453 (.ref 154)), (E P (S "splitroot") 462 (.ref 161)), (E P (S "normpath") 477 (.ref 168)), (E P (S "commonpath") 483 (.ref 173)), (E P (S "_whence") 493 (.ref 180)), (E P (S "_index") 501 (.ref 187)), (E P (S "UnsupportedOperation") 523 (.ref 197)), (E P (S "IOBase") 555 (.ref 217)), (E P (S "BufferedIOBase") 573 (.ref 232)), (E P (S "TextIOBase") 591 (.ref 244)), (E P (S "BytesIO") 853 (.ref 474)), (E P (S "StringIO") 1140 (.ref 721)), (E P (S "_kind") 1151 (.ref 730)), (E P (S "_fspath") 1160 (.ref 737)), (E P (S "check_arg_types_path") 1171 (.ref 744)), (E P (S "isabs") 1178 (.ref 751)), (E P (S "join_path") 1190 (.ref 758)), (E P (S "dirname") 1200 (.ref 765)), (E P (S "shlex") 1341 (.ref 856)), (E P (S "_law_pieces") 1357 (.ref 867)), (E P (S "_law_walk") 1369 (.ref 874)), (E P (S "_law_steps") 1375 (.ref 879)), (E P (S "_law_table") 1381 (.ref 884)), (E P (S "_law_seen") 1387 (.ref 889)), (E P (S "_law_turned") 1395 (.ref 896)), (E P (S "law") 1401 (.ref 901))] 49), #[]⟩
noncomputable def k45 (P : Params) : Obj := ⟨(.type "code"), none, (.fields #[(.str (S "_iter_escaped_chars") 288), (.str (S "_iter_escaped_chars") 289), (.str (S "/claim/cut.py") 290), (.int (6) 0), (.int (1) 0), (.int (0) 0), (.int (0) 0), (.int (35) 0), (.ref 40), (.bool true), (.int (273) 0), (.ref 41), .none, (.ref 42), (.ref 43), (.ref 44), (.int (295) 0), (.int (6) 0), (.str (S "/claim/cut.py") 296)]), #[]⟩
noncomputable def k46 (P : Params) : Obj := ⟨(.type "function"), none, (.func (fO (nth top 3) (S "_iter_escaped_chars") .none .none .none (.str (S "cpy313.email.utils") 286) none (.ref 45) .none)), #[]⟩
noncomputable def k52 (P : Params) : Obj := ⟨(.type "code"), none, (.fields #[(.str (S "_strip_quoted_realnames") 298), (.str (S "_strip_quoted_realnames") 299), (.str (S "/claim/cut.py") 300), (.int (19) 0), (.int (1) 0), (.int (0) 0), (.int (0) 0), (.int (3) 0), (.ref 47), (.bool true), (.int (273) 0), (.ref 48), .none, (.ref 49), (.ref 50), (.ref 51), (.int (307) 0), (.int (19) 0), (.str (S "/claim/cut.py") 308)]), #[]⟩
noncomputable def k53 (P : Params) : Obj := ⟨(.type "function"), none, (.func (fO (nth top 4) (S "_strip_quoted_realnames") .none .none .none (.str (S "cpy313.email.utils") 286) none (.ref 52) .none)), #[]⟩
noncomputable def k59 (P : Params) : Obj := ⟨(.type "code"), none, (.fields #[(.str (S "_check_parenthesis") 310), (.str (S "_check_parenthesis") 311), (.str (S "/claim/cut.py") 312), (.int (37) 0), (.int (1) 0), (.int (0) 0), (.int (0) 0), (.int (3) 0), (.ref 54), (.bool true), (.int (273) 0), (.ref 55), .none, (.ref 56), (.ref 57), (.ref 58), (.int (317) 0), (.int (37) 0), (.str (S "/claim/cut.py") 318)]), #[]⟩
noncomputable def k60 (P : Params) : Obj := ⟨(.type "function"), none, (.func (fO (nth top 5) (S "_check_parenthesis") .none .none .none (.str (S "cpy313.email.utils") 286) none (.ref 59) .none)), #[]⟩
noncomputable def k132 (P : Params) : Obj := ⟨(.type "code"), none, (.fields #[(.str (S "fspath") 409), (.str (S "fspath") 410), (.str (S "/claim/cut.py") 411), (.int (79) 0), (.int (1) 0), (.int (0) 0), (.int (0) 0), (.int (3) 0), (.ref 127), (.bool true), (.int (273) 0), (.ref 128), .none, (.ref 129), (.ref 130), (.ref 131), (.int (416) 0), (.int (79) 0), (.str (S "/claim/cut.py") 417)]), #[]⟩
noncomputable def k133 (P : Params) : Obj := ⟨(.type "function"), none, (.func (fO (nth top 14) (S "fspath") .none .none .none (.str (S "os") 407) none (.ref 132) .none)), #[]⟩
noncomputable def k146 (P : Params) : Obj := ⟨(.type "code"), none, (.fields #[(.str (S "_get_sep") 435), (.str (S "_get_sep") 436), (.str (S "/claim/cut.py") 437), (.int (109) 0), (.int (1) 0), (.int (0) 0), (.int (0) 0), (.int (3) 0), (.ref 141), (.bool true), (.int (273) 0), (.ref 142), .none, (.ref 143), (.ref 144), (.ref 145), (.int (439) 0), (.int (109) 0), (.str (S "/claim/cut.py") 440)]), #[]⟩
noncomputable def k147 (P : Params) : Obj := ⟨(.type "function"), none, (.func (fO (nth top 19) (S "_get_sep") .none .none .none (.str (S "cpy313.posixpath") 433) none (.ref 146) .none)), #[]⟩
noncomputable def k153 (P : Params) : Obj := ⟨(.type "code"), none, (.fields #[(.str (S "join") 442), (.str (S "join") 443), (.str (S "/claim/cut.py") 444), (.int (114) 0), (.int (1) 0), (.int (0) 0), (.int (0) 0), (.int (7) 0), (.ref 148), (.bool true), (.int (273) 0), (.ref 149), .none, (.ref 150), (.ref 151), (.ref 152), (.int (450) 0), (.int (114) 0), (.str (S "/claim/cut.py") 451)]), #[]⟩
noncomputable def k154 (P : Params) : Obj := ⟨(.type "function"), none, (.func (fO (nth top 20) (S "join") .none .none .none (.str (S "cpy313.posixpath") 433) none (.ref 153) .none)), #[]⟩
noncomputable def k160 (P : Params) : Obj := ⟨(.type "code"), none, (.fields #[(.str (S "splitroot") 454), (.str (S "splitroot") 455), (.str (S "/claim/cut.py") 456), (.int (132) 0), (.int (1) 0), (.int (0) 0), (.int (0) 0), (.int (3) 0), (.ref 155), (.bool true), (.int (273) 0), (.ref 156), .none, (.ref 157), (.ref 158), (.ref 159), (.int (460) 0), (.int (132) 0), (.str (S "/claim/cut.py") 461)]), #[]⟩
noncomputable def k161 (P : Params) : Obj := ⟨(.type "function"), none, (.func (fO (nth top 22) (S "splitroot") .none .none .none (.str (S "cpy313.posixpath") 433) none (.ref 160) .none)), #[]⟩
noncomputable def k167 (P : Params) : Obj := ⟨(.type "code"), none, (.fields #[(.str (S "normpath") 463), (.str (S "normpath") 464), (.str (S "/claim/cut.py") 465), (.int (146) 0), (.int (1) 0), (.int (0) 0), (.int (0) 0), (.int (3) 0), (.ref 162), (.bool true), (.int (273) 0), (.ref 163), .none, (.ref 164), (.ref 165), (.ref 166), (.int (475) 0), (.int (146) 0), (.str (S "/claim/cut.py") 476)]), #[]⟩
noncomputable def k168 (P : Params) : Obj := ⟨(.type "function"), none, (.func (fO (nth top 23) (S "normpath") .none .none .none (.str (S "cpy313.posixpath") 433) none (.ref 167) .none)), #[]⟩
noncomputable def k172 (P : Params) : Obj := ⟨(.type "code"), none, (.fields #[(.str (S "commonpath") 478), (.str (S "commonpath") 479), (.str (S "/claim/cut.py") 480), (.int (171) 0), (.int (1) 0), (.int (0) 0), (.int (0) 0), (.int (3) 0), (.ref 169), (.bool true), (.int (273) 0), (.ref 170), .none, .none, .none, (.ref 171), (.int (481) 0), (.int (171) 0), (.str (S "/claim/cut.py") 482)]), #[]⟩
noncomputable def k173 (P : Params) : Obj := ⟨(.type "function"), none, (.func (fO (nth top 24) (S "commonpath") .none .none .none (.str (S "cpy313.posixpath") 433) none (.ref 172) .none)), #[]⟩
noncomputable def k186 (P : Params) : Obj := ⟨(.type "code"), none, (.fields #[(.str (S "_index") 494), (.str (S "_index") 495), (.str (S "/claim/cut.py") 496), (.int (206) 0), (.int (2) 0), (.int (0) 0), (.int (0) 0), (.int (3) 0), (.ref 181), (.bool true), (.int (273) 0), (.ref 182), .none, (.ref 183), (.ref 184), (.ref 185), (.int (499) 0), (.int (206) 0), (.str (S "/claim/cut.py") 500)]), #[]⟩
noncomputable def k187 (P : Params) : Obj := ⟨(.type "function"), none, (.func (fO (nth top 27) (S "_index") .none .none .none (.str (S "io") 484) none (.ref 186) .none)), #[]⟩
noncomputable def k213 (P : Params) : Obj := ⟨(.type "code"), none, (.fields #[(.str (S "__new__") 538), (.str (S "IOBase.__new__") 539), (.str (S "/claim/cut.py") 540), (.int (218) 0), (.int (1) 0), (.int (1) 0), (.int (0) 0), (.int (15) 0), (.ref 208), (.bool true), (.int (273) 0), (.ref 209), .none, (.ref 210), (.ref 211), (.ref 212), (.int (544) 0), (.int (218) 0), (.str (S "/claim/cut.py") 545)]), #[]⟩
noncomputable def k214 (P : Params) : Obj := ⟨(.type "function"), none, (.func (fO (nth (cB (nth top 29)) 1) (S "IOBase.__new__") .none .none .none (.str (S "io") 484) none (.ref 213) .none)), #[]⟩
noncomputable def k216 (P : Params) : Obj := ⟨(.type "dict"), none, (.dict #[(E P (S "__module__") 531 (.str (S "io") 536)), (E P (S "__firstlineno__") 535 (.int (215) 534)), (E P (S "__new__") 546 (.ref 218)), (E P (S "__static_attributes__") 547 (.ref 215)), (E P (S "__dict__") 550 (.ref 219)), (E P (S "__weakref__") 552 (.ref 220)), (E P (S "__doc__") 553 .none)] 4), #[]⟩
noncomputable def k217 (P : Params) : Obj := ⟨(.type "type"), none, (.cls { name := (S "IOBase"), bases := [(.type "object")], mro := [(.ref 217), (.type "object")], ns := 216, qualname := (S "IOBase"), hasDict := true, slotNames := [], subclasses := [(.ref 232), (.ref 244)], abstract := false, collection := none, hasDel := false }), #[none, none, (some (.str (S "IOBase") 524)), (some (.str (S "IOBase") 532)), (some .none), (some (.bool true))]⟩
noncomputable def k218 (P : Params) : Obj := ⟨(.type "staticmethod"), none, (.fields #[(.ref 214)]), #[]⟩
noncomputable def k243 (P : Params) : Obj := ⟨(.type "dict"), none, (.dict #[(E P (S "__module__") 581 (.str (S "io") 586)), (E P (S "__firstlineno__") 585 (.int (224) 584)), (E P (S "__static_attributes__") 588 (.ref 242)), (E P (S "__doc__") 589 .none)] 2), #[]⟩
noncomputable def k244 (P : Params) : Obj := ⟨(.type "type"), none, (.cls { name := (S "TextIOBase"), bases := [(.ref 217)], mro := [(.ref 244), (.ref 217), (.type "object")], ns := 243, qualname := (S "TextIOBase"), hasDict := true, slotNames := [], subclasses := [(.ref 721)], abstract := false, collection := none, hasDel := false }), #[(some (.ref 235)), none, (some (.str (S "TextIOBase") 574)), (some (.str (S "TextIOBase") 582)), (some .none), (some (.bool true))]⟩
noncomputable def k474 (P : Params) : Obj := ⟨(.type "type"), none, (.cls { name := (S "BytesIO"), bases := [(.ref 232)], mro := [(.ref 474), (.ref 232), (.ref 217), (.type "object")], ns := 473, qualname := (S "BytesIO"), hasDict := true, slotNames := [], subclasses := [], abstract := false, collection := none, hasDel := false }), #[(some (.ref 247)), none, (some (.str (S "BytesIO") 592)), (some (.str (S "BytesIO") 600)), (some .none), (some (.bool true))]⟩
noncomputable def k484 (P : Params) : Obj := ⟨(.type "tuple"), none, (.seq #[(.str (S "") 868), (.str (S "\n") 869)] 0), #[]⟩
noncomputable def k490 (P : Params) : Obj := ⟨(.type "code"), none, (.fields #[(.str (S "__init__") 870), (.str (S "StringIO.__init__") 871), (.str (S "/claim/cut.py") 872), (.int (399) 0), (.int (3) 0), (.int (0) 0), (.int (0) 0), (.int (3) 0), (.ref 485), (.bool true), (.int (273) 0), (.ref 486), .none, (.ref 487), (.ref 488), (.ref 489), (.int (876) 0), (.int (399) 0), (.str (S "/claim/cut.py") 877)]), #[]⟩
noncomputable def k491 (P : Params) : Obj := ⟨(.type "function"), none, (.func (fO (nth (cB (nth top 33)) 1) (S "StringIO.__init__") (.ref 484) .none .none (.str (S "io") 484) none (.ref 490) .none)), #[]⟩
noncomputable def k497 (P : Params) : Obj := ⟨(.type "code"), none, (.fields #[(.str (S "__translated") 879), (.str (S "StringIO.__translated") 880), (.str (S "/claim/cut.py") 881), (.int (412) 0), (.int (2) 0), (.int (0) 0), (.int (0) 0), (.int (3) 0), (.ref 492), (.bool true), (.int (273) 0), (.ref 493), .none, (.ref 494), (.ref 495), (.ref 496), (.int (885) 0), (.int (412) 0), (.str (S "/claim/cut.py") 886)]), #[]⟩
noncomputable def k498 (P : Params) : Obj := ⟨(.type "function"), none, (.func (fO (nth (cB (nth top 33)) 2) (S "StringIO.__translated") .none .none .none (.str (S "io") 484) none (.ref 497) .none)), #[]⟩
noncomputable def k504 (P : Params) : Obj := ⟨(.type "code"), none, (.fields #[(.str (S "__check") 888), (.str (S "StringIO.__check") 889), (.str (S "/claim/cut.py") 890), (.int (420) 0), (.int (1) 0), (.int (0) 0), (.int (0) 0), (.int (3) 0), (.ref 499), (.bool true), (.int (273) 0), (.ref 500), .none, (.ref 501), (.ref 502), (.ref 503), (.int (892) 0), (.int (420) 0), (.str (S "/claim/cut.py") 893)]), #[]⟩
noncomputable def k505 (P : Params) : Obj := ⟨(.type "function"), none, (.func (fO (nth (cB (nth top 33)) 3) (S "StringIO.__check") .none .none .none (.str (S "io") 484) none (.ref 504) .none)), #[]⟩
noncomputable def k660 (P : Params) : Obj := ⟨(.type "tuple"), none, (.seq #[(.int (-1) 1061)] 0), #[]⟩
noncomputable def k666 (P : Params) : Obj := ⟨(.type "code"), none, (.fields #[(.str (S "read") 1062), (.str (S "StringIO.read") 1063), (.str (S "/claim/cut.py") 1064), (.int (542) 0), (.int (2) 0), (.int (2) 0), (.int (0) 0), (.int (3) 0), (.ref 661), (.bool true), (.int (273) 0), (.ref 662), .none, (.ref 663), (.ref 664), (.ref 665), (.int (1069) 0), (.int (542) 0), (.str (S "/claim/cut.py") 1070)]), #[]⟩
noncomputable def k667 (P : Params) : Obj := ⟨(.type "function"), none, (.func (fO (nth (cB (nth top 33)) 25) (S "StringIO.read") (.ref 660) .none .none (.str (S "io") 484) none (.ref 666) .none)), #[]⟩
noncomputable def k720 (P : Params) : Obj := ⟨(.type "dict"), none, (.dict #[(E P (S "__module__") 861 (.str (S "_io") 866)), (E P (S "__firstlineno__") 865 (.int (396) 864)), (E P (S "__init__") 878 (.ref 491)), (E P (S "_StringIO__translated") 887 (.ref 498)), (E P (S "_StringIO__check") 894 (.ref 505)), (E P (S "_StringIO__check_dot") 901 (.ref 512)), (E P (S "_StringIO__line") 916 (.ref 519)), (E P (S "closed") 924 (.ref 527)), (E P (S "line_buffering") 932 (.ref 535)), (E P (S "newlines") 940 (.ref 543)), (E P (S "encoding") 948 (.ref 551)), (E P (S "errors") 956 (.ref 559)), (E P (S "close") 963 (.ref 566)), (E P (S "__enter__") 970 (.ref 573)), (E P (S "__exit__") 978 (.ref 580)), (E P (S "readable") 985 (.ref 587)), (E P (S "writable") 992 (.ref 594)), (E P (S "seekable") 999 (.ref 601)), (E P (S "isatty") 1006 (.ref 608)), (E P (S "flush") 1013 (.ref 615)), (E P (S "fileno") 1020 (.ref 622)), (E P (S "detach") 1027 (.ref 629)), (E P (S "getvalue") 1034 (.ref 636)), (E P (S "tell") 1041 (.ref 643)), (E P (S "seek") 1051 (.ref 651)), (E P (S "truncate") 1059 (.ref 659)), (E P (S "read") 1071 (.ref 667)), (E P (S "readline") 1081 (.ref 675)), (E P (S "readlines") 1091 (.ref 683)), (E P (S "__iter__") 1098 (.ref 690)), (E P (S "__next__") 1106 (.ref 697)), (E P (S "write") 1118 (.ref 704)), (E P (S "writelines") 1126 (.ref 711)), (E P (S "__repr__") 1133 (.ref 718)), (E P (S "__static_attributes__") 1137 (.ref 719)), (E P (S "__doc__") 1138 .none)] 2), #[]⟩
noncomputable def k721 (P : Params) : Obj := ⟨(.type "type"), none, (.cls { name := (S "StringIO"), bases := [(.ref 244)], mro := [(.ref 721), (.ref 244), (.ref 217), (.type "object")], ns := 720, qualname := (S "StringIO"), hasDict := true, slotNames := [], subclasses := [], abstract := false, collection := none, hasDel := false }), #[(some (.ref 477)), none, (some (.str (S "StringIO") 854)), (some (.str (S "StringIO") 862)), (some .none), (some (.bool true))]⟩
noncomputable def k773 (P : Params) : Obj := ⟨(.type "tuple"), none, (.seq #[.none, .none, (.bool false), (.bool false)] 0), #[]⟩
noncomputable def k779 (P : Params) : Obj := ⟨(.type "code"), none, (.fields #[(.str (S "__init__") 1215), (.str (S "shlex.__init__") 1216), (.str (S "/claim/cut.py") 1217), (.int (669) 0), (.int (5) 0), (.int (0) 0), (.int (0) 0), (.int (3) 0), (.ref 774), (.bool true), (.int (273) 0), (.ref 775), .none, (.ref 776), (.ref 777), (.ref 778), (.int (1224) 0), (.int (669) 0), (.str (S "/claim/cut.py") 1225)]), #[]⟩
noncomputable def k780 (P : Params) : Obj := ⟨(.type "function"), none, (.func (fO (nth (cB (nth top 44)) 0) (S "shlex.__init__") (.ref 773) .none .none (.str (S "cpy313.shlex") 1201) none (.ref 779) .none)), #[]⟩
noncomputable def k786 (P : Params) : Obj := ⟨(.type "code"), none, (.fields #[(.str (S "punctuation_chars") 1227), (.str (S "shlex.punctuation_chars") 1228), (.str (S "/claim/cut.py") 1229), (.int (710) 0), (.int (1) 0), (.int (0) 0), (.int (0) 0), (.int (3) 0), (.ref 781), (.bool true), (.int (273) 0), (.ref 782), .none, (.ref 783), (.ref 784), (.ref 785), (.int (1231) 0), (.int (710) 0), (.str (S "/claim/cut.py") 1232)]), #[]⟩
noncomputable def k787 (P : Params) : Obj := ⟨(.type "function"), none, (.func (fO (nth (cB (nth top 44)) 1) (S "shlex.punctuation_chars") .none .none .none (.str (S "cpy313.shlex") 1201) none (.ref 786) .none)), #[]⟩
noncomputable def k788 (P : Params) : Obj := ⟨(.type "property"), none, (.fields #[(.ref 787), .none, .none, .none, (.str (S "punctuation_chars") 1234), (.bool false)]), #[]⟩
noncomputable def k816 (P : Params) : Obj := ⟨(.type "code"), none, (.fields #[(.str (S "get_token") 1259), (.str (S "shlex.get_token") 1260), (.str (S "/claim/cut.py") 1261), (.int (737) 0), (.int (1) 0), (.int (0) 0), (.int (0) 0), (.int (3) 0), (.ref 811), (.bool true), (.int (273) 0), (.ref 812), .none, (.ref 813), (.ref 814), (.ref 815), (.int (1268) 0), (.int (737) 0), (.str (S "/claim/cut.py") 1269)]), #[]⟩
noncomputable def k817 (P : Params) : Obj := ⟨(.type "function"), none, (.func (fO (nth (cB (nth top 44)) 5) (S "shlex.get_token") .none .none .none (.str (S "cpy313.shlex") 1201) none (.ref 816) .none)), #[]⟩
noncomputable def k823 (P : Params) : Obj := ⟨(.type "code"), none, (.fields #[(.str (S "read_token") 1271), (.str (S "shlex.read_token") 1272), (.str (S "/claim/cut.py") 1273), (.int (764) 0), (.int (1) 0), (.int (0) 0), (.int (0) 0), (.int (3) 0), (.ref 818), (.bool true), (.int (273) 0), (.ref 819), .none, (.ref 820), (.ref 821), (.ref 822), (.int (1279) 0), (.int (764) 0), (.str (S "/claim/cut.py") 1280)]), #[]⟩
noncomputable def k824 (P : Params) : Obj := ⟨(.type "function"), none, (.func (fO (nth (cB (nth top 44)) 6) (S "shlex.read_token") .none .none .none (.str (S "cpy313.shlex") 1201) none (.ref 823) .none)), #[]⟩
noncomputable def k855 (P : Params) : Obj := ⟨(.type "dict"), none, (.dict #[(E P (S "__module__") 1210 (.str (S "cpy313.shlex") 1201)), (E P (S "__firstlineno__") 1214 (.int (667) 1213)), (E P (S "__init__") 1226 (.ref 780)), (E P (S "punctuation_chars") 1234 (.ref 788)), (E P (S "push_token") 1242 (.ref 795)), (E P (S "push_source") 1251 (.ref 803)), (E P (S "pop_source") 1258 (.ref 810)), (E P (S "get_token") 1270 (.ref 817)), (E P (S "read_token") 1281 (.ref 824)), (E P (S "sourcehook") 1289 (.ref 831)), (E P (S "error_leader") 1298 (.ref 839)), (E P (S "__iter__") 1305 (.ref 846)), (E P (S "__next__") 1313 (.ref 853)), (E P (S "__static_attributes__") 1334 (.ref 854)), (E P (S "__dict__") 1336 (.ref 857)), (E P (S "__weakref__") 1338 (.ref 858)), (E P (S "__doc__") 1339 .none)] 4), #[]⟩
noncomputable def k856 (P : Params) : Obj := ⟨(.type "type"), none, (.cls { name := (S "shlex"), bases := [(.type "object")], mro := [(.ref 856), (.type "object")], ns := 855, qualname := (S "shlex"), hasDict := true, slotNames := [], subclasses := [], abstract := false, collection := none, hasDel := false }), #[none, none, (some (.str (S "shlex") 1203)), (some (.str (S "shlex") 1211)), (some (.builtin "object.__new__")), (some (.bool true))]⟩
noncomputable def k866 (P : Params) : Obj := ⟨(.type "code"), none, (.fields #[(.str (S "_law_pieces") 1344), (.str (S "_law_pieces") 1345), (.str (S "/claim/cut.py") 1346), (.int (920) 0), (.int (1) 0), (.int (0) 0), (.int (0) 0), (.int (3) 0), (.ref 861), (.bool true), (.int (273) 0), (.ref 862), .none, (.ref 863), (.ref 864), (.ref 865), (.int (1355) 0), (.int (920) 0), (.str (S "/claim/cut.py") 1356)]), #[]⟩
noncomputable def k867 (P : Params) : Obj := ⟨(.type "function"), none, (.func (fO (nth top 46) (S "_law_pieces") .none .none .none (.str (S "law_il0100_01") 1342) none (.ref 866) .none)), #[]⟩
noncomputable def k873 (P : Params) : Obj := ⟨(.type "code"), none, (.fields #[(.str (S "_law_walk") 1358), (.str (S "_law_walk") 1359), (.str (S "/claim/cut.py") 1360), (.int (932) 0), (.int (1) 0), (.int (0) 0), (.int (0) 0), (.int (3) 0), (.ref 868), (.bool true), (.int (273) 0), (.ref 869), .none, (.ref 870), (.ref 871), (.ref 872), (.int (1367) 0), (.int (932) 0), (.str (S "/claim/cut.py") 1368)]), #[]⟩
noncomputable def k874 (P : Params) : Obj := ⟨(.type "function"), none, (.func (fO (nth top 47) (S "_law_walk") .none .none .none (.str (S "law_il0100_01") 1342) none (.ref 873) .none)), #[]⟩
noncomputable def k878 (P : Params) : Obj := ⟨(.type "code"), none, (.fields #[(.str (S "_law_steps") 1370), (.str (S "_law_steps") 1371), (.str (S "/claim/cut.py") 1372), (.int (944) 0), (.int (2) 0), (.int (0) 0), (.int (0) 0), (.int (3) 0), (.ref 875), (.bool true), (.int (273) 0), (.ref 876), .none, .none, .none, (.ref 877), (.int (1373) 0), (.int (944) 0), (.str (S "/claim/cut.py") 1374)]), #[]⟩
noncomputable def k879 (P : Params) : Obj := ⟨(.type "function"), none, (.func (fO (nth top 48) (S "_law_steps") .none .none .none (.str (S "law_il0100_01") 1342) none (.ref 878) .none)), #[]⟩
noncomputable def k883 (P : Params) : Obj := ⟨(.type "code"), none, (.fields #[(.str (S "_law_table") 1376), (.str (S "_law_table") 1377), (.str (S "/claim/cut.py") 1378), (.int (947) 0), (.int (1) 0), (.int (0) 0), (.int (0) 0), (.int (3) 0), (.ref 880), (.bool true), (.int (273) 0), (.ref 881), .none, .none, .none, (.ref 882), (.int (1379) 0), (.int (947) 0), (.str (S "/claim/cut.py") 1380)]), #[]⟩
noncomputable def k884 (P : Params) : Obj := ⟨(.type "function"), none, (.func (fO (nth top 49) (S "_law_table") .none .none .none (.str (S "law_il0100_01") 1342) none (.ref 883) .none)), #[]⟩
noncomputable def k888 (P : Params) : Obj := ⟨(.type "code"), none, (.fields #[(.str (S "_law_seen") 1382), (.str (S "_law_seen") 1383), (.str (S "/claim/cut.py") 1384), (.int (955) 0), (.int (1) 0), (.int (0) 0), (.int (0) 0), (.int (3) 0), (.ref 885), (.bool true), (.int (273) 0), (.ref 886), .none, .none, .none, (.ref 887), (.int (1385) 0), (.int (955) 0), (.str (S "/claim/cut.py") 1386)]), #[]⟩
noncomputable def k889 (P : Params) : Obj := ⟨(.type "function"), none, (.func (fO (nth top 50) (S "_law_seen") .none .none .none (.str (S "law_il0100_01") 1342) none (.ref 888) .none)), #[]⟩
noncomputable def k895 (P : Params) : Obj := ⟨(.type "code"), none, (.fields #[(.str (S "_law_turned") 1388), (.str (S "_law_turned") 1389), (.str (S "/claim/cut.py") 1390), (.int (957) 0), (.int (1) 0), (.int (0) 0), (.int (0) 0), (.int (3) 0), (.ref 890), (.bool true), (.int (273) 0), (.ref 891), .none, (.ref 892), (.ref 893), (.ref 894), (.int (1393) 0), (.int (957) 0), (.str (S "/claim/cut.py") 1394)]), #[]⟩
noncomputable def k896 (P : Params) : Obj := ⟨(.type "function"), none, (.func (fO (nth top 51) (S "_law_turned") .none .none .none (.str (S "law_il0100_01") 1342) none (.ref 895) .none)), #[]⟩
noncomputable def k900 (P : Params) : Obj := ⟨(.type "code"), none, (.fields #[(.str (S "law") 1396), (.str (S "law") 1397), (.str (S "/claim/cut.py") 1398), (.int (962) 0), (.int (1) 0), (.int (0) 0), (.int (0) 0), (.int (3) 0), (.ref 897), (.bool true), (.int (273) 0), (.ref 898), .none, .none, .none, (.ref 899), (.int (1399) 0), (.int (962) 0), (.str (S "/claim/cut.py") 1400)]), #[]⟩
noncomputable def k901 (P : Params) : Obj := ⟨(.type "function"), none, (.func (fO (nth top 52) (S "law") .none .none .none (.str (S "law_il0100_01") 1342) none (.ref 900) .none)), #[]⟩
noncomputable def kf (P : Params) : Frag := (nat_lit 2, k2 P) :: (nat_lit 3, k3 P) :: (nat_lit 45, k45 P) :: (nat_lit 46, k46 P) :: (nat_lit 52, k52 P) :: (nat_lit 53, k53 P) :: (nat_lit 59, k59 P) :: (nat_lit 60, k60 P) :: (nat_lit 132, k132 P) :: (nat_lit 133, k133 P) :: (nat_lit 146, k146 P) :: (nat_lit 147, k147 P) :: (nat_lit 153, k153 P) :: (nat_lit 154, k154 P) :: (nat_lit 160, k160 P) :: (nat_lit 161, k161 P) :: (nat_lit 167, k167 P) :: (nat_lit 168, k168 P) :: (nat_lit 172, k172 P) :: (nat_lit 173, k173 P) :: (nat_lit 186, k186 P) :: (nat_lit 187, k187 P) :: (nat_lit 213, k213 P) :: (nat_lit 214, k214 P) :: (nat_lit 216, k216 P) :: (nat_lit 217, k217 P) :: (nat_lit 218, k218 P) :: (nat_lit 243, k243 P) :: (nat_lit 244, k244 P) :: (nat_lit 474, k474 P) :: (nat_lit 484, k484 P) :: (nat_lit 490, k490 P) :: (nat_lit 491, k491 P) :: (nat_lit 497, k497 P) :: (nat_lit 498, k498 P) :: (nat_lit 504, k504 P) :: (nat_lit 505, k505 P) :: (nat_lit 660, k660 P) :: (nat_lit 666, k666 P) :: (nat_lit 667, k667 P) :: (nat_lit 720, k720 P) :: (nat_lit 721, k721 P) :: (nat_lit 773, k773 P) :: (nat_lit 779, k779 P) :: (nat_lit 780, k780 P) :: (nat_lit 786, k786 P) :: (nat_lit 787, k787 P) :: (nat_lit 788, k788 P) :: (nat_lit 816, k816 P) :: (nat_lit 817, k817 P) :: (nat_lit 823, k823 P) :: (nat_lit 824, k824 P) :: (nat_lit 855, k855 P) :: (nat_lit 856, k856 P) :: (nat_lit 866, k866 P) :: (nat_lit 867, k867 P) :: (nat_lit 873, k873 P) :: (nat_lit 874, k874 P) :: (nat_lit 878, k878 P) :: (nat_lit 879, k879 P) :: (nat_lit 883, k883 P) :: (nat_lit 884, k884 P) :: (nat_lit 888, k888 P) :: (nat_lit 889, k889 P) :: (nat_lit 895, k895 P) :: (nat_lit 896, k896 P) :: (nat_lit 900, k900 P) :: (nat_lit 901, k901 P) :: []
noncomputable def kas : List Addr := (nat_lit 2) :: (nat_lit 3) :: (nat_lit 45) :: (nat_lit 46) :: (nat_lit 52) :: (nat_lit 53) :: (nat_lit 59) :: (nat_lit 60) :: (nat_lit 132) :: (nat_lit 133) :: (nat_lit 146) :: (nat_lit 147) :: (nat_lit 153) :: (nat_lit 154) :: (nat_lit 160) :: (nat_lit 161) :: (nat_lit 167) :: (nat_lit 168) :: (nat_lit 172) :: (nat_lit 173) :: (nat_lit 186) :: (nat_lit 187) :: (nat_lit 213) :: (nat_lit 214) :: (nat_lit 216) :: (nat_lit 217) :: (nat_lit 218) :: (nat_lit 243) :: (nat_lit 244) :: (nat_lit 474) :: (nat_lit 484) :: (nat_lit 490) :: (nat_lit 491) :: (nat_lit 497) :: (nat_lit 498) :: (nat_lit 504) :: (nat_lit 505) :: (nat_lit 660) :: (nat_lit 666) :: (nat_lit 667) :: (nat_lit 720) :: (nat_lit 721) :: (nat_lit 773) :: (nat_lit 779) :: (nat_lit 780) :: (nat_lit 786) :: (nat_lit 787) :: (nat_lit 788) :: (nat_lit 816) :: (nat_lit 817) :: (nat_lit 823) :: (nat_lit 824) :: (nat_lit 855) :: (nat_lit 856) :: (nat_lit 866) :: (nat_lit 867) :: (nat_lit 873) :: (nat_lit 874) :: (nat_lit 878) :: (nat_lit 879) :: (nat_lit 883) :: (nat_lit 884) :: (nat_lit 888) :: (nat_lit 889) :: (nat_lit 895) :: (nat_lit 896) :: (nat_lit 900) :: (nat_lit 901) :: []

noncomputable def T0 (P : Params) : BT := (BT.node (z0 P) (BT.node (z1 P) (BT.node (z3 P) (BT.node (z7 P) (BT.node (z15 P) BT.nil BT.nil) (BT.node (z23 P) BT.nil BT.nil)) (BT.node (z11 P) (BT.node (z19 P) BT.nil BT.nil) (BT.node (z27 P) BT.nil BT.nil))) (BT.node (z5 P) (BT.node (z9 P) (BT.node (z17 P) BT.nil BT.nil) (BT.node (z25 P) BT.nil BT.nil)) (BT.node (z13 P) (BT.node (z21 P) BT.nil BT.nil) BT.nil))) (BT.node (z2 P) (BT.node (z4 P) (BT.node (z8 P) (BT.node (z16 P) BT.nil BT.nil) (BT.node (z24 P) BT.nil BT.nil)) (BT.node (z12 P) (BT.node (z20 P) BT.nil BT.nil) (BT.node (z28 P) BT.nil BT.nil))) (BT.node (z6 P) (BT.node (z10 P) (BT.node (z18 P) BT.nil BT.nil) (BT.node (z26 P) BT.nil BT.nil)) (BT.node (z14 P) (BT.node (z22 P) BT.nil BT.nil) BT.nil))))
noncomputable def life0 : Life := {}
noncomputable def drawn0 : Drawn := {}
noncomputable def q0 : Program := { pw with main := { pw.main with body := [nth top 52] } }
noncomputable def loose0 : List Str := [(S "deque"), (S "_wall"), (S "_iter_escaped_chars"), (S "_strip_quoted_realnames"), (S "_check_parenthesis"), (S "_plain_name"), (S "ABCMeta"), (S "_ABCLike"), (S "_abc_plain_meta"), (S "fspath"), (S "_check_arg_types"), (S "check_arg_types_genericpath"), (S "_get_sep"), (S "join"), (S "join_posixpath"), (S "splitroot"), (S "normpath"), (S "commonpath"), (S "_whence"), (S "_index"), (S "UnsupportedOperation"), (S "IOBase"), (S "BufferedIOBase"), (S "TextIOBase"), (S "BytesIO"), (S "StringIO"), (S "_kind"), (S "_fspath"), (S "check_arg_types_path"), (S "isabs"), (S "join_path"), (S "dirname"), (S "shlex"), (S "_law_pieces"), (S "_law_walk"), (S "_law_steps"), (S "_law_table"), (S "_law_seen"), (S "_law_turned")]
noncomputable abbrev mods0 : List Str := importedModules pw.main.body
end Mine

end
noncomputable section
open PySem PySem.W PyProof.Rows
namespace Mine
theorem open_chk (w : World) : ((impRunT (Fast.tw10156331382660048174 (Fast.tw11892475500146522536 Fast.tw14364793385576792824) (opening pw) w) Fast.tw3805553451399329143 3000 (startT (opening pw)) (Fast.tw1435165496053646825 (opening pw)).2).bind fun s => (Fast.tw14289696077712309145 pw s.abs)).map (fun s => (s.heap, s.gens, s.drawn, s.toks)) = some (absHeap (T0 w.params) 29 life0, #[], drawn0, 273) := by kernel_rfl
theorem open_of {p : Program} {N M : Nat} {H₀ : Params → Heap} {g₀ : Array GenState} {d₀ : Drawn} {k₀ : Nat} {w : World} (le : M ≤ N)
    (h : ((impRunT (stepT (denote treeTable) (opening p) w) Thread.atExitBegin M (startT (opening p)) (start (opening p)).2).bind fun s => fenceModules? p s.abs).map (fun s => (s.heap, s.gens, s.drawn, s.toks)) = some (H₀ w.params, g₀, d₀, k₀)) :
    (fencedOpening treeTable p w N).map (fun s => (s.heap, s.gens, s.drawn, s.toks)) = some (H₀ w.params, g₀, d₀, k₀) := by
  obtain ⟨s₁, h1, h2⟩ := Option.map_eq_some_iff.mp h
  obtain ⟨s, h3, h4⟩ := Option.bind_eq_some_iff.mp h1
  have m := importEnds_mono (N - M) _ _ _ _ (impRunT_of h3)
  rw [show M + (N - M) = N by omega, startT_abs] at m
  unfold fencedOpening
  rw [m]
  show (fenceModules? p s.abs).map _ = _
  rw [h4]
  exact congrArg some h2
theorem open_raw (w : World) : (fencedOpening treeTable pw w 12000).map (fun s => (s.heap, s.gens, s.drawn, s.toks)) = some (absHeap (T0 w.params) 29 life0, #[], drawn0, 273) := by
  refine open_of (p := pw) (M := 3000) (H₀ := fun P => absHeap (T0 P) 29 life0) (by omega) ?_
  rw [Fast.te10156331382660048174, Fast.te11892475500146522536, Fast.te14364793385576792824, Fast.te3805553451399329143, Fast.te1435165496053646825, Fast.te14289696077712309145]
  exact open_chk w

noncomputable def seeT (s : SharedT) (a : Addr) : Option Obj := match Nat.blt a s.n with
  | true => (s.tree.get a).bind alive
  | false => none
theorem seeT_of {s : SharedT} {a : Addr} {o : Obj} (h : seeT s a = some o) : s.abs.heap.get? a = some o := by
  unfold seeT at h
  cases e : Nat.blt a s.n with
  | false => rw [e] at h; cases h
  | true =>
    rw [e] at h
    obtain ⟨o', h1, h2⟩ := Option.bind_eq_some_iff.mp h
    exact (abs_get (Nat.le_of_ble_eq_true e) h1).trans h2
theorem seeAll_of {s : SharedT} : ∀ {as : List Addr} {os : List Obj}, as.map (seeT s) = os.map some → as.map s.abs.heap.get? = os.map some
  | [], [], _ => rfl
  | [], _ :: _, h => by cases h
  | _ :: _, [], h => by cases h
  | a :: as, o :: os, h => by
    simp only [List.map_cons, List.cons.injEq] at h ⊢
    exact ⟨seeT_of h.1, seeAll_of h.2⟩

noncomputable abbrev Xt0 (s : Shared) : Bool := xlAt q0 [] s && recOk [] s
noncomputable abbrev H0 (P : Params) : Heap := absHeap (T0 P) 29 life0
noncomputable def look (w : World) (s : SharedT) := (staticsOk mods0 (H0 w.params) s.abs.heap && namesBound pw s.abs.heap && gensDone s.abs && laidKept (H0 w.params) s.abs.heap, openSeen q0 loose0 mods0 Xt0 true s.abs, kas.map (seeT s))
noncomputable def lookQ (w : World) (s : SharedT) := (staticsOk (Fast.tw5923862056798008813 pw.main.body) (H0 w.params) s.abs.heap && namesBound pw s.abs.heap && gensDone s.abs && laidKept (H0 w.params) s.abs.heap, Fast.tw4187177175401517315 q0 loose0 (Fast.tw5923862056798008813 pw.main.body) Xt0 true s.abs, kas.map (seeT s))
theorem look_eq : look = lookQ := by
  funext w s
  unfold look lookQ mods0
  rw [Fast.te5923862056798008813, Fast.te4187177175401517315]
theorem run_chk (w : World) (os : OsState) : (topRunT (Fast.tw10156331382660048174 (Fast.tw11892475500146522536 Fast.tw14364793385576792824) pw w) (Fast.tw6613529449190102663 29 (some (.ref 6))) 12000 ⟨T0 w.params, 29, life0, #[], drawn0, 273, os⟩ (topStub pw)).map (lookQ w) = some (true, openGood q0 loose0, (kf w.params).map fun p => some p.2) := by kernel_rfl
theorem size_chk (w : World) : ((H0 w.params).isNs mainGlobals && (#[] : Array GenState).size == 0, (H0 w.params).objs.size, (H0 w.params).nsMap mainGlobals "__annotations__") = (true, 29, some (Value.ref 6)) := by kernel_rfl

theorem left_of {p q : Program} {loose : List Str} {Xt : Shared → Bool} {K : Params → Frag} {as : List Addr} {N : Nat} {T : Params → BT} {n₀ : Nat} {life : Life} {d₀ : Drawn} {k₀ : Nat} {ann : Option Value}
    (open_ : ∀ w : World, (fencedOpening treeTable p w N).map (fun s => (s.heap, s.gens, s.drawn, s.toks)) = some (absHeap (T w.params) n₀ life, #[], d₀, k₀))
    (size : ∀ w : World, ((absHeap (T w.params) n₀ life).isNs mainGlobals && (#[] : Array GenState).size == 0, (absHeap (T w.params) n₀ life).objs.size, (absHeap (T w.params) n₀ life).nsMap mainGlobals "__annotations__") = (true, n₀, ann))
    (run : ∀ (w : World) (os : OsState), (topRunT (stepT (denote treeTable) p w) (stepOk n₀ ann) N ⟨T w.params, n₀, life, #[], d₀, k₀, os⟩ (topStub p)).map (fun s => ((staticsOk (importedModules p.main.body) (absHeap (T w.params) n₀ life) s.abs.heap && namesBound p s.abs.heap && gensDone s.abs && laidKept (absHeap (T w.params) n₀ life) s.abs.heap), openSeen q loose (importedModules p.main.body) Xt true s.abs, as.map (seeT s))) = some (true, openGood q loose, (K w.params).map fun p => some p.2)) :
    LeftO p q loose Xt (fun s => as.map s.heap.get?) (fun w => (K w.params).map fun p => some p.2) N := fun w => by
  obtain ⟨⟨h, gs, d, k, os⟩, e, e'⟩ := Option.map_eq_some_iff.mp (open_ w)
  obtain ⟨rfl, rfl, rfl, rfl⟩ : h = _ ∧ gs = _ ∧ d = _ ∧ k = _ := by simpa using e'
  obtain ⟨z1, z2, z3⟩ : _ ∧ _ ∧ _ := by simpa only [Prod.mk.injEq] using size w
  obtain ⟨sT, r1, r2⟩ := Option.map_eq_some_iff.mp (run w os)
  obtain ⟨l1, l2, l3⟩ : _ ∧ _ ∧ _ := by simpa only [Prod.mk.injEq] using r2
  have r := topRunT_of r1
  have t : topFrom treeTable p w N ⟨absHeap (T w.params) n₀ life, #[], d, k, os⟩ = some sT.abs := by
    unfold topFrom
    dsimp only
    rw [z1, z2, z3]
    show (topRun treeTable p w n₀ ann N ⟨absHeap (T w.params) n₀ life, #[], d, k, os⟩ (topStub p)).bind _ = _
    have r' : topRun treeTable p w n₀ ann N ⟨absHeap (T w.params) n₀ life, #[], d, k, os⟩ (topStub p) = some sT.abs := r
    rw [r']
    show (match staticsOk (importedModules p.main.body) (absHeap (T w.params) n₀ life) sT.abs.heap && namesBound p sT.abs.heap && gensDone sT.abs && laidKept (absHeap (T w.params) n₀ life) sT.abs.heap with | true => _ | false => _) = _
    rw [l1]
  unfold openEnds
  rw [e]
  show (topFrom treeTable p w N _).map _ = _
  rw [t]
  have e3 : as.map sT.abs.heap.get? = (K w.params).map fun p => some p.2 := by
    have : (K w.params).map (fun p => some p.2) = ((K w.params).map (·.2)).map some := by rw [List.map_map]; rfl
    rw [this] at l3 ⊢
    exact seeAll_of l3
  exact congrArg some (Prod.ext l2 e3)
theorem left0 : LeftO pw q0 loose0 Xt0 (fun s => kas.map s.heap.get?) (fun w => (kf w.params).map fun p => some p.2) 12000 := by
  refine left_of (T := T0) (life := life0) (d₀ := drawn0) open_raw size_chk fun w os => ?_
  show (topRunT (stepT (denote treeTable) pw w) (stepOk 29 (some (.ref 6))) 12000 ⟨T0 w.params, 29, life0, #[], drawn0, 273, os⟩ (topStub pw)).map (look w) = _
  rw [Fast.te10156331382660048174, Fast.te11892475500146522536, Fast.te14364793385576792824, Fast.te6613529449190102663, look_eq]
  exact run_chk w os
end Mine

end
noncomputable section
open PySem PySem.W PyProof.Rows
namespace Mine
abbrev rw0 : OpenLaw := PySem.Challenge.rw_il0100_01
theorem said3 : namesResolve rw0.row.prog = true := by
  rw [Fast.te8377067652309620493]; kernel_rfl
theorem nr_split (lk : Look) : ∀ (n : Nat) (l : List Stmt), noRoadLSs lk (l.take n) = true → noRoadLSs lk (l.drop n) = true → noRoadLSs lk l = true
  | 0, _, _, h => h
  | _ + 1, [], h, _ => h
  | n + 1, s :: r, h1, h2 => by
    have h1 : (noRoadLS lk s && noRoadLSs lk (r.take n)) = true := h1
    show (noRoadLS lk s && noRoadLSs lk r) = true
    rw [Bool.and_eq_true] at h1 ⊢
    exact ⟨h1.1, nr_split lk n r h1.2 h2⟩
theorem s5i : (!(importedModules rw0.row.prog.main.body).all cThrough.contains) = false := by
  rw [Fast.te5923862056798008813]; kernel_rfl
theorem s5v : readsOut rw0.row.prog rw0.row.prog.main.body "vars" = false := by
  rw [Fast.te13343964577679436407]; kernel_rfl
theorem s5d : readsOut rw0.row.prog rw0.row.prog.main.body "dir" = false := by
  rw [Fast.te13343964577679436407]; kernel_rfl
theorem s5l : readsOut rw0.row.prog rw0.row.prog.main.body "locals" = false := by
  rw [Fast.te13343964577679436407]; kernel_rfl
theorem said5a : noRoadLSs { strict := false, foot := none, bare := [] } (rw0.row.prog.main.body.take 18) = true := by
  rw [Fast.te8326940854005059898]; kernel_rfl
theorem said5b : noRoadLSs { strict := false, foot := none, bare := [] } ((rw0.row.prog.main.body.drop 18).take 18) = true := by
  rw [Fast.te8326940854005059898]; kernel_rfl
theorem said5c : noRoadLSs { strict := false, foot := none, bare := [] } ((rw0.row.prog.main.body.drop 18).drop 18) = true := by
  rw [Fast.te8326940854005059898]; kernel_rfl
theorem said5 : noRoadLSs { strict := !(importedModules rw0.row.prog.main.body).all cThrough.contains, foot := none, bare := (["vars", "dir", "locals"] : List Str).filter (readsOut rw0.row.prog rw0.row.prog.main.body) } rw0.row.prog.main.body = true := by
  have hb : (["vars", "dir", "locals"] : List Str).filter (readsOut rw0.row.prog rw0.row.prog.main.body) = [] := by
    rw [List.filter_cons, s5v, if_neg Bool.false_ne_true, List.filter_cons, s5d, if_neg Bool.false_ne_true, List.filter_cons, s5l, if_neg Bool.false_ne_true, List.filter_nil]
  rw [s5i, hb]
  exact nr_split _ 18 _ said5a (nr_split _ 18 _ said5b said5c)
theorem said6 : (namesMeet rw0.row.prog rw0.row.prog.main.body fun _ n => attrL n) = true := by
  rw [Fast.te17119622794617984870, Fast.te17868728402115742887]; kernel_rfl
theorem said38 : (namesMeet rw0.prog rw0.above (fun _ n => !rw0.own.contains n)) = true := by
  rw [Fast.te17119622794617984870, Fast.te10792542408131684335]; kernel_rfl
theorem said : rw0.wellSaid = true := by
  unfold OpenLaw.wellSaid OpenRow.wellSaid OpenRow.partSaid looksOpen
  simp only [Bool.and_eq_true]
  and_intros
  · rw [Fast.te11788848310118352699]; kernel_rfl
  · rw [Fast.te9807087744658564304, Fast.te12862048085361865435]; kernel_rfl
  · exact said3
  · rw [Fast.te18344453789297297638, Fast.te14412699480532031325]; kernel_rfl
  · exact said5
  · exact said6
  · kernel_rfl
  · kernel_rfl
  · kernel_rfl
  · rw [Fast.te18344453789297297638, Fast.te2357444279172408678]; kernel_rfl
  · kernel_rfl
  · rw [Fast.te4857012375875476094, Fast.named_eq, Fast.te18344453789297297638]; kernel_rfl
  · rw [Fast.te13582783067957832011]; kernel_rfl
  · rw [Fast.te5318747976498570220]; kernel_rfl
  · rw [Fast.te5318747976498570220]; kernel_rfl
  · rw [Fast.te5318747976498570220]; kernel_rfl
  · rw [Fast.te4274047373036748609]; kernel_rfl
  · kernel_rfl
  · kernel_rfl
  · rw [Fast.te18344453789297297638]; kernel_rfl
  · rw [Fast.te12749700546528644094]; kernel_rfl
  · kernel_rfl
  · rw [Fast.te10501279942588096481]; kernel_rfl
  · rw [Fast.te8179353310426384613]; kernel_rfl
  · kernel_rfl
  · kernel_rfl
  · rw [Fast.te8326940854005059898, Fast.te797321630700447069, Fast.te9572597257264208301]; kernel_rfl
  · rw [Fast.te9558739934217749035]; kernel_rfl
  · rw [Fast.te16286561074155671207]; kernel_rfl
  · kernel_rfl
  · rw [Fast.te797321630700447069, Fast.named_eq, Fast.te6984425678791042302]; kernel_rfl
  · rw [Fast.te17095254045102204799, Fast.te12879404354523853263, Fast.te6984425678791042302]; kernel_rfl
  · rw [Fast.te17095254045102204799, Fast.te12879404354523853263, Fast.te6984425678791042302, Fast.te482687673346738481]; kernel_rfl
  · rw [Fast.te17119622794617984870, Fast.te9572597257264208301]; kernel_rfl
  · rw [Fast.te10792542408131684335]; kernel_rfl
  · rw [Fast.te7723801398212525404, Fast.te10792542408131684335]; kernel_rfl
  · rw [Fast.te10792542408131684335, Fast.named_eq]; kernel_rfl
  · exact said38
  · rw [Fast.te17119622794617984870]; kernel_rfl
end Mine

end
noncomputable section
open PySem PySem.W PyProof.Rows
namespace Mine
theorem kas_eq (P : Params) : kas = (kf P).map (·.1) := by kernel_rfl
noncomputable abbrev HK : Hook := kHook kf kas kas_eq
noncomputable def d0 : DefRec := match nth top 52 with
  | .FunctionDef name args body _ _ _ scope _ _ pos => ⟨name, args, body, scope, pos⟩
  | _ => ⟨"", ⟨[], [], none, [], [], none, []⟩, [], default, default⟩
theorem d0_is : defOf q0 rw0.row.name = some (d0, []) := by kernel_rfl
theorem d0_the : rw0.row.prog.theDef rw0.row.name = some (d0.params, d0.body, d0.scope) := by kernel_rfl
theorem ok0 : (chainsOk q0 && opensWell rw0.row.prog && (frees rw0.row.toRowW && rw0.row.within.isEmpty)) = true := by decide +kernel
set_option maxHeartbeats 8000000 in
theorem promised0 : rw0.row.toRowW.promised := by w_witness2
set_option maxHeartbeats 8000000 in
theorem head (walk : WalkO q0 loose0 (XL q0 []) (Hook.says HK) rw0.row.toRowW d0 [] fun f vs => PySem.call f vs) : rw0.Holds :=
  holds_law said fun sd => holds_open (r := rw0.row) (q := q0) (loose := loose0) (Xt := Xt0) (XP := XL q0 []) (Yf := Hook.obs HK) (Ya := Hook.val HK) (YP := Hook.says HK) (N := 12000) left0 (Hook.of HK) (Hook.keeps HK)
    (fun s e => xl_of s (Bool.and_eq_true_iff.mp e).1) XL.keeps d0_is d0_the (by kernel_rfl) (fun s e => recFacts_of (Bool.and_eq_true_iff.mp e).2) (by kernel_rfl) sd ok0 ⟨rfl, rfl, rfl, rfl, rfl, by decide +kernel⟩ promised0 walk
end Mine

end
noncomputable section
open PySem PySem.W PyProof.Rows PySem.Calls Mine
namespace Mine
section
variable {prog : Program} {w : World} {A : Around} {E : Value → Shared → Prop} {s : Shared}
theorem sub_str_str : isSubtype (.type "str") (.type "str") = pure true := by rw [isSubtype_type]; kernel_rfl
theorem sub_tuple_tuple : isSubtype (.type "tuple") (.type "tuple") = pure true := by rw [isSubtype_type]; kernel_rfl
theorem issub_nested {Q : Fin → Shared → Prop} {k : Value} {dep : Int} {tk : Tok} (hk : k = .int dep tk) (hq : Q (.done (.ret (.bool true))) s) :
    wpAny (model prog w) A (Builtin.«issubclass.nested» ⟨[.type "str", .type "str", k], []⟩) Q E s := by
  subst hk
  repeat (any_goals (first | assumption | (rw [sub_str_str]) | wp_step))
theorem call_nested {Q : Value → Shared → Prop} (h : Q (.bool true) s) : wpAny (model prog w) A (call (.builtin "issubclass.nested") [.type "str", .type "str", rawInt (0 + 1)]) Q E s :=
  call_function_meets (S := fun _ R s => R (.ok (.ret (.bool true))) s) (by decide +kernel) (by decide +kernel) F.entry_issubclass_nested (by unfold argsOk; kernel_rfl)
    (fun _ _ _ _ _ hs => issub_nested rfl hs) h
theorem issub_pair {Q : Fin → Shared → Prop} {D : Addr} (hD : s.heap.IsTuple D #[.type "str", .type "bytes"]) (hq : Q (.done (.ret (.bool true))) s) :
    wpAny (model prog w) A (Builtin.«issubclass.nested» ⟨[.type "str", .ref D, rawInt 0], []⟩) Q E s := by
  have ty : s.TypeIs (.ref D) "tuple" := hD.typeIs
  obtain ⟨o, ho, hc, n, hd⟩ := hD
  repeat (any_goals (first | assumption | (rw [sub_tuple_tuple]) | wp_step))
  rw [hd]
  repeat (any_goals (first | assumption | refine call_nested ?_ | (rw [sub_tuple_tuple]) | wp_step))
theorem call_issub {Q : Value → Shared → Prop} {D : Addr} (hD : s.heap.IsTuple D #[.type "str", .type "bytes"]) (h : Q (.bool true) s) :
    wpAny (model prog w) A (call (.builtin "issubclass") [.type "str", .ref D]) Q E s :=
  call_issubclass (S := fun _ R s => s.heap.IsTuple D #[.type "str", .type "bytes"] ∧ R (.ok (.ret (.bool true))) s) (fun _ _ _ _ _ hs => issubclass_outer (issub_pair hs.1 hs.2)) ⟨hD, h⟩
end
noncomputable abbrev RetS (x : Str) (h₀ : Heap) (L : Addr) (m : Str → Option Value) (news : List (Addr × Obj)) (s : Shared) (Q : Value → Shared → Prop) : Prop :=
  ∀ (t : Tok) (h' : Heap) (tk' : Nat), Fr h₀ L h' m → News h₀ L h' news → Q (.str x t) { s with heap := h', toks := tk' }
noncomputable abbrev RetI (x : Int) (h₀ : Heap) (L : Addr) (m : Str → Option Value) (news : List (Addr × Obj)) (s : Shared) (Q : Value → Shared → Prop) : Prop :=
  ∀ (t : Tok) (h' : Heap) (tk' : Nat), Fr h₀ L h' m → News h₀ L h' news → Q (.int x t) { s with heap := h', toks := tk' }
noncomputable abbrev RetN (nw : Addr → Tok → Tok → Tok → List (Addr × Obj)) (h₀ : Heap) (L : Addr) (m : Str → Option Value) (news : List (Addr × Obj)) (s : Shared) (Q : Value → Shared → Prop) : Prop :=
  ∀ (a : Addr) (t t' t'' : Tok) (h' : Heap) (tk' : Nat), Fr h₀ L h' m → News h₀ L h' (nw a t t' t'' ++ news) → Q (.ref a) { s with heap := h', toks := tk' }
noncomputable abbrev Cl (w : World) (p : Program) (loose : List Str) (mean : ExcName → Option Value) (mg mb : Str → Option Value) (r : Nat) (f : Addr) (vs : List Value) (pre : Prop)
    (RET : Heap → Addr → (Str → Option Value) → List (Addr × Obj) → Shared → (Value → Shared → Prop) → Prop) : Prop :=
  ∀ (news : List (Addr × Obj)) (dp un : Nat) (gd : Option (List Code)) (cn : Str) (cs : Scope) (a : Addr) (ccd : Value) (cl : List (Str × Addr)) (outer : List Env) (A₀ : Around) (base h₀ : Heap) (L : Addr) (m : Str → Option Value) (s : Shared) (Q E : Value → Shared → Prop),
    Below A₀ base outer h₀ → Fr h₀ L s.heap m → (kf w.params).In h₀ → News h₀ L s.heap news → Top p loose mean mg mb h₀ → cs.kind = .function →
    pre → dp + r < recursionLimit → un + 8 * r < cLine → RET h₀ L m news s Q →
      wpAny (model pw w) (ktrTop dp un gd cn cs L a ccd cl outer) (call (.ref f) vs) Q E s
section
variable {w : World} {p : Program} {loose : List Str} {mean : ExcName → Option Value} {mg mb : Str → Option Value}
theorem use_claim {r : Nat} {f : Addr} {pre : Prop} {vs : List Value} {RET : Heap → Addr → (Str → Option Value) → List (Addr × Obj) → Shared → (Value → Shared → Prop) → Prop} (C : Cl w p loose mean mg mb r f vs pre RET)
    {news : List (Addr × Obj)} {dp un : Nat} {gd : Option (List Code)} {cn : Str} {cs : Scope} {a : Addr} {ccd : Value} {cl : List (Str × Addr)} {outer : List Env} {A₀ : Around} {base h₀ : Heap} {L : Addr} {m : Str → Option Value} {s : Shared} {Q E : Value → Shared → Prop}
    (k1 : Below A₀ base outer h₀) (k2 : Fr h₀ L s.heap m) (k3 : (kf w.params).In h₀) (k4 : News h₀ L s.heap news) (k5 : Top p loose mean mg mb h₀) (kK : cs.kind = .function) (kp : pre) (kd : dp + r < recursionLimit) (ku : un + 8 * r < cLine)
    (kR : RET h₀ L m news s Q) :
    wpAny (model pw w) (ktrTop dp un gd cn cs L a ccd cl outer) (call (.ref f) vs) Q E s := C news dp un gd cn cs a ccd cl outer A₀ base h₀ L m s Q E k1 k2 k3 k4 k5 kK kp kd ku kR
end
noncomputable def sl (x : Str) (lo hi : Option Int) : Str := ⟨((Builtin.Str.strSliceIndices lo hi 1 x.length).filterMap (x.cps[·]?)).toArray⟩
noncomputable def clipN (n d : Nat) : Option Int → Nat
  | none => d
  | some i => (max 0 (min (if i < 0 then i + n else i) (n : Int))).toNat
theorem pvar {P : Prop} (h : ∀ G : Prop, (P → G) → G) : P := h P id
theorem meas_lt {n i : Nat} (h : i < n) : n + 1 - (i + 1) < n + 1 - i := Nat.sub_lt_sub_left (Nat.lt_succ_of_lt h) (Nat.lt_succ_self _)
theorem sums_le : ∀ l : List Str, (∀ y ∈ l, y.length ≤ 4000) → (l.map (·.length)).sum ≤ 4000 * l.length
  | [], _ => Nat.zero_le _
  | a :: r, h => by
    rw [List.map_cons, List.sum_cons, List.length_cons, Nat.mul_succ, Nat.add_comm]
    exact Nat.add_le_add (sums_le r fun y hy => h y (.tail _ hy)) (h a (.head _))
theorem sub_end {n i : Nat} (h : n - i = 0) (hi : i ≤ n) : i = n := Nat.le_antisymm hi (Nat.le_of_sub_eq_zero h)
theorem sub_nx {n i k : Nat} (h : n - i = k + 1) : n - (i + 1) = k := congrArg Nat.pred h
theorem sub_in {n i k : Nat} (h : n - i = k + 1) : i < n := Nat.lt_of_sub_eq_succ h
theorem sub_back {n i m : Nat} (hi : i ≤ n) (h : n - i = m + 1) : n - 1 - m = i := by rw [Nat.sub_sub, Nat.add_comm 1 m, ← h, Nat.sub_sub_self hi]
theorem max0_le {a b : Int} (h0 : 0 ≤ b) : max 0 (min a b) ≤ b := Int.max_le.mpr ⟨h0, Int.min_le_right _ _⟩
theorem clipN_le (n d : Nat) (hd : d ≤ n) (o : Option Int) : clipN n d o ≤ n := by
  cases o with
  | none => exact hd
  | some i => exact Int.toNat_le.mpr (max0_le (Int.natCast_nonneg n))
theorem clip_id {a n : Nat} (h : a ≤ n) : max (0 : Int) (min (a : Int) (n : Int)) = a := by
  rw [Int.min_eq_left (Int.ofNat_le.mpr h), Int.max_eq_right (Int.natCast_nonneg a)]
theorem clip_cast (z : Int) : max 0 z = ((max 0 z).toNat : Int) := (Int.toNat_of_nonneg (Int.le_max_left 0 z)).symm
theorem nat_nlt (a : Nat) : ¬ ((a : Int) < 0) := Int.not_lt.mpr (Int.natCast_nonneg a)
theorem indices_eq (lo hi : Option Int) (n : Nat) : Builtin.Str.strSliceIndices lo hi 1 n = (List.range (clipN n n hi - clipN n 0 lo)).map (fun k => clipN n 0 lo + k) := by
  have c1 := clipN_le n 0 (Nat.zero_le _) lo
  have c2 := clipN_le n n (Nat.le_refl _) hi
  have h1 := nat_nlt (clipN n 0 lo)
  have h2 := nat_nlt (clipN n n hi)
  have e1 := clip_id c1
  have e2 := clip_id c2
  have e : Builtin.Str.strSliceIndices lo hi 1 n = Builtin.Str.strSliceIndices (some (clipN n 0 lo : Int)) (some (clipN n n hi : Int)) 1 n := by
    simp only [Builtin.Str.strSliceIndices, h1, h2, if_false, e1, e2, show ((1 : Int) > 0) = True from by simp, if_true]
    congr 1
    · cases lo with
      | none => rfl
      | some i => exact clip_cast _
    · cases hi with
      | none => rfl
      | some i => exact clip_cast _
  rw [e]
  by_cases hab : clipN n 0 lo ≤ clipN n n hi
  · exact StrLaws.strSliceIndices_plain hab c2
  · have h0 : clipN n n hi - clipN n 0 lo = 0 := Nat.sub_eq_zero_of_le (Nat.le_of_not_le hab)
    rw [h0]
    simp only [Builtin.Str.strSliceIndices, PySem.sliceRange, h1, h2, if_false, e1, e2, show ((1 : Int) > 0) = True from by simp, if_true]
    have hlt : ¬ ((clipN n 0 lo : Int) < (clipN n n hi : Int)) := Int.not_lt.mpr (Int.ofNat_le.mpr (Nat.le_of_not_le hab))
    simp [hlt]
theorem sl_list (x : Str) (lo hi : Option Int) : (sl x lo hi).cps.toList = (x.cps.toList.drop (clipN x.length 0 lo)).take (clipN x.length x.length hi - clipN x.length 0 lo) := by
  unfold sl
  rw [indices_eq]
  have c2 := clipN_le x.length x.length (Nat.le_refl _) hi
  by_cases hab : clipN x.length 0 lo ≤ clipN x.length x.length hi
  · have h := StrLaws.picks x.cps.toList (clipN x.length x.length hi - clipN x.length 0 lo) (clipN x.length 0 lo) (by simp [Str.length] at c2 hab ⊢; (first | lia | omega))
    simpa using h
  · have h0 : clipN x.length x.length hi - clipN x.length 0 lo = 0 := Nat.sub_eq_zero_of_le (Nat.le_of_not_le hab)
    rw [h0]; simp
section
variable {prog : Program} {w : World} {A : Around} {E : Value → Shared → Prop} {s : Shared}
theorem sl_whole (x : Str) (lo hi : Option Int) (h : (Builtin.Str.strSliceIndices lo hi 1 x.length).length = x.length) : sl x lo hi = x := by
  rw [indices_eq] at h
  simp only [List.length_map, List.length_range] at h
  apply Str.ext'
  apply Array.toList_inj.mp
  rw [sl_list, h]
  have c2 := clipN_le x.length x.length (Nat.le_refl _) hi
  have z : clipN x.length 0 lo = 0 ∨ x.length = 0 := by
    rcases Nat.eq_zero_or_pos (clipN x.length 0 lo) with z | z
    · exact .inl z
    rcases Nat.eq_zero_or_pos x.length with z2 | z2
    · exact .inr z2
    exact absurd (Nat.lt_of_lt_of_le (Nat.sub_lt_of_pos_le z (Nat.le_of_not_lt fun q => by rw [Nat.sub_eq_zero_of_le (Nat.le_of_lt q)] at h; exact absurd h.symm (Nat.ne_of_gt z2))) c2) (by rw [h]; exact Nat.lt_irrefl _)
  have hl : x.cps.toList.length = x.length := by simp [Str.length]
  rcases z with z | z
  · rw [z, List.drop_zero]; exact List.take_of_length_le (by (first | lia | omega))
  · rw [z, List.take_zero]; exact (List.length_eq_zero_iff.mp (by (first | lia | omega))).symm
end
theorem isTup_of {h₀ h : Heap} {L D : Addr} {news : List (Addr × Obj)} {xs : Array Value} (N : News h₀ L h news) (hm : (D, ({ cls := .type "tuple", data := .seq xs } : Obj)) ∈ news) : h.IsTuple D xs := ⟨_, (N _ hm).1, rfl, _, rfl⟩
end Mine

end
noncomputable section
open PySem PySem.W PyProof.Rows PySem.Calls PySem.Spec Mine
namespace Mine
section
variable {prog : Program} {w : World} {A : Around} {E : Value → Shared → Prop} {s : Shared}
theorem isL_of {h₀ h : Heap} {L l : Addr} {news : List (Addr × Obj)} {its : Array Value} {n : Nat} (N : News h₀ L h news) (hm : (l, W.listOf its n) ∈ news) : h.IsList l its := ⟨_, (N _ hm).1, rfl, _, rfl⟩
theorem truthy_L {l : Addr} {vs : List Value} {Q : Bool → Shared → Prop} (hl : s.heap.IsList l vs.toArray) (hfit : vs.length ≤ sizeLine) (h1 : vs = [] → ∀ tk, Q false { s with toks := tk }) (h2 : vs ≠ [] → ∀ tk, Q true { s with toks := tk }) :
    wpAny (model prog w) A (truthy (.ref l)) Q E s := by
  refine wpAny_truthy_list hl (by simp only [List.size_toArray]; simp only [sizeLine_eq] at hfit; (first | lia | omega)) ?_
  cases vs with
  | nil => exact h1 rfl _
  | cons a r => exact h2 (by simp) _
theorem truthy_L1 {l : Addr} {vs : List Value} {v : Value} {Q : Bool → Shared → Prop} (hl : s.heap.IsList l (vs ++ [v]).toArray) (hfit : (vs ++ [v]).length ≤ sizeLine) (h : ∀ tk, Q true { s with toks := tk }) :
    wpAny (model prog w) A (truthy (.ref l)) Q E s := truthy_L hl hfit (fun e => by simp at e) fun _ => h
theorem item_last {value slice : PySem.Expr} {l : Addr} {vs : List Value} {v : Value} {u : Tok} {Q : Value → Shared → Prop} (hl : s.heap.IsList l vs.toArray) (hfit : vs.length ≤ sizeLine) (hv : vs.getLast? = some v) (h : Q v s)
    (hs : subscripted slice false (.ref l) (.int (-1) u) = operate [.ref l, .int (-1) u] (getItem (.ref l) (.int (-1) u)) := by with_unfolding_all rfl) :
    wpAny (model prog w) A (subscriptTail value slice (.ref l) (.int (-1) u)) Q E s := by
  have hne : vs ≠ [] := by intro e; rw [e] at hv; cases hv
  have hp : 0 < vs.length := List.length_pos_iff.mpr hne
  refine tail_any hl.typeIs slot_list_getitem.lookup (wpAny_getItem_list_neg hl (by (first | lia | omega)) (by simp only [List.size_toArray]; (first | lia | omega)) (by (first | lia | omega)) ?_ h) hs
  have e : ((-1 : Int) + (vs.toArray.size : Int)).toNat = vs.length - 1 := by
    rw [List.size_toArray]
    obtain ⟨k, hk⟩ := Nat.exists_eq_succ_of_ne_zero (Nat.ne_of_gt hp)
    rw [hk]
    show ((-1 : Int) + ((k : Int) + 1)).toNat = k
    rw [Int.add_comm (-1), Int.add_neg_cancel_right]; rfl
  rw [e]
  rw [List.getLast?_eq_getElem?] at hv
  simpa using hv
theorem pop_L {h₀ : Heap} {L D : Addr} {m : Str → Option Value} {news news' : List (Addr × Obj)} {vs : List Value} {v : Value} {n : Nat} {Q : Value → Shared → Prop} (F : Fr h₀ L s.heap m) (N : News h₀ L s.heap news)
    (U : Upd D (W.listOf (vs ++ [v]).toArray n) (W.listOf vs.toArray (n + 1)) news news') (hz : (vs ++ [v]).length ≤ sizeLine)
    (h : ∀ h', Fr h₀ L h' m → News h₀ L h' news' → Q v { s with heap := h' }) : wpAny (model prog w) A (call (.builtin "list.pop") [.ref D]) Q E s :=
  kl_pop F N (kpa_last v vs) U hz h
theorem np_len (l : List Str) (f : List Str → Str → List Str) (hf : ∀ a c, (f a c).length ≤ a.length + 1) : ∀ a, (l.foldl f a).length ≤ a.length + l.length := by
  induction l with
  | nil => intro a; simp
  | cons c r ih => intro a; have := ih (f a c); have := hf a c; simp only [List.foldl_cons, List.length_cons]; (first | lia | omega)
end
end Mine

end
noncomputable section
open PySem PySem.W PyProof.Rows PySem.Calls Mine
namespace Mine
section
variable {M : Model} {A : Around} {R : GenEnd} {Y : Protocol} {n : Nat} {s₀ : Shared} {c : Code} {fs : List Frame} {s : Shared} {env : Env}
  {K : Flow → Sem PySem.Fin} {H : Value → Sem PySem.Fin} {gd : Bool → Bool} {lv : List Value → List Value}

noncomputable abbrev NoE : Value → Shared → Prop := fun _ _ => False

theorem sg_bind {α β : Type} {m : Sem α} {k : α → Sem β} {K' : β → Sem PySem.Fin} {H' : Value → Sem PySem.Fin}
    (h : wpAny M (A.over c fs) m (fun a s' => Seg M A R Y n s₀ c ((k a).wrap K' H' gd lv) fs s') NoE s) : Seg M A R Y n s₀ c ((m >>= k).wrap K' H' gd lv) fs s :=
  seg_bind_wrap (wpAny_mono h (fun _ _ x => x) fun _ _ x => x.elim)
theorem sg_stmt {st : Stmt} (h : wpAny M (A.over c fs) (exec st env) (fun f s' => Seg M A R Y n s₀ c (K f) fs s') NoE s) : Seg M A R Y n s₀ c ((exec st env).wrap K H gd lv) fs s :=
  seg_wrap (wpAny_mono h (fun _ _ x => x) fun _ _ x => x.elim)
theorem sg_block {l : List Stmt} (h : wpAny M (A.over c fs) (execs l env) (fun f s' => Seg M A R Y n s₀ c (K f) fs s') NoE s) : Seg M A R Y n s₀ c ((execs l env).wrap K H gd lv) fs s :=
  seg_wrap (wpAny_mono h (fun _ _ x => x) fun _ _ x => x.elim)
noncomputable abbrev thenK (rest : List Stmt) (env : Env) (K : Flow → Sem PySem.Fin) (H : Value → Sem PySem.Fin) (gd : Bool → Bool) (lv : List Value → List Value) : Flow → Sem PySem.Fin := fun f =>
  (match f with | .next => execs rest env | f => (pure f : Sem Flow)).wrap K H gd lv
theorem sg_cons {st : Stmt} {rest : List Stmt} (h : Seg M A R Y n s₀ c ((exec st env).wrap (thenK rest env K H gd lv) H gd lv) fs s) : Seg M A R Y n s₀ c ((execs (st :: rest) env).wrap K H gd lv) fs s := by
  have e : execs (st :: rest) env = exec st env >>= fun f => match f with | .next => execs rest env | f => (pure f : Sem Flow) := rfl
  rw [e, Sem.bind_eq_wrap', Sem.wrap_wrap]
  exact h
theorem sg_nil (h : Seg M A R Y n s₀ c (K .next) fs s) : Seg M A R Y n s₀ c ((execs [] env).wrap K H gd lv) fs s := h
theorem sg_If {test : Expr} {body orelse : List Stmt} {pos : Pos} (h : wpAny M (A.over c fs) (isTrue test env (eval test env)) (fun b s' => Seg M A R Y n s₀ c ((if b = true then execs body env else execs orelse env).wrap K H gd lv) fs s') NoE s) :
    Seg M A R Y n s₀ c ((exec (.If test body orelse pos) env).wrap K H gd lv) fs s := by
  rw [exec_If]
  exact sg_bind (wpAny_standAt (sg_bind h))
noncomputable abbrev forBack (K : Flow → Sem PySem.Fin) (H : Value → Sem PySem.Fin) (gd : Bool → Bool) (lv : List Value → List Value) (env : Env) (r : Result) : Sem PySem.Fin :=
  (((match r with | .ok f => (.pure f : Sem Flow) | .error e => .raise e).onRaise fun (x : Value) => do
        if (← field x 1) == Value.none then unsupported "frame.own-activation:exception-without-traceback"
        setFlight x env.frame) : Sem Flow).wrap K H gd lv
theorem sg_For {target iter : Expr} {body orelse : List Stmt} {pos : Pos} (hs : ∀ x, foldedSetIterable iter env x = pure x)
    (h : wpAny M (A.over c fs) (eval iter env) (fun x s₁ => wpAny M (A.over c fs) (pyIter x) (fun it s₂ => ∀ p, Seg M A R Y n s₀ (.forLoop target it body orelse env) (M.den (.forLoop target it body orelse env))
      (.ret (forBack K H gd lv env) none (gd false) (lv []) c p [] :: fs) s₂) NoE s₁) NoE s) :
    Seg M A R Y n s₀ c ((exec (.For target iter body orelse pos) env).wrap K H gd lv) fs s := by
  rw [exec_For]
  refine sg_bind (wpAny_standAt (sg_bind (wpAny_mono h (fun x s₁ h₁ => ?_) fun _ _ x => x)))
  refine sg_bind (wpAny_of_eq (hs x) ?_)
  refine sg_bind (wpAny_standAt (sg_bind (wpAny_holding (wpAny_mono h₁ (fun it s₂ h₂ => ?_) fun _ _ x => x))))
  exact seg_call h₂
end
noncomputable abbrev bodyK (target : PySem.Expr) (it : Value) (body orelse : List Stmt) (env : Env) : Flow → Sem PySem.Fin := fun f =>
  (match f with
    | .next | .cont => again (.forLoop target it body orelse env)
    | .brk => (pure (.done .next) : Sem PySem.Fin)
    | .ret v => pure (.done (.ret v))).wrap .pure (fun e => (do noteFrame e env; theTreesLotGoes e : Sem Unit).bind fun _ => .raise e) id id
noncomputable abbrev bodyH (env : Env) : Value → Sem PySem.Fin := fun e => (do noteFrame e env; theTreesLotGoes e : Sem Unit).bind fun _ => .raise e
section
variable {prog : Program} {w : World} {A : Around} {R : GenEnd} {Y : Protocol} {n : Nat} {s₀ : Shared} {c : Code} {fs : List Frame} {s : Shared} {env : Env}
theorem sg_turn {xi xc : Str} {pk pv pt : Pos} {x1 : Nat} {body : List Stmt} {I : Addr}
    (h : wpAny (model prog w) (A.over (.forLoop (.Tuple [.Name xi pk, .Name xc pv] x1 pt) (.ref I) body [] env) fs) (pyNext (.ref I)) (fun r s₁ => match r with
      | none => Seg (model prog w) A R Y n s₀ (.block [] env) ((model prog w).den (.block [] env)) fs s₁
      | some v => wpAny (model prog w) (A.over (.forLoop (.Tuple [.Name xi pk, .Name xc pv] x1 pt) (.ref I) body [] env) fs) (letOwnedTupleGo (.Tuple [.Name xi pk, .Name xc pv] x1 pt) (.ref I) v) (fun _ s₂ =>
          wpAny (model prog w) (A.over (.forLoop (.Tuple [.Name xi pk, .Name xc pv] x1 pt) (.ref I) body [] env) fs) (assign (.Tuple [.Name xi pk, .Name xc pv] x1 pt) env v) (fun _ s₃ =>
            Seg (model prog w) A R Y n s₀ (.forLoop (.Tuple [.Name xi pk, .Name xc pv] x1 pt) (.ref I) body [] env)
              ((execs body env).wrap (bodyK (.Tuple [.Name xi pk, .Name xc pv] x1 pt) (.ref I) body [] env) (bodyH env) id id) fs s₃) NoE s₂) NoE s₁) NoE s) :
    Seg (model prog w) A R Y n s₀ (.forLoop (.Tuple [.Name xi pk, .Name xc pv] x1 pt) (.ref I) body [] env) ((model prog w).den (.forLoop (.Tuple [.Name xi pk, .Name xc pv] x1 pt) (.ref I) body [] env)) fs s := by
  show Seg _ A _ _ _ s₀ _ ((forTurn (.Tuple [.Name xi pk, .Name xc pv] x1 pt) (.ref I) body [] env).onRaise (fun x => do noteFrame x env; theTreesLotGoes x)) fs s
  rw [Sem.onRaise_eq_wrap]
  unfold forTurn
  refine sg_bind (wpAny_standAt (sg_bind (wpAny_onRaise (wpAny_mono h (fun r s₁ h₁ => ?_) fun _ _ x => x.elim))))
  cases r with
  | none => exact seg_again rfl h₁
  | some v =>
    refine sg_bind (wpAny_mono h₁ (fun _ s₂ h₂ => ?_) fun _ _ x => x)
    refine sg_bind (wpAny_mono h₂ (fun _ s₃ h₃ => ?_) fun _ _ x => x)
    rw [Sem.bind_eq_wrap', Sem.wrap_wrap]
    exact h₃
theorem sg_bodyNext {target : PySem.Expr} {it : Value} {body : List Stmt}
    (h : Seg (model prog w) A R Y n s₀ (.forLoop target it body [] env) ((model prog w).den (.forLoop target it body [] env)) fs s) :
    Seg (model prog w) A R Y n s₀ c (bodyK target it body [] env .next) fs s := seg_again rfl h
theorem sg_blockEnd {k : Result → Sem PySem.Fin} {hd gd lv c₁ p₁ kp} (h : Seg (model prog w) A R Y n s₀ c₁ (k (.ok .next)) fs s) :
    Seg (model prog w) A R Y n s₀ (.block [] env) ((model prog w).den (.block [] env)) (.ret k hd gd lv c₁ p₁ kp :: fs) s := seg_leaf (.ok .next) h
theorem sg_yield {v : PySem.Expr} {p p' : Pos} {K : Flow → Sem PySem.Fin} {H : Value → Sem PySem.Fin} {gd : Bool → Bool} {lv : List Value → List Value} (hgd : gd false = false) (hco : env.scope.isCoroutine = false) (hi : interactive env = false)
    (hfs : splitAtGen fs = none) (hg : fs.any Frame.guarded = false)
    (h : wpAny (model prog w) (A.over c fs) (eval v env) (fun x s' => Y n s₀ x s' fun r s'' => r = .send .none → Seg (model prog w) A R Y n s'' c (K .next) fs s'') NoE s)
    (hN : ∀ s₀ v s k, Y n s₀ v s k → ∀ k', (∀ s', k (.send .none) s' → k' (.send .none) s') → Y n s₀ v s k') :
    Seg (model prog w) A R Y (n + 1) s₀ c ((exec (.Expr (.Yield (some v) p) p') env).wrap K H gd lv) fs s := by
  rw [exec_Expr env (.Yield (some v) p) p' hi rfl]
  refine sg_bind (wpAny_standAt ?_)
  have e : eval (.Yield (some v) p) env = (do let x ← eval v env; standAt p; yieldOut env x) := rfl
  rw [e, Sem.bind_eq_wrap', Sem.bind_eq_wrap', Sem.wrap_wrap, Sem.wrap_wrap]
  refine seg_wrap (wpAny_mono h (fun x s' hx => ?_) fun _ _ x => x.elim)
  have hy : yieldOut env x = yieldValue x := by simp only [yieldOut, hco, Bool.false_eq_true, if_false]
  simp only [hy]
  refine seg_at ?_
  refine seg_yield hfs hgd hg ?_
  refine hN _ _ _ _ hx _ fun s'' hs => ?_
  exact hs rfl
end
end Mine

end
noncomputable section
open PySem PySem.W PyProof.Rows PySem.Calls Mine
namespace Mine
noncomputable def escGo : Nat → Bool → List Nat → List (Int × Str)
  | i, true, [] => [((i : Int) - 1, ⟨#[92]⟩)]
  | _, false, [] => []
  | i, true, c :: r => ((i : Int), ⟨#[92, c]⟩) :: escGo (i + 1) false r
  | i, false, c :: r => if c = 92 then escGo (i + 1) true r else ((i : Int), ⟨#[c]⟩) :: escGo (i + 1) false r
noncomputable def escs (x : Str) : List (Int × Str) := escGo 0 false x.cps.toList
noncomputable def gFor (p : Nat → Pos) : List Stmt := [
  .If (.Name (S "escape") (p 10)) [
      .Expr (.Yield (some (.Tuple [.Name (S "pos") (p 11), .BinOp (.Constant (.str (S "\\")) 0 (p 12)) .Add (.Name (S "ch") (p 13)) (p 14)] 0 (p 15))) (p 16)) (p 17),
      .Assign [.Name (S "escape") (p 18)] (.Constant (.bool false) 0 (p 19)) (p 20)]
    [.If (.Compare (.Name (S "ch") (p 21)) [.Eq] [.Constant (.str (S "\\")) 0 (p 22)] (p 23))
      [.Assign [.Name (S "escape") (p 24)] (.Constant (.bool true) 0 (p 25)) (p 26)]
      [.Expr (.Yield (some (.Tuple [.Name (S "pos") (p 27), .Name (S "ch") (p 28)] 0 (p 29))) (p 30)) (p 31)] (p 32)] (p 33)]
noncomputable def gEnd (p : Nat → Pos) : List Stmt := [.If (.Name (S "escape") (p 34)) [.Expr (.Yield (some (.Tuple [.Name (S "pos") (p 35), .Constant (.str (S "\\")) 0 (p 36)] 0 (p 37))) (p 38)) (p 39)] [] (p 40)]
noncomputable abbrev gT (p : Nat → Pos) : PySem.Expr := .Tuple [.Name (S "pos") (p 6), .Name (S "ch") (p 7)] 0 (p 8)
noncomputable def gBody (p : Nat → Pos) : List Stmt := .Assign [.Name (S "pos") (p 0)] (.Constant (.int 0) 0 (p 1)) (p 2) :: .Assign [.Name (S "escape") (p 3)] (.Constant (.bool false) 0 (p 4)) (p 5) ::
  .For (gT p) (.Call (.Name (S "enumerate") (p 41)) [.Name (S "addr") (p 42)] [] (p 43)) (gFor p) [] (p 9) :: gEnd p
noncomputable def bodyOf : Stmt → List Stmt
  | .FunctionDef _ _ b _ _ _ _ _ _ _ => b
  | _ => []
noncomputable def scopeOf : Stmt → Scope
  | .FunctionDef _ _ _ _ _ _ s _ _ _ => s
  | _ => default
noncomputable def posL (l : List Pos) (i : Nat) : Pos := l.getD i default
theorem gBody_is : ∃ p, bodyOf (nth top 3) = gBody p := by
  refine' ⟨posL (_ :: _ :: _ :: _ :: _ :: _ :: _ :: _ :: _ :: _ :: _ :: _ :: _ :: _ :: _ :: _ :: _ :: _ :: _ :: _ :: _ :: _ :: _ :: _ :: _ :: _ :: _ :: _ :: _ :: _ :: _ :: _ :: _ :: _ :: _ :: _ :: _ :: _ :: _ :: _ :: _ :: _ :: _ :: _ :: []), ?h⟩
  case h => with_unfolding_all rfl
end Mine

end
noncomputable section
open PySem PySem.W PyProof.Rows PySem.Calls Mine
namespace Mine
noncomputable def escProto (C : Addr) (fp : List Addr) (its : List (Int × Str)) : Protocol := fun m s₀ v s kap =>
  (∃ T i x t u, its[its.length - 1 - m]? = some (i, x) ∧ v = .ref T ∧ s.heap.IsTuple T #[.int i t, .str x u]) ∧ GenSince C fp s₀ s ∧
    ∀ s'' : Shared, (∀ b ∈ C :: fp, ∀ o, s.heap.get? b = some o → s''.heap.get? b = some o) → kap (.send .none) s''
noncomputable abbrev escEnd (C : Addr) (fp : List Addr) : GenEnd := fun n s₀ r s₁ => r = .ok (.ret .none) ∧ (n = 0 ∧ GenSince C fp s₀ s₁)
structure GEnv (env : Env) : Prop where
  hk : env.scope.kind = .function
  hpos : env.kindOf (S "pos") = some .local
  hesc : env.kindOf (S "escape") = some .local
  hch : env.kindOf (S "ch") = some .local
  hco : env.scope.isCoroutine = false
section
variable {prog : Program} {w : World} {A : Around} {E : Value → Shared → Prop} {s : Shared} {env : Env}
theorem gld {x : Str} {pos : Pos} {v : Value} {m : Str → Option Value} {Q : Value → Shared → Prop} (hk : env.scope.kind = .function) (hl : env.kindOf x = some .local) (hn : s.heap.Ns env.locals m) (hv : m x = some v) (h : Q v s) (hd : (x == ("__debug__" : Str)) = false) :
    wpAny (model prog w) A (eval (.Name x pos) env) Q E s := wpAny_Name (wpAny_loadName_local hk hl hn hv h) hd
theorem gst {x : Str} {pos pos' : Pos} {value : PySem.Expr} {v : Value} {m : Str → Option Value} {Q : Flow → Shared → Prop} (hk : env.scope.kind = .function) (hl : env.kindOf x = some .local) (hn : s.heap.Ns env.locals m)
    (he : ∀ Q' : Value → Shared → Prop, (∀ tk, Q' v { s with toks := tk }) → wpAny (model prog w) A (eval value env) Q' E s)
    (hs : swapsWith value (some (.Name x pos')) pos.line env = pure false)
    (h : ∀ h' tk, h'.Ns env.locals (fun z => if z = x then some v else m z) → Heap.SameBut env.locals s.heap h' → Q .next { s with heap := h', toks := tk }) :
    wpAny (model prog w) A (exec (.Assign [.Name x pos'] value pos) env) Q E s :=
  wpAny_Assign_Name (he _ fun tk => wpAny_storeName_local hl (s := { s with toks := tk }) hn (fun h' hn' hs' => h h' _ hn' hs') (by rw [hk]; rfl)) hs
theorem gpair {e₁ e₂ : PySem.Expr} {k : Nat} {pos : Pos} {v₁ : Value} {v₂ : Tok → Value} {Q : Value → Shared → Prop}
    (h₁ : ∀ Q' : Value → Shared → Prop, Q' v₁ s → wpAny (model prog w) A (eval e₁ env) Q' E s)
    (h₂ : ∀ Q' : Value → Shared → Prop, (∀ t' tk, Q' (v₂ t') { s with toks := tk }) → wpAny (model prog w) A (eval e₂ env) Q' E s)
    (hb : backTo pos (starEach [e₁, e₂] env) = [(false, eval e₁ env), (false, eval e₂ env)])
    (h : ∀ t' tk, Q (.ref s.heap.objs.size) { s with heap := s.heap.push { cls := .type "tuple", data := .seq #[v₁, v₂ t'] }, toks := tk }) :
    wpAny (model prog w) A (eval (.Tuple [e₁, e₂] k pos) env) Q E s := by
  refine Tuple_ ?_
  rw [hb]
  refine wpAny_bind (h₁ _ ?_)
  refine wpAny_bind (wpAny_pure (wpAny_bind (wpAny_holding ?_)))
  refine wpAny_bind (h₂ _ fun t' tk => ?_)
  refine wpAny_bind (wpAny_pure (wpAny_bind (wpAny_holding (wpAny_pure (wpAny_pure (wpAny_pure ?_))))))
  exact wpAny_newTuple (h t' tk)
theorem addBack {c : Nat} {t u : Tok} {Q : Value → Shared → Prop} (h : ∀ t' tk, Q (.str ⟨#[92, c]⟩ t') { s with toks := tk }) :
    wpAny (model prog w) A (binaryOp .Add (.str (S "\\") t) (.str ⟨#[c]⟩ u)) Q E s := by
  refine add_str (fun t' tk => ?_) ?_
  · have e3 : S "\\" = ⟨#[92]⟩ := by decide +kernel
    rw [e3]
    exact h t' tk
  · have e4 : (S "\\").length = 1 := by decide +kernel
    rw [e4]; show (1 + 1 : Nat) ≤ sizeLine; rw [sizeLine_eq]; decide
noncomputable abbrev genK : Flow → Sem PySem.Fin := fun f => match f with | .ret v => ret v | _ => ret .none
theorem escProto_send {C : Addr} {fp : List Addr} {its : List (Int × Str)} (n : Nat) (s₀ : Shared) (v : Value) (s : Shared) (k : Resume → Shared → Prop) (h : escProto C fp its n s₀ v s k) (k' : Resume → Shared → Prop)
    (hk : ∀ s', k (.send .none) s' → k' (.send .none) s') : escProto C fp its n s₀ v s k' := ⟨h.1, h.2.1, fun s'' a => hk _ (h.2.2 s'' a)⟩
theorem over_handled {c : Code} {fs : List Frame} (h : A.handled = none) (hf : marksOver fs (none, none) = (none, none)) : (A.over c fs).handled = none := by
  show (marksOver fs (A.handled, A.handled)).1 = none
  rw [h, hf]
theorem esc_end (G : GEnv env) (hh : A.handled = none) {fp : List Addr} {its : List (Int × Str)} {p : Nat → Pos} {esc : Bool} {i : Nat} {s₀ s : Shared} {m : Str → Option Value} {c : Code} {H : Value → Sem PySem.Fin} (hCf : env.locals ∉ fp)
    (hn : s.heap.Ns env.locals m) (he : m (S "escape") = some (.bool esc)) (hp : esc = true → ∃ tk, m (S "pos") = some (.int ((i : Int) - 1) tk)) (hs : GenSince env.locals fp s₀ s) (hi : ∃ pre, its = pre ++ escGo i esc []) :
    Seg (model prog w) A (escEnd env.locals fp) (escProto env.locals fp its) (escGo i esc []).length s₀ c ((execs (gEnd p) env).wrap genK H id id) [] s := by
  have hint : interactive env = false := by unfold interactive; rw [G.hk]; rfl
  refine sg_cons (sg_If (isTrue_plain (gld G.hk G.hesc hn he (wpAny_truthy_bool ?_) (by decide +kernel)) (by rfl)))
  cases esc with
  | false => exact seg_end (.ok (.ret .none)) ⟨rfl, rfl, hs⟩
  | true =>
    obtain ⟨tk, hp⟩ := hp rfl
    obtain ⟨pre, hi⟩ := hi
    refine sg_cons (sg_yield rfl G.hco hint rfl rfl ?_ (escProto_send _))
    refine gpair (v₂ := fun t => .str (S "\\") t) (fun Q' h => gld G.hk G.hpos hn hp h (by decide +kernel)) (fun Q' h => wpAny_Constant_str (h _ _)) (by rfl) fun t' tk' => ?_
    have e3 : S "\\" = ⟨#[92]⟩ := by decide +kernel
    refine ⟨⟨s.heap.objs.size, (i : Int) - 1, ⟨#[92]⟩, tk, _, ?_, rfl, ⟨_, Heap.get?_push_size _ rfl, rfl, 0, by rw [e3]⟩⟩, ?_, ?_⟩
    · rw [hi]; simp [escGo]
    · exact hs.step fun b o _ _ e => Heap.get?_push_of_some _ e
    · intro s'' hal _
      refine seg_end (.ok (.ret .none)) ⟨rfl, rfl, GenSince.refl _ _ _⟩

theorem esc_loop (G : GEnv env) (hh : A.handled = none) {e it : Addr} {x : Str} {its : List (Int × Str)} {p : Nat → Pos} {St : Nat → Heap → Prop} {Mid : Nat → Addr → Heap → Prop} {c : Code} {H : Value → Sem PySem.Fin} {lv : List Value → List Value} {p0 : Pos}
    (W : ∀ A' : Around, A'.handled = none → WalksT prog w A' e [e, it] [e, it] x.cps.size (fun i vals => ∃ t v, (∃ c u, x.cps[i]? = some c ∧ v = Value.str ⟨#[c]⟩ u) ∧ vals = #[.int i t, v]) St Mid)
    (hCf : env.locals ∉ [e, it]) {gd : Bool → Bool} (hgd : gd false = false) (lvv : List Value) (kp : List Value) :
    ∀ (k i : Nat) (esc : Bool) (s₀ s : Shared) (m : Str → Option Value), x.cps.size - i = k → i ≤ x.cps.size → St i s.heap → s.heap.Ns env.locals m → m (S "escape") = some (.bool esc) →
      (0 < i → ∃ tk, m (S "pos") = some (.int ((i : Int) - 1) tk)) → (esc = true → 0 < i) → GenSince env.locals [e, it] s₀ s → (∃ pre, its = pre ++ escGo i esc (x.cps.toList.drop i)) →
      Seg (model prog w) A (escEnd env.locals [e, it]) (escProto env.locals [e, it] its) (escGo i esc (x.cps.toList.drop i)).length s₀ (.forLoop (gT p) (.ref e) (gFor p) [] env) ((model prog w).den (.forLoop (gT p) (.ref e) (gFor p) [] env))
        [.ret (forBack (thenK (gEnd p) env genK H id id) H gd lv env) none (gd false) lvv c p0 kp] s := by
  have hint : interactive env = false := by unfold interactive; rw [G.hk]; rfl
  have hho : ∀ c' k' l', (A.over c' [.ret k' none (gd false) l' c p0 kp]).handled = none := fun c' k' l' => over_handled hh rfl
  intro k
  induction k with
  | zero =>
    intro i esc s₀ s m hk hi hst hn he hpos hesc hs hits
    have hin : i = x.cps.size := sub_end hk hi
    subst hin
    refine sg_turn ((W _ (hho _ _ _)).done s _ _ hst fun h' tk hk' => ?_)
    refine sg_blockEnd ?_
    have ed : x.cps.toList.drop x.cps.size = [] := by simp
    rw [ed] at hits ⊢
    refine esc_end G hh hCf (hn.at' fun o e => hk' _ o hCf e) he (fun h => ?_) (hs.step fun b o _ hw e => hk' b o hw e) hits
    exact hpos (hesc h)
  | succ k ih =>
    intro i esc s₀ s m hk hi hst hn he hpos hesc hs hits
    have hlt : i < x.cps.size := sub_in hk
    obtain ⟨ch, hch⟩ : ∃ ch, x.cps[i]? = some ch := ⟨x.cps[i], by simp [hlt]⟩
    have ed : x.cps.toList.drop i = ch :: x.cps.toList.drop (i + 1) := by
      rw [List.drop_eq_getElem_cons (by simpa using hlt)]
      congr 1
      have := hch; rw [Array.getElem?_eq_getElem hlt] at this
      simpa using this
    refine sg_turn ((W _ (hho _ _ _)).item i s _ _ hlt hst fun T vals h₁ tk₁ hP hT hTu hMid hk₁ => ?_)
    obtain ⟨t, v, ⟨c', u, hc', rfl⟩, rfl⟩ := hP
    rw [hch] at hc'; cases hc'
    refine (W _ (hho _ _ _)).go _ _ _ i T _ _ _ hMid fun h₂ hst₂ hk₂ => ?_
    have ht₂ : h₂.IsTuple T #[.int i t, .str ⟨#[ch]⟩ u] := hTu.at fun o e' => hk₂ T o ((W A hh).apart i T h₁ hMid) e'
    refine wpAny_assign_Tuple (hho _ _ _) ht₂ rfl rfl fun h₃ hx₃ => ?_
    replace hx₃ : Heap.ExtBut h₂.objs.size h₂ h₃ := hx₃
    have up₃ : ∀ b o, h₂.get? b = some o → h₃.get? b = some o := fun b o x => hx₃ b o (Nat.ne_of_lt (Heap.lt_size x)) x
    have up : ∀ b o, b ∉ [e, it] → s.heap.get? b = some o → h₃.get? b = some o := fun b o hb x => up₃ b o (hk₂ b o hb (hk₁ b o hb x))
    have hn₃ : h₃.Ns env.locals m := hn.at' fun o x => up _ o hCf x
    refine wpAny_bind (wpAny_holding (wpAny_assign_Name (wpAny_storeName_local G.hpos hn₃ (fun h₄ hn₄ hs₄ => ?_) (by rw [G.hk]; rfl))))
    replace hs₄ : Heap.SameBut env.locals h₃ h₄ := hs₄
    refine wpAny_bind (wpAny_holding (wpAny_assign_Name (wpAny_storeName_local G.hch hn₄ (fun h₅ hn₅ hs₅ => wpAny_pure ?_) (by rw [G.hk]; rfl))))
    replace hs₅ : Heap.SameBut env.locals h₄ h₅ := hs₅
    have up₅ : ∀ b o, b ≠ env.locals → h₃.get? b = some o → h₅.get? b = some o := fun b o hb x => hs₅.extBut b o hb (hs₄.extBut b o hb x)
    have hne : ∀ b ∈ [e, it], b ≠ env.locals := fun b hb q => hCf (q ▸ hb)
    have hst₅ : St (i + 1) h₅ := (W A hh).frame _ _ _ hst₂ fun b hb o x => up₅ b o (hne b hb) (up₃ b o x)
    have hsince : ∀ tk, GenSince env.locals [e, it] s₀ { s with heap := h₅, toks := tk } := fun tk => hs.step fun b o hC hw x => up₅ b o hC (up b o hw x)
    have m1 : (if (S "escape") = (S "ch") then some (Value.str ⟨#[ch]⟩ u) else if (S "escape") = (S "pos") then some (Value.int i t) else m (S "escape")) = some (.bool esc) := by
      rw [if_neg (by decide +kernel), if_neg (by decide +kernel)]; exact he
    have m2 : (if (S "ch") = (S "ch") then some (Value.str ⟨#[ch]⟩ u) else if (S "ch") = (S "pos") then some (Value.int i t) else m (S "ch")) = some (.str ⟨#[ch]⟩ u) := if_pos rfl
    have m3 : (if (S "pos") = (S "ch") then some (Value.str ⟨#[ch]⟩ u) else if (S "pos") = (S "pos") then some (Value.int i t) else m (S "pos")) = some (.int i t) := by
      rw [if_neg (by decide +kernel), if_pos rfl]
    clear hs₅ hs₄ hn₄ hn₃ hx₃ ht₂ hk₂ hk₁ hTu hMid hst hn he hpos
    rw [ed] at hits ⊢
    have next : ∀ (s₀' s' : Shared) (esc' : Bool) (m' : Str → Option Value), St (i + 1) s'.heap → s'.heap.Ns env.locals m' → m' (S "escape") = some (.bool esc') → m' (S "pos") = some (.int i t) → GenSince env.locals [e, it] s₀' s' →
        (∃ pre, its = pre ++ escGo (i + 1) esc' (x.cps.toList.drop (i + 1))) →
        Seg (model prog w) A (escEnd env.locals [e, it]) (escProto env.locals [e, it] its) (escGo (i + 1) esc' (x.cps.toList.drop (i + 1))).length s₀' (.forLoop (gT p) (.ref e) (gFor p) [] env) ((model prog w).den (.forLoop (gT p) (.ref e) (gFor p) [] env))
          [.ret (forBack (thenK (gEnd p) env genK H id id) H gd lv env) none (gd false) lvv c p0 kp] s' := fun s₀' s' esc' m' a1 a2 a3 a4 a5 a6 =>
      ih (i + 1) esc' s₀' s' m' (sub_nx hk) hlt a1 a2 a3 (fun _ => ⟨t, by rw [a4]; congr 2; omega⟩) (fun _ => Nat.succ_pos i) a5 a6
    refine sg_cons (sg_If (isTrue_plain (gld G.hk G.hesc hn₅ m1 (wpAny_truthy_bool ?_) (by decide +kernel)) (by rfl)))
    cases esc with
    | true =>
      obtain ⟨pre, hits⟩ := hits
      refine sg_cons (sg_yield rfl G.hco hint rfl (by simp [Frame.guarded, hgd]) ?_ (escProto_send _))
      refine gpair (v₂ := fun t => .str ⟨#[92, ch]⟩ t) (fun Q' h => gld G.hk G.hpos hn₅ m3 h (by decide +kernel)) (fun Q' h => ?_) (by rfl) fun t' tk' => ?_
      · exact wpAny_BinOp (wpAny_Constant_str (gld G.hk G.hch hn₅ m2 (addBack fun t' tk => h t' tk) (by decide +kernel)))
      · refine ⟨⟨_, (i : Int), ⟨#[92, ch]⟩, t, t', ?_, rfl, ⟨_, Heap.get?_push_size _ rfl, rfl, 0, rfl⟩⟩, ?_, ?_⟩
        · rw [hits]; simp [escGo]
        · obtain ⟨h', tk, e', hk'⟩ := hsince tk₁
          exact (hsince _).step fun b o _ _ x => Heap.get?_push_of_some _ x
        · intro s'' hal _
          have hal' : ∀ b ∈ env.locals :: [e, it], ∀ o, h₅.get? b = some o → s''.heap.get? b = some o := fun b hb o x => hal b hb o (Heap.get?_push_of_some _ x)
          have hn₆ := hn₅.at' fun o x => hal' _ (List.mem_cons_self ..) o x
          have hst₆ := (W A hh).frame _ _ _ hst₅ fun b hb o x => hal' b (List.mem_cons_of_mem _ hb) o x
          refine sg_cons (sg_stmt ?_)
          refine gst G.hk G.hesc hn₆ (fun Q' h => fun _ _ _ => h s''.toks) (by rfl) fun h₇ tk₇ hn₇ hs₇ => ?_
          refine sg_nil (sg_nil (sg_bodyNext ?_))
          refine next _ _ false _ ((W A hh).frame _ _ _ hst₆ fun b hb o x => hs₇.extBut b o (hne b hb) x) hn₇ (if_pos rfl) ?_ ?_ ⟨pre ++ [((i : Int), ⟨#[92, ch]⟩)], by rw [hits]; simp [escGo]⟩
          · show (if S "pos" = S "escape" then _ else _) = _
            rw [if_neg (by decide +kernel)]; exact m3
          · exact (GenSince.refl _ _ s'').step fun b o hC _ x => hs₇.extBut b o hC x
    | false =>
      refine sg_cons (sg_If ?_)
      refine wpAny_isTrue_Compare1 (gld G.hk G.hch hn₅ m2 (wpAny_Constant_str (eq_str (wpAny_truthy_bool ?_))) (by decide +kernel)) (by with_unfolding_all rfl)
      have e3 : S "\\" = ⟨#[92]⟩ := by decide +kernel
      rw [e3]
      have ebq : ((⟨#[ch]⟩ : Str) == ⟨#[92]⟩) = decide (ch = 92) := by
        by_cases h : ch = 92
        · subst h; rfl
        · rw [decide_eq_false h]
          simpa using h
      rw [ebq]
      by_cases hc : ch = 92
      · rw [if_pos (by simpa using hc)]
        refine sg_block ?_
        refine wpAny_execs_cons (gst G.hk G.hesc hn₅ (fun Q' h => fun _ _ _ => h _) (by rfl) fun h₇ tk₇ hn₇ hs₇ => wpAny_execs_nil ?_)
        refine sg_nil (sg_bodyNext ?_)
        have eg : escGo i false (ch :: x.cps.toList.drop (i + 1)) = escGo (i + 1) true (x.cps.toList.drop (i + 1)) := by simp [escGo, hc]
        rw [eg] at hits ⊢
        refine next _ _ true _ ((W A hh).frame _ _ _ hst₅ fun b hb o x => hs₇.extBut b o (hne b hb) x) hn₇ (if_pos rfl) ?_ ?_ hits
        · show (if S "pos" = S "escape" then _ else _) = _
          rw [if_neg (by decide +kernel)]; exact m3
        · exact (hsince _).step fun b o hC _ x => hs₇.extBut b o hC x
      · rw [if_neg (by simpa using hc)]
        have eg : escGo i false (ch :: x.cps.toList.drop (i + 1)) = ((i : Int), ⟨#[ch]⟩) :: escGo (i + 1) false (x.cps.toList.drop (i + 1)) := by simp [escGo, hc]
        rw [eg] at hits ⊢
        obtain ⟨pre, hits⟩ := hits
        refine sg_cons (sg_yield rfl G.hco hint rfl (by simp [Frame.guarded, hgd]) ?_ (escProto_send _))
        refine gpair (v₂ := fun _ => .str ⟨#[ch]⟩ u) (fun Q' h => gld G.hk G.hpos hn₅ m3 h (by decide +kernel)) (fun Q' h => gld G.hk G.hch hn₅ m2 (h 0 _) (by decide +kernel)) (by rfl) fun t' tk' => ?_
        refine ⟨⟨_, (i : Int), ⟨#[ch]⟩, t, u, ?_, rfl, ⟨_, Heap.get?_push_size _ rfl, rfl, 0, rfl⟩⟩, ?_, ?_⟩
        · rw [hits]; simp
        · exact (hsince _).step fun b o _ _ x => Heap.get?_push_of_some _ x
        · intro s'' hal _
          have hal' : ∀ b ∈ env.locals :: [e, it], ∀ o, h₅.get? b = some o → s''.heap.get? b = some o := fun b hb o x => hal b hb o (Heap.get?_push_of_some _ x)
          have hn₆ := hn₅.at' fun o x => hal' _ (List.mem_cons_self ..) o x
          have hst₆ := (W A hh).frame _ _ _ hst₅ fun b hb o x => hal' b (List.mem_cons_of_mem _ hb) o x
          refine sg_nil (sg_nil (sg_bodyNext ?_))
          exact next _ _ false _ hst₆ hn₆ m1 m3 (GenSince.refl _ _ _) ⟨pre ++ [((i : Int), ⟨#[ch]⟩)], by rw [hits]; simp⟩
end
end Mine

end
noncomputable section
open PySem PySem.W PyProof.Rows PySem.Calls Mine
namespace Mine
theorem fill_it : PySem.Challenge.rw_il0100_01 = PySem.Challenge.rw_il0100_01 ∧ kf = kf := by k_fill; exact ⟨rfl, rfl⟩
noncomputable abbrev gScope : Scope := scopeOf (nth top 3)
noncomputable abbrev gE (C : Addr) (cd : Value) : Env := envOf (S "_iter_escaped_chars") gScope C 46 cd
theorem gEnv_ok (C : Addr) (cd : Value) : GEnv (gE C cd) := ⟨by kernel_rfl, by show gScope.names.lookup _ = _; kernel_rfl, by show gScope.names.lookup _ = _; kernel_rfl, by show gScope.names.lookup _ = _; kernel_rfl, by kernel_rfl⟩
section
variable {w : World} {p : Program} {loose : List Str} {mean : ExcName → Option Value} {mg mb : Str → Option Value}
set_option maxHeartbeats 4000000
theorem enum_name {h₀ : Heap} {C : Addr} {cd : Value} {s : Shared} {m : Str → Option Value} {A : Around} {E : Value → Shared → Prop} {Q : Value → Shared → Prop} {pos : Pos} (F : Fr h₀ C s.heap m) (KX : (kf w.params).In h₀) (T : Top p loose mean mg mb h₀) (h : Q (.type "enumerate") s) :
    wpAny (model pw w) A (eval (.Name (S "enumerate") pos) (gE C cd)) Q E s := by
  show wpAny (model pw w) A (eval (.Name (PySem.Str.ofString "enumerate") pos) (envOf (PySem.Str.ofString "_iter_escaped_chars") gScope C 46 cd)) Q E s
  walk1
  assumption
theorem esc_start {h₀ : Heap} {C : Addr} {cd : Value} {s : Shared} {m : Str → Option Value} {A : Around} {x : Str} {t : Tok} {ps : Nat → Pos} (hh : A.handled = none) (F : Fr h₀ C s.heap m) (KX : (kf w.params).In h₀) (T : Top p loose mean mg mb h₀) (hm : m (S "addr") = some (.str x t)) :
    Seg (model pw w) A (escEnd C [s.heap.objs.size + 1, s.heap.objs.size]) (escProto C [s.heap.objs.size + 1, s.heap.objs.size] (escs x)) (escs x).length s (.func (gBody ps) (gE C cd)) ((model pw w).den (.func (gBody ps) (gE C cd))) [] s := by
  have G := gEnv_ok C cd
  have hC : C < s.heap.objs.size := F.ns.lt
  have hCf : C ∉ [s.heap.objs.size + 1, s.heap.objs.size] := fun h => by
    rcases List.mem_cons.mp h with e | h
    · exact Nat.ne_of_lt (Nat.lt_succ_of_lt hC) e
    · exact Nat.ne_of_lt hC (List.mem_singleton.mp h)
  refine seg_bind (wpAny_point ?_)
  show Seg _ A _ _ _ s _ ((execs (gBody ps) (gE C cd)).onRaise (leaving (gE C cd)) >>= genK) [] s
  rw [Sem.bind_eq_wrap', Sem.onRaise_eq_wrap, Sem.wrap_wrap]
  refine sg_cons (sg_stmt ?_)
  refine gst (v := .int 0 s.toks) G.hk G.hpos F.ns (fun Q' h => fun _ _ _ => h _) (by rfl) fun h₁ tk₁ hn₁ hs₁ => ?_
  refine sg_cons (sg_stmt ?_)
  refine gst (v := .bool false) G.hk G.hesc hn₁ (fun Q' h => fun _ _ _ => h _) (by rfl) fun h₂ tk₂ hn₂ hs₂ => ?_
  have F₂ := (F.set hn₁ hs₁).set hn₂ hs₂
  refine sg_cons (sg_For (by intro _; rfl) ?_)
  have hho : ∀ c', (A.over c' []).handled = none := fun c' => over_handled hh rfl
  have hz : h₂.objs.size = s.heap.objs.size := hs₂.1.trans hs₁.1
  refine Call_Name1 (enum_name F₂ KX T ?_) rfl
  have ma : (if S "addr" = S "escape" then some (Value.bool false) else if S "addr" = S "pos" then some (Value.int 0 s.toks) else m (S "addr")) = some (.str x t) := by
    rw [if_neg (by decide +kernel), if_neg (by decide +kernel)]; exact hm
  have me : (if S "escape" = S "escape" then some (Value.bool false) else if S "escape" = S "pos" then some (Value.int 0 s.toks) else m (S "escape")) = some (.bool false) := if_pos rfl
  have haddr : (gE C cd).kindOf (S "addr") = some .local := by show gScope.names.lookup _ = _; kernel_rfl
  refine PyProof.Rows.callWith_type rfl (Calls.evalArgs_plain (Calls.spliced_cons (gld G.hk haddr hn₂ ma (Calls.spliced_nil ?_) (by decide +kernel))))
  refine call_enumerate_str fun h₃ he hit hsz hk => ?_
  refine wpAny_pyIter_enum he ?_
  intro pz
  have hn₃ := hn₂.at' fun o e => hk _ o e
  have hit' : h₃.IsStrIter s.heap.objs.size (strIterType x) x t 0 := by rw [← hz]; exact hit
  have he' : IsEnum h₃ (s.heap.objs.size + 1) s.heap.objs.size 0 .none := by rw [← hz]; exact he
  rw [show ({ s with heap := h₂, toks := tk₂ } : Shared).heap.objs.size = s.heap.objs.size from hz]
  have sinc : ∀ tk, GenSince C [s.heap.objs.size + 1, s.heap.objs.size] s { s with heap := h₃, toks := tk } := fun tk =>
    (GenSince.refl _ _ s).step fun b o hC _ e => hk b o (hs₂.extBut b o hC (hs₁.extBut b o hC e))
  have fin : ∀ {St : Nat → Heap → Prop}, (∀ A' : Around, A'.handled = none → Draws pw w A' s.heap.objs.size [s.heap.objs.size] x.cps.size (fun i v => ∃ c u, x.cps[i]? = some c ∧ v = .str ⟨#[c]⟩ u) St) → St 0 h₃ → _ := fun {St} D st0 =>
    esc_loop (its := escs x) (p := ps) (H := fun e => Sem.wrap genK Sem.raise id id ((leaving (gE C cd) e).bind fun _ => .raise e)) (lv := id) (p0 := pz) (c := .func (gBody ps) (gE C cd)) (A := A) G hh
      (fun A' hA' => WalksT.enumerateD (D A'.in1 hA') (s.heap.objs.size + 1) (Nat.succ_ne_self _) (by simp) (by simp)) hCf (gd := id) rfl [] [] x.cps.size 0 false s { s with heap := h₃, toks := tk₂ } _ (Nat.sub_zero _) (Nat.zero_le _) ⟨⟨_, he'⟩, st0⟩ hn₃ me
      (fun h => absurd h (Nat.lt_irrefl 0)) (fun h => by cases h) (sinc _) ⟨[], rfl⟩
  cases ha : x.cps.all (· < 128)
  · have hs1 : h₃.IsStrIter s.heap.objs.size "str_iterator" x t 0 := by simpa [strIterType, ha] using hit'
    exact fin (fun A' hA' => Draws.strWide hA' _ x t) hs1
  · have hs1 : h₃.IsStrIter s.heap.objs.size "str_ascii_iterator" x t 0 := by simpa [strIterType, ha] using hit'
    exact fin (fun A' hA' => Draws.strAscii hA' _ x t) hs1
end
end Mine

end
noncomputable section
open PySem PySem.W PyProof.Rows PySem.Calls Mine
namespace Mine
section
variable {prog : Program} {w : World} {A : Around} {E : Value → Shared → Prop} {s : Shared}
theorem next_esc {a C : Addr} {g n : Nat} {gs : GenState} {fp : List Addr} {its : List (Int × Str)} {Q : Option Value → Shared → Prop} (hh : A.handled = none) (hl : s.heap.NoLimit) (hroom : A.depth < recursionLimit)
    (hg : s.heap.IsGen a g) (hgs : s.gens[g]? = some gs) (hgo : gs.Goes (model prog w) A.in1 (escEnd C fp) (escProto C fp its) n (.send .none) (s.setGen g .running))
    (hY : ∀ v s₁ gs' m, n = m + 1 → gs'.bare = true → escProto C fp its m (s.setGen g .running) v s₁ (fun r' s'' => gs'.Goes (model prog w) A.in1 (escEnd C fp) (escProto C fp its) m r' s'') → Q (some v) (s₁.setGen g gs'))
    (hP : ∀ s₁ h', n = 0 → GenSince C fp (s.setGen g .running) s₁ → (∀ b o, s₁.heap.get? b = some o → h'.get? b = some o) → Q none { s₁.setGen g .finished with heap := h' }) :
    wpAny (model prog w) A (pyNext (.ref a)) Q E s := by
  have special := wpAny_callSpecial?_slot (M := model prog w) (A := A) (E := fun e s' => wpAny (model prog w) A (do if ← isInstance e (.type "StopIteration") then pure none else throw e) Q E s')
    (Q := fun r s' => match r with | some v => Q (some v) s' | none => False) (name := Str.ofString "__next__") hg.typeIs slot_gen_next
    (wpAny_call_entry slot_gen_next hg.typeIs entry_gen_next (by
      show wpAny _ _ (Builtin.Generator.genWake (.ref a) (.send .none)) _ _ s
      unfold Builtin.Generator.genWake
      refine wpAny_bind (wpAny_holding (wpAny_genNumber hg (wpAny_bind (wpAny_genState hgs ?_))))
      have main : ∀ k : GenResult → Sem PySem.Fin, (∀ v, k (.yielded v) = ret v) → (∃ jp : Unit → Sem PySem.Fin, k (.returned .none) = (newExc (.type "StopIteration") [] >>= fun e => raiseNew e >>= jp)) →
          wpAny (model prog w) A.in1 (.resume g (.send .none) [] k) (fun fin s' => ∃ v, fin = .done (.ret v) ∧ Q (some v) s') (fun e s' => wpAny (model prog w) A (do if ← isInstance e (.type "StopIteration") then pure none else throw e) Q E s') s := by
        intro k k1 k2
        refine wpAny_resumeQ hgs hgo (fun x s₁ hx => ?_) (fun v s₁ gs' hb hv => ?_)
        · obtain ⟨rfl, hn, hp⟩ := hx
          show wpAny _ _ (k (.returned .none)) _ _ _
          obtain ⟨jp, k2⟩ := k2
          rw [k2]
          refine wpAny_bind ?_
          simp only [newExc, newTuple]
          refine wpAny_bind (wpAny_newObj_type ?_ (by size_fits))
          refine wpAny_bind (m := firstArgMember _ _) (wpAny_of_eq (a := Value.none) (by first | rfl | (simp only [firstArgMember]; rfl)) ?_)
          refine wpAny_newObj_type ?_ (by size_fits)
          refine wpAny_bind ?_
          simp only [raiseNew]
          refine wpAny_bind (wpAny_handled ?_)
          rw [show A.in1.handled = none from hh]
          refine wpAny_bind (wpAny_pure (wpAny_throw ?_))
          refine wpAny_bind (wpAny_isInstance (T := "StopIteration") (b := true) ⟨_, Heap.get?_push_size _ rfl, rfl⟩ isSubtype_stop ?_)
          exact wpAny_pure (hP s₁ _ hn hp fun b o hb => Heap.get?_push_of_some _ (Heap.get?_push_of_some _ hb))
        · rw [k1]
          cases n with
          | zero => exact absurd (hv.2.2 s₁ fun _ _ _ e => e) id
          | succ m => exact wpAny_pure ⟨v, rfl, hY v s₁ gs' m rfl hb hv⟩
      cases gs with
      | running => exact hgo.elim
      | finished => exact hgo.elim
      | _ => exact wpAny_bind (wpAny_roomToWake hl hroom (main _ (fun _ => rfl) ⟨_, rfl⟩))) (args_gen_next _))
  unfold pyNext
  refine wpAny_bind (wpAny_attempt (wpAny_mono special (fun r s' h => ?_) fun _ _ h => h))
  cases r with
  | none => exact h.elim
  | some v => exact wpAny_pure h
end
end Mine

end
noncomputable section
open PySem PySem.W PyProof.Rows PySem.Calls Mine
namespace Mine
theorem allBare_only {g : Nat} {a b : Array GenState} {x : GenState} (ha : AllBare a) (h : GenOnly g a b) (hg : b[g]? = some x) (hx : x.bare = true) : AllBare b :=
  ha.moved (GenOnlyQ.of h hg hx)
theorem forLoop_cut {prog : Program} {w : World} {A : Around} {target it : _} {body : List Stmt} {env : Env} {R : Result → Shared → Prop} {s : Shared} (I : Nat → Shared → Prop)
    (turn : ∀ n s, I n s → ∀ (E : Value → Shared → Prop) (B : Shared → Prop), (∀ s₂, wpAny (model prog w) A (execs body env) (fun f s₃ => match f with
          | .next | .cont => ∃ m, m < n ∧ I m s₃
          | .brk => R (.ok .next) s₃
          | .ret v => R (.ok (.ret v)) s₃) (notedBy (model prog w) A env fun e s' => R (.error e) s') s₂ → B s₂) →
      wpAny (model prog w) A (pyNext it) (fun r s₁ => match r with
        | none => R (.ok .next) s₁
        | some v => wpAny (model prog w) A (letOwnedTupleGo target it v) (fun _ s₁' => wpAny (model prog w) A (assign target env v) (fun _ s₂ => B s₂) E s₁') E s₁) E s)
    (n : Nat) (h : I n s) : codeAny (model prog w) A (.forLoop target it body [] env) R s :=
  codeAny_forLoop_any I (fun n s hI => wpAny_mono (turn n s hI _ _ fun _ h => h) (fun r s₁ hr => by cases r with | none => exact wpAny_execs_nil hr | some v => exact hr) fun _ _ h => h) n h
inductive EscInv (w : World) (A : Around) (h₀ : Heap) (L C I : Addr) (g : Nat) (x : Str) (gs0 : GenState) (fp : List Addr) (s : Shared) (keep : List (Addr × Obj)) (J : Nat → (Str → Option Value) → List (Addr × Obj) → Prop) : Nat → Shared → Prop
  | mk (i : Nat) (h : Heap) (tk : Nat) (G : Array GenState) (gs : GenState) (m' : Str → Option Value) (nw : List (Addr × Obj)) (hi : i ≤ (escs x).length) (F' : Fr h₀ L h m') (N' : News h₀ L h nw) (ha' : nw.map (·.1) = keep.map (·.1)) (hJ : J i m' nw)
      (hI' : h.IsGen I g) (hG : GenOnly g s.gens G) (hGg : G[g]? = some gs) (hbare : gs.bare = true) (hkeep : ∀ b o, h₀.get? b = some o → h.get? b = some o)
      (hst : (i = 0 ∧ h = s.heap ∧ gs = gs0) ∨
        ∀ s'' : Shared, (∀ b ∈ C :: fp, ∀ o, h.get? b = some o → s''.heap.get? b = some o) → gs.Goes (model pw w) A.in1 (escEnd C fp) (escProto C fp (escs x)) ((escs x).length - i) (.send .none) s'') :
      EscInv w A h₀ L C I g x gs0 fp s keep J ((escs x).length + 1 - i) { s with heap := h, toks := tk, gens := G }
section
variable {w : World} {A : Around} {R : Result → Shared → Prop} {s : Shared} {h₀ : Heap} {p : Program} {loose : List Str} {mean : ExcName → Option Value} {mg mb : Str → Option Value} {name : Str} {scope : Scope} {L a : Addr} {cd : Value}
theorem forLoop_esc {cdg : Value} {ps : Nat → Pos} {x : Str} {t : Tok} {pk pv pt : Pos} {x1 : Nat} {body : List Stmt} {C I : Addr} {g : Nat} {m₀ mC : Str → Option Value} {keep : List (Addr × Obj)}
    (J : Nat → (Str → Option Value) → List (Addr × Obj) → Prop) (hh : A.handled = none) (hroom : A.depth < recursionLimit) (F : Fr h₀ L s.heap m₀) (N : News h₀ L s.heap keep) (KX : (kf w.params).In h₀) (T : Top p loose mean mg mb h₀)
    (FC : Fr h₀ C s.heap mC) (hC : mC (S "addr") = some (.str x t)) (hI : s.heap.IsGen I g) (hgs : s.gens[g]? = some (.fresh (.func (gBody ps) (gE C cdg)))) (hAB : AllBare s.gens)
    (hIn : h₀.get? I = none) (hIL : I ≠ L) (hCL : C ≠ L) (hIC : I ≠ C) (hkC : ∀ q ∈ keep, q.1 ≠ C) (hkI : ∀ q ∈ keep, q.1 ≠ I) (hj : J 0 m₀ keep)
    (hx : scope.names.lookup (S "pos") = some .local) (hy : scope.names.lookup (S "ch") = some .local) (hks : scope.kind = .function)
    (turn : ∀ i k c u v m₁ news₁ h tk gens' own, (escs x)[i]? = some (k, c) → OwnOff own (keep.map (·.1)) → J i m₁ news₁ → news₁.map (·.1) = keep.map (·.1) → AllBare gens' →
      Fr h₀ L h (fun z => if z = S "ch" then some (.str c u) else if z = S "pos" then some (.int k v) else m₁ z) → News h₀ L h (news₁ ++ own) →
      wpAny (model pw w) A (execs body (envOf name scope L a cd)) (InvPostN h₀ L (J (i + 1)) own (keep.map (·.1)) { s with heap := h, toks := tk, gens := gens' } (fun f s' => match f with | .ret v => R (.ok (.ret v)) s' | _ => R (.ok .next) s'))
        (notedBy (model pw w) A (envOf name scope L a cd) fun e s' => R (.error e) s') { s with heap := h, toks := tk, gens := gens' })
    (done : ∀ m₁ news₁ h tk gens', J (escs x).length m₁ news₁ → news₁.map (·.1) = keep.map (·.1) → AllBare gens' → Fr h₀ L h m₁ → News h₀ L h news₁ → R (.ok .next) { s with heap := h, toks := tk, gens := gens' }) :
    codeAny (model pw w) A (.forLoop (.Tuple [.Name (S "pos") pk, .Name (S "ch") pv] x1 pt) (.ref I) body [] (envOf name scope L a cd)) R s := by
  let fp : List Addr := [s.heap.objs.size + 1, s.heap.objs.size]
  have hCs : C < s.heap.objs.size := FC.ns.lt
  have hLs : L < s.heap.objs.size := F.ns.lt
  have hIs : I < s.heap.objs.size := by obtain ⟨_, _, _, e, _⟩ := hI; exact Heap.lt_size e
  have hn0 : ∀ b, s.heap.objs.size ≤ b → h₀.get? b = none := fun b hb => Heap.get?_none_of_le (Nat.le_trans (Nat.le_trans F.above (Nat.le_of_lt hLs)) hb)
  have hCn : h₀.get? C = none := Heap.get?_none_of_le FC.above
  have hfpn : ∀ b ∈ fp, h₀.get? b = none := fun b hb => by
    rcases List.mem_cons.mp hb with rfl | hb
    · exact hn0 _ (Nat.le_succ _)
    · rw [List.mem_singleton.mp hb]; exact hn0 _ (Nat.le_refl _)
  have hfps : ∀ b ∈ fp, s.heap.objs.size ≤ b := fun b hb => by
    rcases List.mem_cons.mp hb with rfl | hb
    · exact Nat.le_succ _
    · rw [List.mem_singleton.mp hb]; exact Nat.le_refl _
  have hoff : ∀ b, b < s.heap.objs.size → b ∉ fp := fun b hb h => absurd (hfps b h) (Nat.not_le.mpr hb)
  have hks' : ∀ q ∈ keep, q.1 < s.heap.objs.size := fun q hq => Heap.lt_size (N q hq).1
  refine forLoop_cut (EscInv w A h₀ L C I g x (.fresh (.func (gBody ps) (gE C cdg))) fp s keep J) ?_ ((escs x).length + 1) (.mk 0 s.heap s.toks s.gens _ m₀ keep (Nat.zero_le _) F N rfl hj hI ⟨rfl, fun _ _ => rfl⟩ hgs rfl F.keep (.inl ⟨rfl, rfl, rfl⟩))
  intro k s' hI0 E B hB
  cases hI0 with
  | mk i h tk G gs m' nw hi F' N' ha' hJ hI' hG hGg hbare hkeep hst =>
  have hgo : gs.Goes (model pw w) A.in1 (escEnd C fp) (escProto C fp (escs x)) ((escs x).length - i) (.send .none) (Shared.setGen { s with heap := h, toks := tk, gens := G } g .running) := by
    rcases hst with ⟨rfl, rfl, rfl⟩ | hst
    · exact ⟨rfl, esc_start (s := Shared.setGen { s with toks := tk, gens := G } g .running) (A := A.in1) hh FC KX T hC⟩
    · exact hst _ fun _ _ _ e => e
  have hnl : h.NoLimit := T.nolimit.keeps hkeep
  have nwOff : ∀ q ∈ nw, q.1 ≠ C ∧ q.1 ∉ fp ∧ q.1 ≠ I := fun q hq => by
    have : q.1 ∈ keep.map (·.1) := ha' ▸ List.mem_map.mpr ⟨q, hq, rfl⟩
    obtain ⟨r, hr, e⟩ := List.mem_map.mp this
    exact ⟨e ▸ hkC r hr, e ▸ hoff _ (hks' r hr), e ▸ hkI r hr⟩
  have upd : ∀ h₁ : Heap, (∀ b o, b ≠ C → b ∉ fp → h.get? b = some o → h₁.get? b = some o) → Fr h₀ L h₁ m' ∧ News h₀ L h₁ nw ∧ h₁.IsGen I g ∧ ∀ b o, h₀.get? b = some o → h₁.get? b = some o := fun h₁ hk => by
    have hk0 : ∀ b o, h₀.get? b = some o → h₁.get? b = some o := fun b o e => hk b o (fun q => by rw [q, hCn] at e; cases e) (fun q => by rw [hfpn b q] at e; cases e) (hkeep b o e)
    refine ⟨⟨F'.ns.at' fun o e => hk _ o (Ne.symm hCL) (hoff _ hLs) e, hk0, F'.above⟩, fun q hq => ⟨hk _ _ (nwOff q hq).1 (nwOff q hq).2.1 (N' q hq).1, (N' q hq).2⟩, ?_, hk0⟩
    obtain ⟨o, nm, qn, ho, r⟩ := hI'
    exact ⟨o, nm, qn, hk I o hIC (hoff _ hIs) ho, r⟩
  refine next_esc (s := { s with heap := h, toks := tk, gens := G }) hh hnl hroom hI' hGg hgo (fun v s₁ gs' m hm hb hv => ?_) (fun s₁ h' hm hsince hk' => ?_)
  · obtain ⟨⟨Tt, k, c, v0, u, hix, rfl, hT⟩, ⟨h₁, tk₁, rfl, hk₁⟩, hkap⟩ := hv
    replace hk₁ : ∀ b o, b ≠ C → b ∉ fp → h.get? b = some o → h₁.get? b = some o := hk₁
    obtain ⟨F₁, N₁, hI₁, hkeep₁⟩ := upd h₁ hk₁
    have hidx : (escs x).length - 1 - m = i := sub_back hi hm
    rw [hidx] at hix
    replace hT : h₁.IsTuple Tt #[.int k v0, .str c u] := hT
    have hG₂ : GenOnly g s.gens ((Shared.setGen { s with heap := h₁, toks := tk₁, gens := (Shared.setGen { s with gens := G } g .running).gens } g gs').gens) := hG.trans ((GenOnly.setGen { s with gens := G } g .running).trans (GenOnly.setGen _ g gs'))
    have hGg₂ : ((Shared.setGen { s with heap := h₁, toks := tk₁, gens := (Shared.setGen { s with gens := G } g .running).gens } g gs').gens)[g]? = some gs' := setGen_self (gs := .running) (setGen_self (s := { s with gens := G }) hGg)
    generalize hGe : (Shared.setGen { s with heap := h₁, toks := tk₁, gens := (Shared.setGen { s with gens := G } g .running).gens } g gs').gens = G₂ at hG₂ hGg₂
    have hse : Shared.setGen { (Shared.setGen { s with heap := h, toks := tk, gens := G } g .running) with heap := h₁, toks := tk₁ } g gs' = { s with heap := h₁, toks := tk₁, gens := G₂ } := by rw [← hGe]; rfl
    rw [hse]
    have go : ∀ (Q : Unit → Shared → Prop) E, Q () { s with heap := h₁, toks := tk₁, gens := G₂ } → wpAny (model pw w) A (letOwnedTupleGo (.Tuple [.Name (S "pos") pk, .Name (S "ch") pv] x1 pt) (.ref I) (.ref Tt)) Q E { s with heap := h₁, toks := tk₁, gens := G₂ } := fun Q E hQ => by
      obtain ⟨o, nm, qn, ho, hc, hd, _⟩ := hI₁
      unfold letOwnedTupleGo
      refine wpAny_bind (wpAny_load ho ?_)
      rw [hc, hd]
      exact wpAny_pure hQ
    refine go _ _ ?_
    refine wpAny_assign_Tuple hh hT rfl rfl fun h₂ hx₂ => ?_
    replace hx₂ : Heap.ExtBut h₁.objs.size h₁ h₂ := hx₂
    have up₂ : ∀ b o, h₁.get? b = some o → h₂.get? b = some o := fun b o x => hx₂ b o (Nat.ne_of_lt (Heap.lt_size x)) x
    obtain ⟨F₂, N₂, hI₂, hkeep₂⟩ := upd h₂ fun b o hb hf e => up₂ b o (hk₁ b o hb hf e)
    have hkx : (envOf name scope L a cd).kindOf (S "pos") = some .local := hx
    have hky : (envOf name scope L a cd).kindOf (S "ch") = some .local := hy
    have hcls : ((envOf name scope L a cd).scope.kind == .class || ((envOf name scope L a cd).scope.kind == .module && (envOf name scope L a cd).locals != (envOf name scope L a cd).globals)) = false := by
      show (scope.kind == .class || (scope.kind == .module && L != mainGlobals)) = false; rw [hks]; rfl
    refine wpAny_bind (wpAny_holding (wpAny_assign_Name (wpAny_storeName_local hkx F₂.ns (fun h₃ hn₃ hs₃ => ?_) hcls)))
    replace hs₃ : Heap.SameBut L h₂ h₃ := hs₃
    refine wpAny_bind (wpAny_holding (wpAny_assign_Name (wpAny_storeName_local hky hn₃ (fun h₄ hn₄ hs₄ => wpAny_pure ?_) hcls)))
    replace hs₄ : Heap.SameBut L h₃ h₄ := hs₄
    have F₄ := (F₂.set hn₃ hs₃).set hn₄ hs₄
    have N₄ := (N₂.set hs₃).set hs₄
    have up₄ : ∀ b o, b ≠ L → h₂.get? b = some o → h₄.get? b = some o := fun b o hb x => hs₄.extBut b o hb (hs₃.extBut b o hb x)
    have hI₄ : h₄.IsGen I g := by obtain ⟨o, nm, qn, ho, r⟩ := hI₂; exact ⟨o, nm, qn, up₄ _ _ hIL ho, r⟩
    have hgo₄ : ∀ s'' : Shared, (∀ b ∈ C :: fp, ∀ o, h₄.get? b = some o → s''.heap.get? b = some o) → gs'.Goes (model pw w) A.in1 (escEnd C fp) (escProto C fp (escs x)) ((escs x).length - (i + 1)) (.send .none) s'' := fun s'' hal => by
      have em : (escs x).length - (i + 1) = m := sub_nx hm
      rw [em]
      refine hkap s'' fun b hb o e => hal b hb o (up₄ b o ?_ (up₂ b o e))
      rcases List.mem_cons.mp hb with rfl | hb
      · exact hCL
      · exact fun q => hoff L hLs (q ▸ hb)
    have Nown : News h₀ L h₄ (ownOf h₀ (I :: C :: fp) h₄) := news_ownOf fun hb => by
      rcases List.mem_cons.mp hb with e | hb
      · exact hIL e.symm
      · rcases List.mem_cons.mp hb with e | hb
        · exact hCL e.symm
        · exact hoff L hLs hb
    have hown : OwnOff (ownOf h₀ (I :: C :: fp) h₄) (keep.map (·.1)) := fun q hq b hb e => by
      obtain ⟨r, hr, rfl⟩ := List.mem_map.mp hb
      have hq' := ownOf_sub q hq
      rw [e] at hq'
      rcases List.mem_cons.mp hq' with e | hq'
      · exact hkI r hr e
      · rcases List.mem_cons.mp hq' with e | hq'
        · exact hkC r hr e
        · exact hoff _ (hks' r hr) hq'
    refine hB _ (wpAny_mono (turn i k c u v0 m' nw h₄ _ G₂ _ hix hown hJ ha' (allBare_only hAB hG₂ hGg₂ hb) F₄ (N₄.append Nown)) (fun f s₃ pf => ?_) fun _ _ e => e)
    have inOwn : ∀ b ∈ I :: C :: fp, ∀ o, h₄.get? b = some o → (b, o) ∈ ownOf h₀ (I :: C :: fp) h₄ := fun b hb o e => mem_ownOf hb (by
      rcases List.mem_cons.mp hb with rfl | hb
      · exact hIn
      · rcases List.mem_cons.mp hb with rfl | hb
        · exact hCn
        · exact hfpn b hb) e
    have fin : ∀ {s₃ : Shared}, InvEndN h₀ L (J (i + 1)) (ownOf h₀ (I :: C :: fp) h₄) (keep.map (·.1)) { s with heap := h₄, toks := tk₁ + 1 + 1, gens := G₂ } s₃ → ∃ m, m < (escs x).length + 1 - i ∧ EscInv w A h₀ L C I g x (.fresh (.func (gBody ps) (gE C cdg))) fp s keep J m s₃ := by
      rintro s₃ ⟨h', tk', m'', news', nx, rfl, F', N', hn', ho', ha'', hJ'⟩
      refine ⟨(escs x).length + 1 - (i + 1), meas_lt (sub_in hm), EscInv.mk (i + 1) h' tk' G₂ gs' m'' nx (sub_in hm) F' (fun q hq => N' q (hn' q hq)) ha'' hJ' ?_ hG₂ hGg₂ hb F'.keep (.inr fun s'' hal => ?_)⟩
      · obtain ⟨o, nm, qn, ho, r⟩ := hI₄
        exact ⟨o, nm, qn, (N' _ (ho' _ (inOwn I (List.mem_cons_self ..) o ho))).1, r⟩
      · exact hgo₄ s'' fun b hb o e => hal b hb o (N' _ (ho' _ (inOwn b (List.mem_cons_of_mem _ hb) o e))).1
    cases f with
    | ret v => exact pf
    | brk => exact pf
    | next => exact fin pf
    | cont => exact fin pf
  · have hin : i = (escs x).length := sub_end hm hi
    subst hin
    obtain ⟨h₁, tk₁, rfl, hk₁⟩ := hsince
    replace hk₁ : ∀ b o, b ≠ C → b ∉ fp → h.get? b = some o → h₁.get? b = some o := hk₁
    obtain ⟨F₁, N₁, _, _⟩ := upd h' fun b o hb hf e => hk' b o (hk₁ b o hb hf e)
    have hG₂ : GenOnly g s.gens ((Shared.setGen { s with heap := h₁, toks := tk₁, gens := (Shared.setGen { s with gens := G } g .running).gens } g .finished).gens) := hG.trans ((GenOnly.setGen { s with gens := G } g .running).trans (GenOnly.setGen _ g .finished))
    have hGg₂ : ((Shared.setGen { s with heap := h₁, toks := tk₁, gens := (Shared.setGen { s with gens := G } g .running).gens } g .finished).gens)[g]? = some .finished := setGen_self (gs := .running) (setGen_self (s := { s with gens := G }) hGg)
    exact (done m' nw h' tk₁ _ hJ ha' (allBare_only hAB hG₂ hGg₂ rfl) F₁ N₁)
end
end Mine

end
noncomputable section
open PySem PySem.W PyProof.Rows PySem.Calls Mine
namespace Mine

section
variable {w : World} {A : Around} {E : Value → Shared → Prop} {s : Shared} {h₀ : Heap} {p : Program} {loose : List Str} {mean : ExcName → Option Value} {mg mb : Str → Option Value} {name : Str} {scope : Scope} {L a : Addr} {cd : Value}
theorem call_esc {x : Str} {t : Tok} {m : Str → Option Value} {news : List (Addr × Obj)} {Q : Value → Shared → Prop} (hroom : A.depth < recursionLimit) (F : Fr h₀ L s.heap m) (N : News h₀ L s.heap news) (KX : (kf w.params).In h₀) (T : Top p loose mean mg mb h₀)
    (h : ∀ C I g ps h' tk mC, Fr h₀ L h' m → News h₀ L h' news → Fr h₀ C h' mC → mC (S "addr") = some (.str x t) → h'.IsGen I g → (s.gens.push (.fresh (.func (gBody ps) (gE C (.ref 45)))))[g]? = some (.fresh (.func (gBody ps) (gE C (.ref 45)))) →
      h₀.get? I = none → I ≠ L → C ≠ L → I ≠ C → (∀ q ∈ news, q.1 ≠ C ∧ q.1 ≠ I) → Q (.ref I) { s with heap := h', toks := tk, gens := s.gens.push (.fresh (.func (gBody ps) (gE C (.ref 45)))) }) :
    wpAny (model pw w) A (call (.ref 46) [.str x t]) Q E s := by
  obtain ⟨ps, hps⟩ := gBody_is
  have ho : (kf w.params).lookup 46 = some (k46 w.params) := rfl
  refine wpAny_call ?_
  have hcode : codeIn (kf w.params) (.ref 45) (S "_iter_escaped_chars") = true := by kernel_rfl
  have ho0 := (KX.keeps F.keep) _ _ ho
  refine codeAny_call_generator hroom ho0 rfl (by kernel_rfl) (by kernel_rfl) (body := bodyOf (nth top 3)) rfl (codeRec_of (KX.keeps F.keep) hcode) ?_
  have hb : bindArgs (fO (nth top 3) (S "_iter_escaped_chars") .none .none .none (.str (S "cpy313.email.utils") 286) none (.ref 45) .none) ⟨[.str x t], []⟩ = pure [(S "addr", .str x t)] := by rfl
  rw [hb]
  have hsc : ∀ y ∈ gScope.names, y.2 ≠ .cell := by decide +kernel
  have hlk : gScope.names.lookup (S "addr") = some .local := by kernel_rfl
  refine wpAny_pure (wpAny_newFunctionEnv hsc (fun y hy => by rw [List.mem_singleton.mp hy]; exact hlk) (fun h₁ hns hsb => ⟨(T.nolimit.keeps F.keep).fresh _ hsb, ?_⟩) (by kernel_rfl))
  have hLs : L < s.heap.objs.size := F.ns.lt
  have hz : h₁.objs.size = s.heap.objs.size + 1 := hsb.1.trans (Heap.size_push ..)
  have up : ∀ b o, s.heap.get? b = some o → h₁.get? b = some o := fun b o e => hsb.extBut b o (Nat.ne_of_lt (Heap.lt_size e)) (Heap.get?_push_of_some _ e)
  rw [hps]
  have hn0 : ∀ b, s.heap.objs.size ≤ b → h₀.get? b = none := fun b hb => Heap.get?_none_of_le (Nat.le_trans (Nat.le_trans F.above (Nat.le_of_lt hLs)) hb)
  have hq : ∀ q ∈ news, q.1 < s.heap.objs.size := fun q hq => Heap.lt_size (N q hq).1
  refine h s.heap.objs.size h₁.objs.size s.gens.size ps _ _ (fun y => List.lookup y ([(S "addr", Value.str x t)] : List (Str × Value)).reverse) ?_ ?_ ?_ ?_ ?_ ?_ ?_ ?_ ?_ ?_ ?_
  · exact ⟨(F.ns.at' fun o e => up _ o e).at' fun o e => Heap.get?_push_of_some _ e, fun b o e => Heap.get?_push_of_some _ (up b o (F.keep b o e)), F.above⟩
  · exact fun q hq => ⟨Heap.get?_push_of_some _ (up _ _ (N q hq).1), (N q hq).2⟩
  · exact ⟨hns.at' fun o e => Heap.get?_push_of_some _ e, fun b o e => Heap.get?_push_of_some _ (up b o (F.keep b o e)), Nat.le_trans F.above (Nat.le_of_lt hLs)⟩
  · rfl
  · exact ⟨_, _, _, Heap.get?_push_size _ rfl, rfl, rfl, rfl⟩
  · simp
  · exact hn0 _ (by rw [hz]; exact Nat.le_succ _)
  · rw [hz]; exact Nat.ne_of_gt (Nat.lt_succ_of_lt hLs)
  · exact Nat.ne_of_gt hLs
  · rw [hz]; exact Nat.succ_ne_self _
  · exact fun q hq' => ⟨Nat.ne_of_lt (hq q hq'), by rw [hz]; exact Nat.ne_of_lt (Nat.lt_succ_of_lt (hq q hq'))⟩
end
end Mine

end
noncomputable section
open PySem PySem.W PyProof.Rows PySem.Calls Mine
namespace Mine
section
variable {w : World} {A : Around} {E : Value → Shared → Prop} {s : Shared} {h₀ : Heap} {p : Program} {loose : List Str} {mean : ExcName → Option Value} {mg mb : Str → Option Value} {name : Str} {scope : Scope} {L a : Addr} {cd : Value}
theorem For_esc {x : Str} {t : Tok} {pk pv pt q1 q2 q3 pos : Pos} {x1 : Nat} {body : List Stmt} {m₀ : Str → Option Value} {news keep : List (Addr × Obj)} {Q : Flow → Shared → Prop}
    (J : Nat → (Str → Option Value) → List (Addr × Obj) → Prop) (hh : A.handled = none) (hroom : A.depth < recursionLimit) (F : Fr h₀ L s.heap m₀) (N : News h₀ L s.heap news) (KX : (kf w.params).In h₀) (T : Top p loose mean mg mb h₀)
    (hm : m₀ (S "addr") = some (.str x t)) (hAB : AllBare s.gens) (hk : ∀ q ∈ keep, q ∈ news) (hj : J 0 m₀ keep)
    (hx : scope.names.lookup (S "pos") = some .local) (hy : scope.names.lookup (S "ch") = some .local) (ha : scope.names.lookup (S "addr") = some .local) (hi : scope.names.lookup (S "_iter_escaped_chars") = some .globalImplicit) (hks : scope.kind = .function)
    (turn : ∀ i k c u v m₁ news₁ h tk gens' own, (escs x)[i]? = some (k, c) → OwnOff own (keep.map (·.1)) → J i m₁ news₁ → news₁.map (·.1) = keep.map (·.1) → AllBare gens' →
      Fr h₀ L h (fun z => if z = S "ch" then some (.str c u) else if z = S "pos" then some (.int k v) else m₁ z) → News h₀ L h (news₁ ++ own) →
      wpAny (model pw w) A (execs body (envOf name scope L a cd)) (InvPostN h₀ L (J (i + 1)) own (keep.map (·.1)) { s with heap := h, toks := tk, gens := gens' } Q) E { s with heap := h, toks := tk, gens := gens' })
    (done : ∀ m₁ news₁ h tk gens', J (escs x).length m₁ news₁ → news₁.map (·.1) = keep.map (·.1) → AllBare gens' → Fr h₀ L h m₁ → News h₀ L h news₁ → Q .next { s with heap := h, toks := tk, gens := gens' })
    (hE : PassesOwn (model pw w) A (envOf name scope L a cd) E) :
    wpAny (model pw w) A (exec (.For (.Tuple [.Name (S "pos") pk, .Name (S "ch") pv] x1 pt) (.Call (.Name (S "_iter_escaped_chars") q1) [.Name (S "addr") q2] [] q3) body [] pos) (envOf name scope L a cd)) Q E s := by
  refine wpAny_For ?_ (by intro _; rfl)
  have hg : (envOf name scope L a cd).kindOf (S "_iter_escaped_chars") = some .globalImplicit := hi
  refine Call_Name1 (name_K F KX (topRead_of T) (v := .ref 46) (by kernel_rfl) ?_ hks hg (by decide +kernel)) rfl
  refine callWith_K (first := []) (f := .ref 46) (e := .Name (S "addr") q2) KX (by kernel_rfl) ?_ (env := envOf name scope L a cd) (rest := []) rfl rfl
  refine Calls.spliced_cons (gld hks ha F.ns hm (Calls.spliced_nil ⟨KX.keeps F.keep, ?_⟩) (by decide +kernel))
  refine call_esc hroom F N KX T fun C I g ps h' tk mC F' N' FC hC hI hgs hIn hIL hCL hIC hoff => ?_
  refine wpAny_pyIter_gen hI ?_
  refine forLoop_esc J hh hroom F' (fun q hq => N' q (hk q hq)) KX T FC hC hI hgs (AllBare.push hAB rfl) hIn hIL hCL hIC (fun q hq => (hoff q (hk q hq)).1) (fun q hq => (hoff q (hk q hq)).2) hj hx hy hks ?_ ?_
  · intro i k c u v m₁ news₁ h tk' gens' own e1 e2 e3 e4 e5 e6 e7
    refine wpAny_passesOwn hE (wpAny_mono (turn i k c u v m₁ news₁ h tk' gens' own e1 e2 e3 e4 e5 e6 e7) (fun f s' z => ?_) fun _ _ z => z)
    cases f with
    | ret v => exact z
    | brk => exact z
    | next => exact z
    | cont => exact z
  · exact done
end
end Mine

end
noncomputable section
open PySem PySem.W PyProof.Rows PySem.Calls PySem.Spec Mine
namespace Mine
noncomputable abbrev RetGB (b : Bool) (h₀ : Heap) (L : Addr) (m : Str → Option Value) (news : List (Addr × Obj)) (s : Shared) (Q : Value → Shared → Prop) : Prop :=
  AllBare s.gens ∧ ∀ (h' : Heap) (tk' : Nat) (g' : Array GenState), AllBare g' → Fr h₀ L h' m → News h₀ L h' news → Q (.bool b) { s with heap := h', toks := tk', gens := g' }
noncomputable abbrev RetGS (x : Str) (h₀ : Heap) (L : Addr) (m : Str → Option Value) (news : List (Addr × Obj)) (s : Shared) (Q : Value → Shared → Prop) : Prop :=
  AllBare s.gens ∧ ∀ (t : Tok) (h' : Heap) (tk' : Nat) (g' : Array GenState), AllBare g' → Fr h₀ L h' m → News h₀ L h' news → Q (.str x t) { s with heap := h', toks := tk', gens := g' }
section
variable {w : World}
theorem my_join {prog : Program} {A : Around} {E : Value → Shared → Prop} {s : Shared} {x : Str} {t : Tok} {D : Addr} {al : List (Str × Tok)} {Q : Value → Shared → Prop} (hl : s.heap.IsList D (strValues al).toArray) (hx : x.length ≤ 4) (hn : al.length ≤ 4000) (hp : ∀ y ∈ al.map (·.1), y.length ≤ 4000)
    (h : ∀ t' k, Q (.str (Txt.join x (al.map (·.1))) t') { s with toks := k }) : wpAny (model prog w) A (call (.builtin "str.join") [.str x t, .ref D]) Q E s := by
  refine SC.join hl rfl (joinOk_of ?_) h
  have h2 := sums_le _ hp
  rw [List.length_map] at h2 ⊢
  exact Nat.le_trans (Nat.add_le_add (Nat.le_trans h2 (Nat.mul_le_mul_left 4000 hn)) (Nat.mul_le_mul hn hx)) (by decide)
theorem my_join2 {prog : Program} {A : Around} {E : Value → Shared → Prop} {s : Shared} {x y : Str} {t u : Tok} {D : Addr} {al : List (Str × Tok)} {Q : Value → Shared → Prop} (hl : s.heap.IsList D ((strValues al).toArray.push (Value.str y u))) (hx : x.length ≤ 4) (hn : al.length < 4000) (hp : ∀ y ∈ al.map (·.1), y.length ≤ 4000) (hy : y.length ≤ 4000)
    (h : ∀ t' k, Q (.str (Txt.join x (al.map (·.1) ++ [y])) t') { s with toks := k }) : wpAny (model prog w) A (call (.builtin "str.join") [.str x t, .ref D]) Q E s := by
  have e : (strValues al).toArray.push (Value.str y u) = (strValues (al ++ [(y, u)])).toArray := by simp [strValues]
  rw [e] at hl
  refine my_join hl hx (by simp; omega) (fun z hz => ?_) (by simpa using h)
  rw [List.map_append] at hz
  rcases List.mem_append.mp hz with hz | hz
  · exact hp z hz
  · rw [List.mem_singleton.mp hz]; exact hy
theorem led_ne {l : Addr} {o : Obj} {rest own : List (Addr × Obj)} (h1 : ∀ p ∈ rest, p.1 < l) (h2 : OwnOff own (((l, o) :: rest).map (·.1))) : ∀ q ∈ rest ++ own, q.1 ≠ l := fun q hq => by
  rcases List.mem_append.mp hq with hq | hq
  · exact Nat.ne_of_lt (h1 q hq)
  · exact h2 q hq l List.mem_cons_self
theorem news_sub {h₀ h : Heap} {L : Addr} {n n' : List (Addr × Obj)} (N : News h₀ L h n') (hs : ∀ p ∈ n, p ∈ n') : News h₀ L h n := fun p hp => N p (hs p hp)
theorem map1_self (m : Str → Option Value) (a : Str) : m = fun z => if z = a then m a else m z := by
  funext z
  by_cases h1 : z = a
  · rw [if_pos h1, h1]
  rw [if_neg h1]
theorem map1_ext {m mb : Str → Option Value} {a : Str} {va : Option Value} (h1 : m a = va) (h : ∀ z, z ≠ a → m z = mb z) :
    m = fun z => if z = a then va else mb z := by
  subst h1
  funext z
  by_cases h1 : z = a
  · rw [if_pos h1, h1]
  rw [if_neg h1]
  exact h z h1

theorem map2_self (m : Str → Option Value) (a b : Str) : m = fun z => if z = a then m a else if z = b then m b else m z := by
  funext z
  by_cases h1 : z = a
  · rw [if_pos h1, h1]
  by_cases h2 : z = b
  · rw [if_neg h1, if_pos h2, h2]
  rw [if_neg h1, if_neg h2]
theorem map3_self (m : Str → Option Value) (a b c : Str) : m = fun z => if z = a then m a else if z = b then m b else if z = c then m c else m z := by
  funext z
  by_cases h1 : z = a
  · rw [if_pos h1, h1]
  by_cases h2 : z = b
  · rw [if_neg h1, if_pos h2, h2]
  by_cases h3 : z = c
  · rw [if_neg h1, if_neg h2, if_pos h3, h3]
  rw [if_neg h1, if_neg h2, if_neg h3]
theorem map3_ext {m mb : Str → Option Value} {a b c : Str} {va vb vc : Option Value} (h1 : m a = va) (h2 : m b = vb) (h3 : m c = vc) (h : ∀ z, z ≠ a → z ≠ b → z ≠ c → m z = mb z) :
    m = fun z => if z = a then va else if z = b then vb else if z = c then vc else mb z := by
  subst h1 h2 h3
  funext z
  by_cases h1 : z = a
  · rw [if_pos h1, h1]
  by_cases h2 : z = b
  · rw [if_neg h1, if_pos h2, h2]
  by_cases h3 : z = c
  · rw [if_neg h1, if_neg h2, if_pos h3, h3]
  rw [if_neg h1, if_neg h2, if_neg h3]
  exact h z h1 h2 h3

theorem map4_self (m : Str → Option Value) (a b c d : Str) : m = fun z => if z = a then m a else if z = b then m b else if z = c then m c else if z = d then m d else m z := by
  funext z
  by_cases h1 : z = a
  · rw [if_pos h1, h1]
  by_cases h2 : z = b
  · rw [if_neg h1, if_pos h2, h2]
  by_cases h3 : z = c
  · rw [if_neg h1, if_neg h2, if_pos h3, h3]
  by_cases h4 : z = d
  · rw [if_neg h1, if_neg h2, if_neg h3, if_pos h4, h4]
  rw [if_neg h1, if_neg h2, if_neg h3, if_neg h4]
theorem map4_ext {m mb : Str → Option Value} {a b c d : Str} {va vb vc vd : Option Value} (h1 : m a = va) (h2 : m b = vb) (h3 : m c = vc) (h4 : m d = vd) (h : ∀ z, z ≠ a → z ≠ b → z ≠ c → z ≠ d → m z = mb z) :
    m = fun z => if z = a then va else if z = b then vb else if z = c then vc else if z = d then vd else mb z := by
  subst h1 h2 h3 h4
  funext z
  by_cases h1 : z = a
  · rw [if_pos h1, h1]
  by_cases h2 : z = b
  · rw [if_neg h1, if_pos h2, h2]
  by_cases h3 : z = c
  · rw [if_neg h1, if_neg h2, if_pos h3, h3]
  by_cases h4 : z = d
  · rw [if_neg h1, if_neg h2, if_neg h3, if_pos h4, h4]
  rw [if_neg h1, if_neg h2, if_neg h3, if_neg h4]
  exact h z h1 h2 h3 h4

end
end Mine

end
noncomputable section
open PySem PySem.W PyProof.Rows PySem.Calls PySem.Spec Mine
namespace Mine
noncomputable def EndK (Kp : List (Addr × Obj) → Prop) (G : Array GenState → Prop) (h₀ : Heap) (L : Addr) (J : (Str → Option Value) → List (Addr × Obj) → Prop) (own : List (Addr × Obj)) (s₁ s₂ : Shared) : Prop :=
  ∃ h' tk g' m' news' nx, s₂ = { s₁ with heap := h', toks := tk, gens := g' } ∧ G g' ∧ Fr h₀ L h' m' ∧ News h₀ L h' news' ∧ (∀ p ∈ nx, p ∈ news') ∧ (∀ p ∈ own, p ∈ news') ∧ Kp nx ∧ J m' nx
noncomputable abbrev PostK (Kp : List (Addr × Obj) → Prop) (G : Array GenState → Prop) (h₀ : Heap) (L : Addr) (J : (Str → Option Value) → List (Addr × Obj) → Prop) (own : List (Addr × Obj)) (s₁ : Shared) (Q : Flow → Shared → Prop) (f : Flow) (s₂ : Shared) : Prop :=
  match f with
  | .ret v => Q (.ret v) s₂
  | .brk => Q .next s₂
  | .next => EndK Kp G h₀ L J own s₁ s₂
  | .cont => EndK Kp G h₀ L J own s₁ s₂
noncomputable def EndG (G : Array GenState → Prop) (h₀ : Heap) (L : Addr) (J : (Str → Option Value) → List (Addr × Obj) → Prop) (own : List (Addr × Obj)) (adr : List Addr) (s₁ s₂ : Shared) : Prop :=
  EndK (fun nx => nx.map (·.1) = adr) G h₀ L J own s₁ s₂
noncomputable abbrev PostG (G : Array GenState → Prop) (h₀ : Heap) (L : Addr) (J : (Str → Option Value) → List (Addr × Obj) → Prop) (own : List (Addr × Obj)) (adr : List Addr) (s₁ : Shared) (Q : Flow → Shared → Prop) (f : Flow) (s₂ : Shared) : Prop :=
  match f with
  | .ret v => Q (.ret v) s₂
  | .brk => Q .next s₂
  | .next => EndG G h₀ L J own adr s₁ s₂
  | .cont => EndG G h₀ L J own adr s₁ s₂
theorem EndG.intro {G : Array GenState → Prop} {h₀ : Heap} {L : Addr} {J : (Str → Option Value) → List (Addr × Obj) → Prop} {m' : Str → Option Value} {own news' nx : List (Addr × Obj)} {adr : List Addr} {s₁ : Shared} {h' : Heap} {tk : Nat} {g' : Array GenState} (hAB : G g') (F : Fr h₀ L h' m') (N : News h₀ L h' news')
    (hj : J m' nx) (ha : nx.map (·.1) = adr) (hn : ∀ p ∈ nx, p ∈ news') (ho : ∀ p ∈ own, p ∈ news') : EndG G h₀ L J own adr s₁ { s₁ with heap := h', toks := tk, gens := g' } := ⟨h', tk, g', m', news', nx, rfl, hAB, F, N, hn, ho, ha, hj⟩
theorem fr_next {h₀ h h₁ : Heap} {L : Addr} {wr : List Addr} {m : Str → Option Value} {nw : List (Addr × Obj)} (hLw : L ∉ wr) (hwr : ∀ b ∈ wr, h₀.get? b = none) (hnw : ∀ q ∈ nw, q.1 ∉ wr) (F : Fr h₀ L h m) (N : News h₀ L h nw) (hk : ∀ b o, b ∉ wr → h.get? b = some o → h₁.get? b = some o) : Fr h₀ L h₁ m ∧ News h₀ L h₁ nw :=
  ⟨⟨F.ns.at' fun o e => hk _ o hLw e, fun b o e => hk b o (fun hb => by rw [hwr b hb] at e; cases e) (F.keep b o e), F.above⟩, fun p hp => ⟨hk _ _ (hnw p hp) (N p hp).1, (N p hp).2⟩⟩
section
variable {prog : Program} {w : World} {A : Around} {E : Value → Shared → Prop} {s : Shared} {h₀ : Heap} {Q : Flow → Shared → Prop}
noncomputable def Steps (prog : Program) (w : World) (A : Around) (h₀ : Heap) (env : Env) (target : PySem.Expr) {V : Type} (upd : V → (Str → Option Value) → Str → Option Value) (I : Addr) (wr : List Addr) (n : Nat) (P : Nat → V → Prop) (St : Nat → Heap → Prop) : Prop :=
  ∀ (i : Nat) (s : Shared) (m : Str → Option Value) (nw : List (Addr × Obj)) (K : Shared → Prop) (E : Value → Shared → Prop) (R : Option Value → Shared → Prop), i < n → St i s.heap → (∀ q ∈ nw, q.1 ∉ wr) → Fr h₀ env.locals s.heap m → News h₀ env.locals s.heap nw →
    (∀ v s₁, wpAny (model prog w) A (letOwnedTupleGo target (.ref I) v) (fun _ s₁' => wpAny (model prog w) A (assign target env v) (fun _ s₂ => K s₂) E s₁') E s₁ → R (some v) s₁) →
    (∀ v h tk, P i v → St (i + 1) h → Fr h₀ env.locals h (upd v m) → News h₀ env.locals h nw → K { s with heap := h, toks := tk }) →
    wpAny (model prog w) A (pyNext (.ref I)) R E s
theorem forLoop_K {G : Array GenState → Prop} {env : Env} {target : PySem.Expr} {body : List Stmt} {m₀ : Str → Option Value} {keep : List (Addr × Obj)} {V : Type} {upd : V → (Str → Option Value) → Str → Option Value} {n : Nat} {P : Nat → V → Prop}
    {I : Addr} {fp wr : List Addr} {St : Nat → Heap → Prop} {h0 : Heap} {tk0 : Nat} (J : Nat → (Str → Option Value) → List (Addr × Obj) → Prop) (Kp Ow : List (Addr × Obj) → Prop)
    (hfr : ∀ i h h', St i h → (∀ b ∈ fp, ∀ o, h.get? b = some o → h'.get? b = some o) → St i h')
    (hstep : Steps prog w A h₀ env target upd I wr n P St)
    (hfin : ∀ (s : Shared) (Q : Option Value → Shared → Prop) (E : Value → Shared → Prop), St n s.heap → (∀ h' tk, (∀ b o, b ∉ wr → s.heap.get? b = some o → h'.get? b = some o) → Q none { s with heap := h', toks := tk }) → wpAny (model prog w) A (pyNext (.ref I)) Q E s)
    (hLf : env.locals ∉ fp) (hwr : ∀ b ∈ wr, b ∈ fp ∧ h₀.get? b = none) (hOw : ∀ i h, St i h → Ow (ownOf h₀ fp h)) (hKp : ∀ nw, Kp nw → ∀ q ∈ nw, q.1 ∉ wr) (hk0 : Kp keep) (hst : St 0 h0) (F : Fr h₀ env.locals h0 m₀) (N : News h₀ env.locals h0 keep)
    (hj : J 0 m₀ keep) (hAB : G s.gens)
    (turn : ∀ i v m₁ news₁ h tk g own, i < n → P i v → Ow own → Kp news₁ → J i m₁ news₁ → G g → Fr h₀ env.locals h (upd v m₁) → News h₀ env.locals h (news₁ ++ own) →
      wpAny (model prog w) A (execs body env) (PostK Kp G h₀ env.locals (J (i + 1)) own { s with heap := h, toks := tk, gens := g } Q) E { s with heap := h, toks := tk, gens := g })
    (done : ∀ m₁ news₁ h tk g, Kp news₁ → J n m₁ news₁ → G g → Fr h₀ env.locals h m₁ → News h₀ env.locals h news₁ → Q .next { s with heap := h, toks := tk, gens := g })
    (hE : PassesOwn (model prog w) A env E) :
    codeAny (model prog w) A (.forLoop target (.ref I) body [] env) (fun r s' => match r with | .ok f => Q f s' | .error e => cameBackBy (model prog w) A env E e s') { s with heap := h0, toks := tk0 } := by
  have hLw : env.locals ∉ wr := fun h => hLf (hwr _ h).1
  obtain ⟨Inv, hInv⟩ : ∃ Inv : Nat → Shared → Prop, ∀ k s', Inv k s' ↔ (∃ h' tk g m' nw i, s' = { s with heap := h', toks := tk, gens := g } ∧ St i h' ∧ Fr h₀ env.locals h' m' ∧ News h₀ env.locals h' nw ∧ Kp nw ∧ G g ∧ J i m' nw ∧ i ≤ n ∧ k = n + 1 - i) := ⟨_, fun _ _ => Iff.rfl⟩
  refine codeAny_forLoop_any Inv ?_ (n + 1) ((hInv _ _).mpr ⟨h0, tk0, s.gens, m₀, keep, 0, rfl, hst, F, N, hk0, hAB, hj, Nat.zero_le _, rfl⟩)
  intro k s' hI0
  replace hI0 := (hInv _ _).mp hI0
  refine pvar fun G9 hG9 => ?_
  obtain ⟨h', tk, g, m', nw, i, rfl, hst', F', N', hK', hG', hJ, hi, rfl⟩ := hI0
  refine hG9 ?_
  by_cases hlt : i < n
  · refine hstep i _ m' nw _ _ _ hlt hst' (hKp _ hK') F' N' (fun v s₁ hv => hv) fun v h₁ tk₁ hP hst₁ F₁ N₁ => ?_
    refine wpAny_passesOwn hE (wpAny_mono (turn i v m' nw h₁ tk₁ g (ownOf h₀ fp h₁) hlt hP (hOw _ _ hst₁) hK' hJ hG' F₁ (N₁.append (news_ownOf hLf))) (fun f s₃ pf => ?_) fun _ _ e => e)
    have fin : ∀ {s₃ : Shared}, EndK Kp G h₀ env.locals (J (i + 1)) (ownOf h₀ fp h₁) { s with heap := h₁, toks := tk₁, gens := g } s₃ → ∃ m, m < n + 1 - i ∧ Inv m s₃ := by
      rintro s₃ ⟨h₃, tk₃, g₃, m₃, news₃, nx, rfl, hG₃, F₃, N₃, hn, ho, hK₃, hJ₃⟩
      refine ⟨n + 1 - (i + 1), meas_lt hlt, (hInv _ _).mpr ⟨h₃, tk₃, g₃, m₃, nx, i + 1, rfl, ?_, F₃, fun q hq => N₃ q (hn q hq), hK₃, hG₃, hJ₃, hlt, rfl⟩⟩
      refine hfr _ _ _ hst₁ fun b hb o e => ?_
      cases hq : h₀.get? b with
      | some o₀ => exact Option.some.inj ((F₁.keep b o₀ hq).symm.trans e) ▸ F₃.keep b o₀ hq
      | none => exact (N₃ _ (ho _ (mem_ownOf hb hq e))).1
    cases f with
    | ret v => exact pf
    | brk => exact pf
    | next => exact fin pf
    | cont => exact fin pf
  · have hin : i = n := Nat.le_antisymm hi (Nat.not_lt.mp hlt)
    subst hin
    refine hfin _ _ _ hst' fun h₁ tk₁ hk₁ => wpAny_execs_nil ?_
    obtain ⟨F₁, N₁⟩ := fr_next hLw (fun b hb => (hwr b hb).2) (hKp _ hK') F' N' hk₁
    exact done m' nw h₁ tk₁ g hK' hJ hG' F₁ N₁
theorem steps_name {env : Env} {x : Str} {px : Pos} {I : Addr} {fp wr : List Addr} {n : Nat} {P : Nat → Value → Prop} {St : Nat → Heap → Prop} (W : Walks prog w A I fp wr n P St) (hLf : env.locals ∉ fp) (hwr : ∀ b ∈ wr, h₀.get? b = none) (hx : env.kindOf x = some .local) (hp : (env.scope.kind == .class || (env.scope.kind == .module && env.locals != env.globals)) = false) :
    Steps prog w A h₀ env (.Name x px) (fun v m z => if z = x then some v else m z) I wr n P St := by
  intro i s m nw K E R hlt hst hnw F N hR hK
  refine W.item i _ _ _ hlt hst fun v h₁ tk₁ hP hst₁ hk₁ => hR v _ (wpAny_pure ?_)
  obtain ⟨F₁, N₁⟩ := fr_next (fun h => hLf (W.sub _ h)) hwr hnw F N hk₁
  refine wpAny_assign_Name (wpAny_storeName_local hx F₁.ns (fun h₂ hn₂ hs₂ => ?_) hp)
  replace hs₂ : Heap.SameBut env.locals h₁ h₂ := hs₂
  exact hK v h₂ _ hP (W.frame _ _ _ hst₁ fun b hb o e => (hs₂.2 b fun q => hLf (q ▸ hb)).trans e) (F₁.set hn₂ hs₂) (N₁.set hs₂)
structure LoopG (prog : Program) (w : World) (A : Around) (h₀ : Heap) (L : Addr) (I : Addr) (fp wr : List Addr) (n : Nat) (P : Nat → Value → Prop) (St : Nat → Heap → Prop) (m₀ : Str → Option Value) (keep : List (Addr × Obj)) (chg : List Addr) (s : Shared) : Prop where
  W : Walks prog w A I fp wr n P St
  off : L ∉ fp
  new : ∀ b ∈ wr, h₀.get? b = none
  koff : ∀ q ∈ keep, q.1 ∉ wr
  coff : ∀ b ∈ chg, b ∉ fp
  st : St 0 s.heap
  F : Fr h₀ L s.heap m₀
  N : News h₀ L s.heap keep
theorem own_off {fp : List Addr} {h : Heap} {chg : List Addr} (hc : ∀ b ∈ chg, b ∉ fp) : OwnOff (ownOf h₀ fp h) chg := fun q hq b hb e => hc b hb (e ▸ ownOf_sub q hq)
theorem For_G {name : Str} {scope : Scope} {L a : Addr} {cd : Value} {G : Array GenState → Prop} {x : Str} {px pos : Pos} {iter : PySem.Expr} {body : List Stmt} {m₀ : Str → Option Value} {keep : List (Addr × Obj)} {chg : List Addr} (n : Nat) (P : Nat → Value → Prop)
    (J : Nat → (Str → Option Value) → List (Addr × Obj) → Prop)
    (h : wpAny (model prog w) A (eval iter (envOf name scope L a cd)) (fun xv s₁ => wpAny (model prog w) A (pyIter xv) (fun it s₂ => ∃ I fp wr St, it = .ref I ∧ LoopG prog w A h₀ L I fp wr n P St m₀ keep chg s₂ ∧ ∃ h tk, s₂ = { s with heap := h, toks := tk }) E s₁) E s)
    (hj : J 0 m₀ keep) (hAB : G s.gens) (hx : scope.names.lookup x = some .local) (hks : scope.kind = .function)
    (turn : ∀ i v m₁ news₁ h tk g own, i < n → P i v → OwnOff own chg → J i m₁ news₁ → news₁.map (·.1) = keep.map (·.1) → G g → Fr h₀ L h (fun z => if z = x then some v else m₁ z) → News h₀ L h (news₁ ++ own) →
      wpAny (model prog w) A (execs body (envOf name scope L a cd)) (PostG G h₀ L (J (i + 1)) own (keep.map (·.1)) { s with heap := h, toks := tk, gens := g } Q) E { s with heap := h, toks := tk, gens := g })
    (done : ∀ m₁ news₁ h tk g, J n m₁ news₁ → news₁.map (·.1) = keep.map (·.1) → G g → Fr h₀ L h m₁ → News h₀ L h news₁ → Q .next { s with heap := h, toks := tk, gens := g })
    (hs : ∀ x, foldedSetIterable iter (envOf name scope L a cd) x = pure x) (hE : PassesOwn (model prog w) A (envOf name scope L a cd) E) :
    wpAny (model prog w) A (exec (.For (.Name x px) iter body [] pos) (envOf name scope L a cd)) Q E s := by
  refine wpAny_For (wpAny_mono h (fun xv s₁ h₁ => wpAny_mono h₁ (fun it s₂ h₂ => ?_) fun _ _ e => e) fun _ _ e => e) hs
  obtain ⟨I, fp, wr, St, rfl, X, h₂, tk₂, rfl⟩ := h₂
  refine forLoop_K J (fun nx => nx.map (·.1) = keep.map (·.1)) (fun own => OwnOff own chg) X.W.frame (steps_name X.W X.off X.new hx (by show (scope.kind == .class || (scope.kind == .module && L != mainGlobals)) = false; rw [hks]; rfl)) X.W.done X.off (fun b hb => ⟨X.W.sub b hb, X.new b hb⟩) (fun _ _ _ => own_off X.coff) (fun nw ha q hq => ?_) rfl X.st X.F X.N hj hAB
    (fun i v m₁ news₁ h tk g own e1 e2 e3 e4 e5 e6 e7 e8 => wpAny_mono (turn i v m₁ news₁ h tk g own e1 e2 e3 e5 e4 e6 e7 e8) (fun f s' z => by cases f <;> exact z) fun _ _ z => z) (fun m₁ news₁ h tk g e1 e2 e3 e4 e5 => done m₁ news₁ h tk g e2 e1 e3 e4 e5) hE
  have : q.1 ∈ keep.map (·.1) := ha ▸ List.mem_map.mpr ⟨q, hq, rfl⟩
  obtain ⟨r, hr, e⟩ := List.mem_map.mp this
  exact e ▸ X.koff r hr
end
end Mine

end
noncomputable section
open PySem PySem.W PyProof.Rows PySem.Calls PySem.Spec Mine
namespace Mine
section
variable {prog : Program} {w : World} {A : Around} {E : Value → Shared → Prop} {s : Shared} {h₀ : Heap} {name : Str} {scope : Scope} {L a : Addr} {cd : Value} {m₀ : Str → Option Value} {news keep : List (Addr × Obj)} {chg : List Addr}
theorem loopG_push {o : Obj} {fp0 : List Addr} {n : Nat} {P : Nat → Value → Prop} {St : Nat → Heap → Prop} (W : Walks prog w A s.heap.objs.size (s.heap.objs.size :: fp0) [s.heap.objs.size] n P St) (F : Fr h₀ L s.heap m₀) (N : News h₀ L s.heap news) (hk : ∀ q ∈ keep, q ∈ news)
    (hfp : ∀ b ∈ fp0, b ≠ L) (hc : ∀ b ∈ chg, b ∉ fp0) (hcs : ∀ b ∈ chg, b < s.heap.objs.size) (hst : St 0 (s.heap.push o)) :
    LoopG prog w A h₀ L s.heap.objs.size (s.heap.objs.size :: fp0) [s.heap.objs.size] n P St m₀ keep chg { s with heap := s.heap.push o } where
  W := W
  off := fun h => by
    rcases List.mem_cons.mp h with e | h
    · exact absurd F.ns.lt (e ▸ Nat.lt_irrefl _)
    · exact hfp L h rfl
  new := fun b hb => by
    rw [List.mem_singleton.mp hb]
    exact next_is_new F
  koff := fun q hq h => by
    exact absurd (Heap.lt_size (N q (hk q hq)).1) ((List.mem_singleton.mp h) ▸ Nat.lt_irrefl _)
  coff := fun b hb h => by
    rcases List.mem_cons.mp h with e | h
    · exact absurd (hcs b hb) (e ▸ Nat.lt_irrefl _)
    · exact hc b hb h
  st := hst
  F := F.push _
  N := fun q hq => ⟨Heap.get?_push_of_some _ (N q (hk q hq)).1, (N q (hk q hq)).2⟩
theorem chg_lt (N : News h₀ L s.heap news) (h : ∀ b ∈ chg, ∃ o, (b, o) ∈ news) : ∀ b ∈ chg, b < s.heap.objs.size := fun b hb => by
  obtain ⟨o, ho⟩ := h b hb
  exact Heap.lt_size (N _ ho).1
theorem src_tup {D : Addr} {items : Array Value} (hh : A.handled = none) (F : Fr h₀ L s.heap m₀) (N : News h₀ L s.heap news) (hD : s.heap.IsTuple D items) (hk : ∀ q ∈ keep, q ∈ news) (hc : ∀ b ∈ chg, b ≠ D) (hcn : ∀ b ∈ chg, ∃ o, (b, o) ∈ news) (hDL : D ≠ L) :
    wpAny (model prog w) A (pyIter (.ref D)) (fun it s₂ => ∃ I fp wr St, it = .ref I ∧ LoopG prog w A h₀ L I fp wr items.size (fun i v => items[i]? = some v) St m₀ keep chg s₂ ∧ ∃ h tk, s₂ = { s with heap := h, toks := tk }) E s := by
  obtain ⟨o, ho, _⟩ := id hD
  have hne : D ≠ s.heap.objs.size := Nat.ne_of_lt (Heap.lt_size ho)
  refine wpAny_pyIter_tuple hD ⟨_, _, _, _, rfl, loopG_push (Walks.tuple (prog := prog) (w := w) hh s.heap.objs.size D hne items) F N hk (fun b hb => by rw [List.mem_singleton.mp hb]; exact hDL)
    (fun b hb h => hc b hb (List.mem_singleton.mp h)) (chg_lt N hcn) ⟨⟨_, Heap.get?_push_size _ rfl, rfl, rfl⟩, hD.at fun o e => Heap.get?_push_of_some _ e⟩, _, s.toks, rfl⟩
theorem src_list {D : Addr} {items : Array Value} (hh : A.handled = none) (F : Fr h₀ L s.heap m₀) (N : News h₀ L s.heap news) (hD : s.heap.IsList D items) (hk : ∀ q ∈ keep, q ∈ news) (hc : ∀ b ∈ chg, b ≠ D) (hcn : ∀ b ∈ chg, ∃ o, (b, o) ∈ news) (hDL : D ≠ L) :
    wpAny (model prog w) A (pyIter (.ref D)) (fun it s₂ => ∃ I fp wr St, it = .ref I ∧ LoopG prog w A h₀ L I fp wr items.size (fun i v => items[i]? = some v) St m₀ keep chg s₂ ∧ ∃ h tk, s₂ = { s with heap := h, toks := tk }) E s := by
  obtain ⟨o, ho, _⟩ := id hD
  have hne : D ≠ s.heap.objs.size := Nat.ne_of_lt (Heap.lt_size ho)
  refine wpAny_pyIter_list hD ⟨_, _, _, _, rfl, loopG_push (Walks.list (prog := prog) (w := w) hh s.heap.objs.size D hne items) F N hk (fun b hb => by rw [List.mem_singleton.mp hb]; exact hDL)
    (fun b hb h => hc b hb (List.mem_singleton.mp h)) (chg_lt N hcn) ⟨⟨_, Heap.get?_push_size _ rfl, rfl, rfl⟩, hD.at fun o e => Heap.get?_push_of_some _ e⟩, _, s.toks, rfl⟩
theorem src_str {x : Str} {t : Tok} (hh : A.handled = none) (F : Fr h₀ L s.heap m₀) (N : News h₀ L s.heap news) (hk : ∀ q ∈ keep, q ∈ news) (hcn : ∀ b ∈ chg, ∃ o, (b, o) ∈ news) :
    wpAny (model prog w) A (pyIter (.str x t)) (fun it s₂ => ∃ I fp wr St, it = .ref I ∧ LoopG prog w A h₀ L I fp wr x.cps.size (SignAt x) St m₀ keep chg s₂ ∧ ∃ h tk, s₂ = { s with heap := h, toks := tk }) E s := by
  refine wpAny_pyIter_str fun o St W st => ?_
  exact ⟨_, _, _, _, rfl, loopG_push (fp0 := []) (W A hh) F N hk (fun b hb => absurd hb (by simp)) (fun q hq h => absurd h (by simp)) (chg_lt N hcn) st, _, s.toks, rfl⟩
theorem For_tup1 {G : Array GenState → Prop} {x y : Str} {px py pos : Pos} {body : List Stmt} {D : Addr} {v : Value} {Q : Flow → Shared → Prop} (P : (Str → Option Value) → Prop) (hh : A.handled = none) (F : Fr h₀ L s.heap m₀) (N : News h₀ L s.heap news) (hD : (D, ({ cls := .type "tuple", data := .seq #[v] } : Obj)) ∈ news) (hm : m₀ y = some (.ref D))
    (hk : ∀ q ∈ keep, q ∈ news) (hAB : G s.gens) (hx : scope.names.lookup x = some .local) (hy : scope.names.lookup y = some .local) (hks : scope.kind = .function) (hd : (y == ("__debug__" : Str)) = false)
    (turn : ∀ h tk g own, G g → Fr h₀ L h (fun z => if z = x then some v else m₀ z) → News h₀ L h (keep ++ own) →
      wpAny (model prog w) A (execs body (envOf name scope L a cd)) (PostG G h₀ L (fun m nx => P m ∧ nx = keep) own (keep.map (·.1)) { s with heap := h, toks := tk, gens := g } Q) E { s with heap := h, toks := tk, gens := g })
    (done : ∀ m₁ h tk g, P m₁ → G g → Fr h₀ L h m₁ → News h₀ L h keep → Q .next { s with heap := h, toks := tk, gens := g })
    (hE : PassesOwn (model prog w) A (envOf name scope L a cd) E) :
    wpAny (model prog w) A (exec (.For (.Name x px) (.Name y py) body [] pos) (envOf name scope L a cd)) Q E s := by
  refine For_G (G := G) (h₀ := h₀) (m₀ := m₀) (keep := keep) (chg := []) 1 (fun i w => #[v][i]? = some w) (fun i m nx => (if i = 0 then m = m₀ else P m) ∧ nx = keep) ?_ ⟨rfl, rfl⟩ hAB hx hks ?_ ?_ (by intro _; rfl) hE
  · refine gld hks hy F.ns hm ?_ hd
    exact src_tup hh F N ⟨_, (N _ hD).1, rfl, 0, rfl⟩ hk (fun b hb => absurd hb (by simp)) (fun b hb => absurd hb (by simp)) (N _ hD).2.1
  · rintro i v' m₁ nx h tk g own hi hv ho ⟨hJ, rfl⟩ _ hAB' F' N'
    have h0 : i = 0 := by omega
    subst h0
    obtain rfl : m₁ = m₀ := hJ
    obtain rfl : v = v' := by simpa using hv
    exact turn h tk g own hAB' F' N'
  · rintro m₁ nx h tk g ⟨hJ, rfl⟩ _ hAB' F' N'
    exact done m₁ h tk g hJ hAB' F' N'
theorem fr1 {h : Heap} {m : Str → Option Value} {a : Str} {va : Option Value} (F : Fr h₀ L h m) (h1 : m a = va) : Fr h₀ L h (fun z => if z = a then va else m z) := by
  subst h1
  rw [← map1_self m a]
  exact F
theorem fr2 {h : Heap} {m : Str → Option Value} {a b : Str} {va vb : Option Value} (F : Fr h₀ L h m) (h1 : m a = va) (h2 : m b = vb) : Fr h₀ L h (fun z => if z = a then va else if z = b then vb else m z) := by
  subst h1 h2
  rw [← map2_self m a b]
  exact F
theorem For_list {G : Array GenState → Prop} {x y : Str} {px py pos : Pos} {body : List Stmt} {D : Addr} {items : Array Value} {Q : Flow → Shared → Prop} (J : Nat → (Str → Option Value) → List (Addr × Obj) → Prop) (hh : A.handled = none) (F : Fr h₀ L s.heap m₀) (N : News h₀ L s.heap news) (hD : s.heap.IsList D items) (hDL : D ≠ L) (hm : m₀ y = some (.ref D))
    (chg : List Addr) (hk : ∀ q ∈ keep, q ∈ news) (hc : ∀ b ∈ chg, b ≠ D) (hcn : ∀ b ∈ chg, ∃ o, (b, o) ∈ news) (hj : J 0 m₀ keep) (hAB : G s.gens) (hx : scope.names.lookup x = some .local) (hy : scope.names.lookup y = some .local) (hks : scope.kind = .function) (hd : (y == ("__debug__" : Str)) = false)
    (turn : ∀ i v m₁ news₁ h tk g own, items[i]? = some v → OwnOff own chg → J i m₁ news₁ → news₁.map (·.1) = keep.map (·.1) → G g → Fr h₀ L h (fun z => if z = x then some v else m₁ z) → News h₀ L h (news₁ ++ own) →
      wpAny (model prog w) A (execs body (envOf name scope L a cd)) (PostG G h₀ L (J (i + 1)) own (keep.map (·.1)) { s with heap := h, toks := tk, gens := g } Q) E { s with heap := h, toks := tk, gens := g })
    (done : ∀ m₁ news₁ h tk g, J items.size m₁ news₁ → news₁.map (·.1) = keep.map (·.1) → G g → Fr h₀ L h m₁ → News h₀ L h news₁ → Q .next { s with heap := h, toks := tk, gens := g })
    (hE : PassesOwn (model prog w) A (envOf name scope L a cd) E) :
    wpAny (model prog w) A (exec (.For (.Name x px) (.Name y py) body [] pos) (envOf name scope L a cd)) Q E s := by
  refine For_G (G := G) (h₀ := h₀) (m₀ := m₀) (keep := keep) (chg := chg) items.size (fun i w => items[i]? = some w) J ?_ hj hAB hx hks ?_ done (by intro _; rfl) hE
  · exact gld hks hy F.ns hm (src_list hh F N hD hk hc hcn hDL) hd
  · intro i v m₁ news₁ h tk g own _ e2 e3 e4 e5 e6 e7 e8
    exact turn i v m₁ news₁ h tk g own e2 e3 e4 e5 e6 e7 e8
theorem strV_at {lst : List (Str × Tok)} {i : Nat} {v : Value} (h : (strValues lst).toArray[i]? = some v) : ∃ x t, (lst.map (·.1))[i]? = some x ∧ v = .str x t := by
  have h' : (strValues lst)[i]? = some v := by simpa using h
  simp only [strValues, List.getElem?_map, Option.map_eq_some_iff] at h'
  obtain ⟨⟨x, t⟩, hg, rfl⟩ := h'
  exact ⟨x, t, by simp [hg], rfl⟩
theorem allLt_mem {d : Addr} : ∀ {l : List (Addr × Obj)}, AllLt d l → ∀ p ∈ l, p.1 < d
  | [], _, _, h => absurd h (by simp)
  | q :: r, h, p, hp => by
    rcases List.mem_cons.mp hp with rfl | hp
    · exact h.1
    · exact allLt_mem h.2 p hp
theorem isLst_of {h : Heap} {D : Addr} {xs : Array Value} (N : News h₀ L h news) (hm : (D, ({ cls := .type "list", data := .seq xs } : Obj)) ∈ news) : h.IsList D xs := ⟨_, (N _ hm).1, rfl, _, rfl⟩
theorem led_ne2 {l : Addr} {rest own : List (Addr × Obj)} (h1 : ∀ p ∈ rest, p.1 < l) (h2 : OwnOff own [l]) : ∀ q ∈ rest ++ own, q.1 ≠ l := fun q hq => by
  rcases List.mem_append.mp hq with hq | hq
  · exact Nat.ne_of_lt (h1 q hq)
  · exact h2 q hq l List.mem_cons_self
theorem chg1 {l : Addr} {P : Addr → Prop} (h : P l) : ∀ b ∈ [l], P b := fun b hb => by rw [List.mem_singleton.mp hb]; exact h
theorem chg0 {P : Addr → Prop} : ∀ b ∈ ([] : List Addr), P b := fun b hb => absurd hb (by simp)
theorem join_small {sep : Str} {l : List Str} (hp : ∀ y ∈ l, y.length ≤ 4000) (hn : l.length ≤ 1000) (hs : sep.length ≤ 4) : (Txt.join sep l).length ≤ 4004000 := by
  have h0 : (Txt.join sep l).length ≤ (l.map (·.length)).sum + l.length * sep.length := by
    show (Builtin.Str.glued sep l).length ≤ _
    rw [StrLaws.glued_eq_join]
    exact StrLaws.join_length_le sep l
  exact Nat.le_trans h0 (Nat.add_le_add (Nat.le_trans (sums_le _ hp) (Nat.mul_le_mul_left 4000 hn)) (Nat.mul_le_mul hn hs))
theorem EndG.mk1 {G : Array GenState → Prop} {J : (Str → Option Value) → List (Addr × Obj) → Prop} {m' : Str → Option Value} {own rest : List (Addr × Obj)} {x : Addr × Obj} {adr : List Addr} {s₁ : Shared} {h' : Heap} {tk : Nat} {g' : Array GenState} (F : Fr h₀ L h' m') (N : News h₀ L h' (x :: (rest ++ own))) (hj : J m' (x :: rest))
    (hAB : G g') (ha : (x :: rest).map (·.1) = adr) : EndG G h₀ L J own adr s₁ { s₁ with heap := h', toks := tk, gens := g' } :=
  EndG.intro hAB F N hj ha (fun p hp => by rw [← List.cons_append]; exact List.mem_append_left _ hp) fun p hp => List.mem_cons_of_mem _ (List.mem_append_right _ hp)
end
end Mine

end
noncomputable section
open PySem PySem.W PyProof.Rows PySem.Calls PySem.Spec Mine
namespace Mine
noncomputable def EndW (G : Array GenState → Prop) (h₀ : Heap) (L : Addr) (J : (Str → Option Value) → List (Addr × Obj) → Prop) (s₁ s₂ : Shared) : Prop :=
  ∃ h' tk g' m' nx, s₂ = { s₁ with heap := h', toks := tk, gens := g' } ∧ G g' ∧ Fr h₀ L h' m' ∧ News h₀ L h' nx ∧ J m' nx
noncomputable abbrev PostW (G : Array GenState → Prop) (h₀ : Heap) (L : Addr) (J : (Str → Option Value) → List (Addr × Obj) → Prop) (s₁ : Shared) (Q : Flow → Shared → Prop) (f : Flow) (s₂ : Shared) : Prop :=
  match f with
  | .ret v => Q (.ret v) s₂
  | .brk => Q .next s₂
  | .next => EndW G h₀ L J s₁ s₂
  | .cont => EndW G h₀ L J s₁ s₂
noncomputable def Halt (P : Prop) : Prop := P
theorem halt_at {P : Prop} (h : Halt P) : P := h
theorem Halt.go {P : Prop} (h : P) : Halt P := h
section
variable {prog : Program} {w : World} {A : Around} {E : Value → Shared → Prop} {s : Shared} {h₀ : Heap} {name : Str} {scope : Scope} {L a : Addr} {cd : Value} {m₀ : Str → Option Value} {news : List (Addr × Obj)}
theorem EndW.mk {G : Array GenState → Prop} {J : (Str → Option Value) → List (Addr × Obj) → Prop} {m' : Str → Option Value} {nx : List (Addr × Obj)} {s₁ : Shared} {h' : Heap} {tk : Nat} {g' : Array GenState} (F : Fr h₀ L h' m') (N : News h₀ L h' nx) (hj : J m' nx) (hg : G g') :
    EndW G h₀ L J s₁ { s₁ with heap := h', toks := tk, gens := g' } := ⟨h', tk, g', m', nx, rfl, hg, F, N, hj⟩
theorem While_G {G : Array GenState → Prop} {test : PySem.Expr} {body : List Stmt} {pos : Pos} {Q : Flow → Shared → Prop} (J : Nat → (Str → Option Value) → List (Addr × Obj) → Prop) (n₀ : Nat) (F : Fr h₀ L s.heap m₀) (N : News h₀ L s.heap news) (hj : J n₀ m₀ news) (hG : G s.gens)
    (turn : ∀ n m₁ nx h tk g, J n m₁ nx → G g → Fr h₀ L h m₁ → News h₀ L h nx →
      wpAny (model prog w) A (isTrue test (envOf name scope L a cd) (eval test (envOf name scope L a cd))) (fun b s₂ => if b = true then wpAny (model prog w) A (execs body (envOf name scope L a cd)) (PostW G h₀ L (fun m nx => ∃ k, k < n ∧ J k m nx) s Q) E s₂ else Q .next s₂) E
        { s with heap := h, toks := tk, gens := g })
    (hE : PassesOwn (model prog w) A (envOf name scope L a cd) E) :
    wpAny (model prog w) A (exec (.While test body [] pos) (envOf name scope L a cd)) Q E s := by
  refine wpAny_While ?_
  refine codeAny_whileLoop (fun n s' => ∃ m h tk g m₁ nx, m ≤ n ∧ s' = { s with heap := h, toks := tk, gens := g } ∧ J m m₁ nx ∧ G g ∧ Fr h₀ L h m₁ ∧ News h₀ L h nx) ?_ n₀ ⟨n₀, s.heap, s.toks, s.gens, m₀, news, Nat.le_refl _, rfl, hj, hG, F, N⟩
  rintro n s' ⟨m, h, tk, g, m₁, nx, hm, rfl, hJ, hg, F', N'⟩
  refine wpAny_passesOwn hE (wpAny_mono (turn m m₁ nx h tk g hJ hg F' N') (fun b s₂ h₂ => ?_) fun _ _ z => z)
  cases b with
  | false => exact wpAny_execs_nil h₂
  | true =>
    refine wpAny_passesOwn hE (wpAny_mono (show wpAny _ _ _ _ _ _ from h₂) (fun f s₃ pf => ?_) fun _ _ z => z)
    have fin : ∀ {s₃ : Shared}, EndW G h₀ L (fun m' nx => ∃ k, k < m ∧ J k m' nx) s s₃ → ∃ k, k < n ∧ ∃ m h tk g m₁ nx, m ≤ k ∧ s₃ = { s with heap := h, toks := tk, gens := g } ∧ J m m₁ nx ∧ G g ∧ Fr h₀ L h m₁ ∧ News h₀ L h nx := by
      rintro s₃ ⟨h₃, tk₃, g₃, m₃, nx₃, rfl, hg₃, F₃, N₃, k, hk, hJ₃⟩
      exact ⟨k, Nat.lt_of_lt_of_le hk hm, k, h₃, tk₃, g₃, m₃, nx₃, Nat.le_refl _, rfl, hJ₃, hg₃, F₃, N₃⟩
    cases f with
    | ret v => exact pf
    | brk => exact pf
    | next => exact fin pf
    | cont => exact fin pf
end
end Mine

end
noncomputable section
open PySem PySem.W PyProof.Rows PySem.Calls PySem.Spec Mine
namespace Mine
section
variable {prog : Program} {w : World} {A : Around} {E : Value → Shared → Prop} {s : Shared} {h₀ : Heap} {L : Addr} {m : Str → Option Value} {news : List (Addr × Obj)} {env : Env}
noncomputable def PairSrc (prog : Program) (w : World) (A : Around) (h₀ : Heap) (L : Addr) (m : Str → Option Value) (news : List (Addr × Obj)) (n : Nat) (P2 : Nat → Value → Value → Prop) (s : Shared) (it : Value) (s₂ : Shared) : Prop :=
  ∃ (I : Addr) (fp wr : List Addr) (Pt : Nat → Array Value → Prop) (St : Nat → Heap → Prop) (Mid : Nat → Addr → Heap → Prop), it = .ref I ∧ WalksT prog w A I fp wr n Pt St Mid ∧ (∀ i vals, Pt i vals → ∃ v0 v1, vals = #[v0, v1] ∧ P2 i v0 v1) ∧
    (∀ b ∈ fp, b < s₂.heap.objs.size) ∧ (∀ b ∈ wr, h₀.get? b = none) ∧ L ∉ wr ∧ (∀ q ∈ news, q.1 ∉ wr) ∧ St 0 s₂.heap ∧ Fr h₀ L s₂.heap m ∧ News h₀ L s₂.heap news ∧ ∃ h tk, s₂ = { s with heap := h, toks := tk }
theorem cut_kcp {elt target iter : PySem.Expr} {scope : Scope} {pos : Pos} {it acc : Value} {env : Env} {R : Result → Shared → Prop} (I : Nat → Shared → Prop)
    (turn : ∀ n s, I n s → ∀ (E : Value → Shared → Prop) (D : Shared → Prop) (B : Value → Shared → Prop), (∀ s₁, R (.ok .next) s₁ → D s₁) → (∀ x s₄, wpAny (model prog w) A (call (.builtin "list.append") [acc, x]) (fun _ s₅ => ∃ m, m < n ∧ I m s₅) E s₄ → B x s₄) →
      wpAny (model prog w) A (pyNext it) (fun r s₁ => match r with
        | none => D s₁
        | some v => wpAny (model prog w) A (letOwnedTupleGo target it v) (fun _ s₀ => wpAny (model prog w) A (assign target env v) (fun _ s₂ => wpAny (model prog w) A (eval elt env) (fun x s₄ => B x s₄) E s₂) E s₀) E s₁) E s)
    (n : Nat) (h : I n s) : codeAny (model prog w) A (.compLoop (.ListComp elt [⟨target, iter, [], 0⟩] scope pos) 0 it acc env) R s :=
  kcp_loop I (fun n s hI => turn n s hI _ _ _ (fun _ h => h) fun _ _ h => h) n h
theorem LC_pair {elt iter : PySem.Expr} {a b : Str} {pa pb tp : Pos} {kk : Nat} {scope : Scope} {pos : Pos} {P2 : Nat → Value → Value → Prop} {Q : Value → Shared → Prop} (_F : Fr h₀ L s.heap m) (_N : News h₀ L s.heap news) (Fy : Nat → Value → Prop) (n : Nat) (hn : n ≤ 1000000) (hh : A.handled = none)
    (hclos : closureFor scope env = pure []) (hcell : ∀ y ∈ scope.names, y.2 ≠ .cell) (hkind : scope.kind = .function) (hnames : ∀ x ∈ scope.names, x.2 = .local → scope.names.lookup x.1 = some .local)
    (ha : scope.names.lookup a = some .local) (hb : scope.names.lookup b = some .local) (hs : ∀ x, foldedSetIterable iter env x = pure x)
    (src : wpAny (model prog w) A (eval iter env) (fun xv s₁ => wpAny (model prog w) A (pyIter xv) (PairSrc prog w A h₀ L m news n P2 s) E s₁) E s)
    (helt : ∀ i v0 v1 (s' : Shared) m₂ C, P2 i v0 v1 → s'.heap.Ns C m₂ → m₂ a = some v0 → m₂ b = some v1 → ∀ (Q' : Value → Shared → Prop) E', (∀ y tk, Fy i y → Q' y { s' with toks := tk }) → wpAny (model prog w) A (eval elt (compEnvC scope [] C env)) Q' E' s')
    (hQ : ∀ D ys h tk, ys.length = n → (∀ i y, ys[i]? = some y → Fy i y) → Fr h₀ L h m → News h₀ L h ((D, LCg.lst ys) :: news) → Q (.ref D) { s with heap := h, toks := tk })
    (hab : a ≠ b) : wpAny (model prog w) A (eval (.ListComp elt [⟨.Tuple [.Name a pa, .Name b pb] kk tp, iter, [], 0⟩] scope pos) env) Q E s := by
  rw [eval_ListComp]
  refine wpAny_comprehension_free (use := none) rfl hs hclos hkind hnames (wpAny_mono src (fun xv s₁ h₁ => wpAny_mono h₁ (fun it s₂ h₂ => ?_) fun _ _ e => e) fun _ _ e => e)
  refine pvar fun G9 hG9 => ?_
  obtain ⟨I, fp, wr, Pt, St, Mid, rfl, W, h2, hfp, hwr₀, hLw, hNw, hst, F, N, h₂, tk₂, rfl⟩ := h₂
  refine hG9 ?_
  refine wpAny_newObj_type (wpAny_newFunctionEnv hcell (by intro y hy; simp at hy) (fun h₁ hns₁ hsb₁ => ?_) hkind)
  dsimp only at hns₁ hsb₁ hst hfp F N ⊢
  generalize hH2 : h₂.push { cls := .type "list", dict := none, data := .seq ([] : List Value).toArray } = H2 at hns₁ hsb₁ ⊢
  have hC : H2.objs.size = h₂.objs.size + 1 := by rw [← hH2, Heap.size_push]
  have below : ∀ b, b < h₂.objs.size → b ≠ H2.objs.size ∧ b ≠ h₂.objs.size := fun b hb => ⟨by rw [hC]; exact Nat.ne_of_lt (Nat.lt_succ_of_lt hb), Nat.ne_of_lt hb⟩
  have hDC : h₂.objs.size ≠ H2.objs.size := by rw [hC]; exact Nat.ne_of_lt (Nat.lt_succ_self _)
  have old : ∀ b o, h₂.get? b = some o → h₁.get? b = some o := fun b o e => hsb₁.extBut b o (below b (Heap.lt_size e)).1 (Heap.get?_push_of_some _ (hH2 ▸ Heap.get?_push_of_some _ e))
  have hacc : h₁.get? h₂.objs.size = some (LCg.lst []) := hsb₁.extBut _ _ hDC (Heap.get?_push_of_some _ (hH2 ▸ Heap.get?_push_size _ rfl))
  have hLlt : L < h₂.objs.size := F.ns.lt
  have hn0 : ∀ b, h₂.objs.size ≤ b → h₀.get? b = none := fun b hb => Heap.get?_none_of_le (Nat.le_trans (Nat.le_trans F.above (Nat.le_of_lt hLlt)) hb)
  have hD₀ : h₀.get? h₂.objs.size = none := hn0 _ (Nat.le_refl _)
  have hC₀ : h₀.get? H2.objs.size = none := hn0 _ (by rw [hC]; exact Nat.le_succ _)
  have hDL : h₂.objs.size ≠ L := Ne.symm (below L hLlt).2
  have hCL : H2.objs.size ≠ L := Ne.symm (below L hLlt).1
  have hDf : h₂.objs.size ∉ fp := fun hm => Nat.lt_irrefl _ (hfp _ hm)
  have hCf : H2.objs.size ∉ fp := fun hm => by have := hfp _ hm; rw [hC] at this; exact Nat.lt_irrefl _ (Nat.lt_of_succ_lt this)
  have offN : ∀ q ∈ news, q.1 ≠ H2.objs.size ∧ q.1 ≠ h₂.objs.size := fun q hq => below _ (Heap.lt_size (N q hq).1)
  have loop : codeAny (model prog w) A (.compLoop (.ListComp elt [⟨.Tuple [.Name a pa, .Name b pb] kk tp, iter, [], 0⟩] scope pos) 0 (.ref I) (.ref h₂.objs.size) (compEnvC scope [] H2.objs.size env))
      (compPost (model prog w) A E none Q (.ref h₂.objs.size) H2.objs.size) { s with heap := h₁, toks := tk₂ + ([] : List (Str × Value)).length } := by
    obtain ⟨Inv, hInv⟩ : ∃ Inv : Nat → Shared → Prop, ∀ k s', Inv k s' ↔ (∃ h' tk i ys m', s' = { s with heap := h', toks := tk } ∧ i ≤ n ∧ k = n + 1 - i ∧ ys.length = i ∧ (∀ j y, ys[j]? = some y → Fy j y) ∧ St i h' ∧ Fr h₀ L h' m ∧ h'.Ns H2.objs.size m' ∧ News h₀ L h' ((h₂.objs.size, LCg.lst ys) :: news)) := ⟨_, fun _ _ => Iff.rfl⟩
    refine cut_kcp Inv ?_ (n + 1)
      ((hInv _ _).mpr ⟨h₁, _, 0, [], _, rfl, Nat.zero_le _, rfl, rfl, fun j y h => absurd h (by simp), W.frame _ _ _ hst fun b _ o e => old b o e, F.keeps old, hns₁, ?_⟩)
    · intro k s' hI0 E9 D9 B9 hD9 hB9
      replace hI0 := (hInv _ _).mp hI0
      refine pvar fun G9 hG9 => ?_
      obtain ⟨h', tk, i, ys, m', rfl, hi, rfl, hlen, hys, hst', F', hn', N'⟩ := hI0
      refine hG9 ?_
      have keepF : ∀ hx : Heap, (∀ b o, b ∉ wr → b ≠ H2.objs.size → b ≠ h₂.objs.size → h'.get? b = some o → hx.get? b = some o) → Fr h₀ L hx m ∧ News h₀ L hx news := fun hx hk =>
        ⟨⟨F'.ns.at' fun o e => hk L o hLw (Ne.symm hCL) (Ne.symm hDL) e, fun b o e => hk b o (fun q => by rw [hwr₀ b q] at e; cases e) (fun q => by rw [q, hC₀] at e; cases e) (fun q => by rw [q, hD₀] at e; cases e) (F'.keep b o e), F'.above⟩,
          fun q hq => ⟨hk _ _ (hNw q hq) (offN q hq).1 (offN q hq).2 (N' q (List.mem_cons_of_mem _ hq)).1, (N' q (List.mem_cons_of_mem _ hq)).2⟩⟩
      by_cases hlt : i < n
      · refine W.item i _ _ _ hlt hst' fun T vals h₃ tk₃ hPt _ hT hMid hk₃ => ?_
        obtain ⟨v0, v1, rfl, hP2⟩ := h2 i vals hPt
        refine W.go _ kk tp i T _ _ _ hMid fun h₄ hst₄ hk₄ => ?_
        have ht₄ : h₄.IsTuple T #[v0, v1] := hT.at fun o e => hk₄ T o (W.apart i T h₃ hMid) e
        have hCw : H2.objs.size ∉ wr := fun q => hCf (W.sub _ q)
        have hDw : h₂.objs.size ∉ wr := fun q => hDf (W.sub _ q)
        have hn₄ : h₄.Ns H2.objs.size m' := hn'.at' fun o e => hk₄ _ o hCw (hk₃ _ o hCw e)
        have hka : (compEnvC scope [] H2.objs.size env).kindOf a = some .local := lookup_relabel_local ha
        have hkb : (compEnvC scope [] H2.objs.size env).kindOf b = some .local := lookup_relabel_local hb
        refine kcp_assign (env := compEnvC scope [] H2.objs.size env) hh ht₄ hka hkb (by show (scope.kind == .class || (scope.kind == .module && _)) = false; rw [hkind]; rfl) hn₄ fun h₅ tk₅ hn₅ hk₅ => ?_
        refine helt i v0 v1 _ _ _ hP2 hn₅ (by show (if a = b then some v1 else if a = a then some v0 else m' a) = some v0; rw [if_neg hab, if_pos rfl]) (by show (if b = b then some v1 else _) = some v1; rw [if_pos rfl]) _ _ fun y tk₆ hy => ?_
        have up : ∀ b o, b ∉ wr → b ≠ H2.objs.size → h'.get? b = some o → h₅.get? b = some o := fun b o h1 h2 e => hk₅ b o h2 (hk₄ b o h1 (hk₃ b o h1 e))
        have hD₅ : h₅.get? h₂.objs.size = some (LCg.lst ys) := up _ _ hDw hDC (N' _ List.mem_cons_self).1
        refine hB9 _ _ (append_at (hsz := by simp only [List.size_toArray]; rw [hlen]; exact Nat.le_trans hi (Nat.le_trans hn (by rw [sizeLine_eq]; decide))) hD₅ fun h₆ hs₆ ho₆ => ?_)
        rw [LCg.lst_snoc ys y] at ho₆
        replace hs₆ : Heap.SameBut h₂.objs.size h₅ h₆ := hs₆
        have up₆ : ∀ b o, b ∉ wr → b ≠ H2.objs.size → b ≠ h₂.objs.size → h'.get? b = some o → h₆.get? b = some o := fun b o h1 h2 h3 e => hs₆.extBut b o h3 (up b o h1 h2 e)
        obtain ⟨F₆, N₆⟩ := keepF h₆ up₆
        refine ⟨n + 1 - (i + 1), meas_lt hlt, (hInv _ _).mpr ⟨h₆, _, i + 1, ys ++ [y], _, rfl, hlt, rfl, by simp [hlen], fun j z hj => ?_, ?_, F₆, hn₅.at' fun o e => hs₆.extBut _ o (Ne.symm hDC) e, fun q hq => ?_⟩⟩
        · by_cases hji : j < ys.length
          · rw [List.getElem?_append_left hji] at hj; exact hys j z hj
          · rw [List.getElem?_append_right (Nat.not_lt.mp hji)] at hj
            have hj0 : j - ys.length = 0 := by
              by_cases h0 : j - ys.length = 0
              · exact h0
              · rw [List.getElem?_eq_none (by simp; omega)] at hj; cases hj
            rw [hj0] at hj
            have e1 : y = z := by simpa using hj
            have e2 : j = i := (Nat.le_antisymm (Nat.le_of_sub_eq_zero hj0) (Nat.not_lt.mp hji)).trans hlen
            subst e1 e2; exact hy
        · exact W.frame _ _ _ hst₄ fun b hb o e => hs₆.extBut b o (fun q => hDf (q ▸ hb)) (hk₅ b o (fun q => hCf ((show b = H2.objs.size from q) ▸ hb)) e)
        · rcases List.mem_cons.mp hq with rfl | hq
          · exact ⟨ho₆, hDL, hD₀⟩
          · exact N₆ q hq
      · have hin : i = n := Nat.le_antisymm hi (Nat.not_lt.mp hlt)
        refine W.done _ _ _ (hin ▸ hst') fun h₃ tk₃ hk₃ => ?_
        have hDw : h₂.objs.size ∉ wr := fun q => hDf (W.sub _ q)
        have hCw : H2.objs.size ∉ wr := fun q => hCf (W.sub _ q)
        refine hD9 _ ⟨m', hn'.at' fun o e => hk₃ _ o hCw e, fun h₄ hs₄ => ?_⟩
        replace hs₄ : Heap.SameBut H2.objs.size h₃ h₄ := hs₄
        obtain ⟨F₄, N₄⟩ := keepF h₄ fun b o h1 h2 _ e => hs₄.extBut b o h2 (hk₃ b o h1 e)
        refine hQ _ ys h₄ tk₃ (hlen.trans hin) hys F₄ fun q hq => ?_
        rcases List.mem_cons.mp hq with rfl | hq
        · exact ⟨hs₄.extBut _ _ hDC (hk₃ _ _ hDw (N' _ List.mem_cons_self).1), hDL, hD₀⟩
        · exact N₄ q hq
    · intro q hq
      rcases List.mem_cons.mp hq with rfl | hq
      · exact ⟨hacc, hDL, hD₀⟩
      · exact ⟨old _ _ (N q hq).1, (N q hq).2⟩
  refine codeAny_compStart_list loop (W.self 0 _ _ _ (W.frame _ _ _ hst fun b _ o e => old b o e) loop)
theorem src_zip {l1 l2 : Addr} {xs ys : Array Value} {news' : List (Addr × Obj)} {s₀ : Shared} (hh : A.handled = none) (F : Fr h₀ L s.heap m) (N : News h₀ L s.heap news') (hn : ∀ q ∈ news, q ∈ news') (hl1 : s.heap.IsList l1 xs) (hl2 : s.heap.IsList l2 ys) (h0 : ∃ h tk, s = { s₀ with heap := h, toks := tk }) :
    wpAny (model prog w) A (call (.type "zip") [.ref l1, .ref l2]) (fun xv s₁ => wpAny (model prog w) A (pyIter xv) (PairSrc prog w A h₀ L m news (min xs.size ys.size) (fun i a b => xs[i]? = some a ∧ ys[i]? = some b) s₀) E s₁) E s := by
  obtain ⟨hp, tk, rfl⟩ := h0
  refine call_zip_2 hl1 hl2 fun h8 hz hTI hTO hi1 hi2 hsz hk => ?_
  refine wpAny_pyIter_zip hz ?_
  have hL : L < hp.objs.size := F.ns.lt
  have e1 : @LT.lt Nat _ l1 hp.objs.size := by obtain ⟨_, e, _⟩ := hl1; exact Heap.lt_size e
  have e2 : @LT.lt Nat _ l2 hp.objs.size := by obtain ⟨_, e, _⟩ := hl2; exact Heap.lt_size e
  have hsz' : h8.objs.size = hp.objs.size + 5 := hsz
  have hn0 : ∀ b, hp.objs.size ≤ b → h₀.get? b = none := fun b hb => Heap.get?_none_of_le (Nat.le_trans (Nat.le_trans F.above (Nat.le_of_lt hL)) hb)
  have big : ∀ b ∈ [hp.objs.size + 4, hp.objs.size + 3, hp.objs.size, hp.objs.size + 1], hp.objs.size ≤ b := fun b hb => by
    simp only [List.mem_cons, List.not_mem_nil, or_false] at hb
    rcases hb with rfl | rfl | rfl | rfl <;> omega
  refine ⟨_, _, _, _, _, _, rfl, WalksT.zip2 hh (hp.objs.size + 4) (hp.objs.size + 2) (hp.objs.size + 3) hp.objs.size (hp.objs.size + 1) l1 l2 ?_ xs ys, ?_, ?_, fun b hb => hn0 b (big b hb), fun h => absurd (big L h) (Nat.not_le.mpr hL),
    fun q hq h => absurd (big q.1 h) (Nat.not_le.mpr (Heap.lt_size (N q (hn q hq)).1)), ⟨hz, hTI, ⟨_, _, hTO⟩, hi1, hi2, hl1.at fun o e => hk _ o e, hl2.at fun o e => hk _ o e⟩,
    F.keeps (fun b o e => hk b o e), fun q hq => ⟨hk _ _ (N q (hn q hq)).1, (N q (hn q hq)).2⟩, h8, _, rfl⟩
  · constructor <;> (refine neN ?_; omega)
  · rintro i vals ⟨x, y, hx, hy, rfl⟩
    exact ⟨x, y, rfl, hx, hy⟩
  · intro b hb
    show b < h8.objs.size
    rw [hsz']
    simp only [List.mem_cons, List.not_mem_nil, or_false] at hb
    rcases hb with rfl | rfl | rfl | rfl | rfl | rfl | rfl <;> (refine ltN ?_; omega)
end
end Mine

end
noncomputable section
open PySem PySem.W PyProof.Rows PySem.Calls PySem.Spec Mine
namespace Mine
noncomputable abbrev Cn (w : World) (p : Program) (loose : List Str) (mean : ExcName → Option Value) (mg mb : Str → Option Value) (r : Nat) (f : Addr) (vs : List Value) (pre : List (Addr × Obj) → Prop)
    (RET : Heap → Addr → (Str → Option Value) → List (Addr × Obj) → Shared → (Value → Shared → Prop) → Prop) : Prop :=
  ∀ (news : List (Addr × Obj)) (dp un : Nat) (gd : Option (List Code)) (cn : Str) (cs : Scope) (a : Addr) (ccd : Value) (cl : List (Str × Addr)) (outer : List Env) (A₀ : Around) (base h₀ : Heap) (L : Addr) (m : Str → Option Value) (s : Shared) (Q E : Value → Shared → Prop),
    Below A₀ base outer h₀ → Fr h₀ L s.heap m → (kf w.params).In h₀ → News h₀ L s.heap news → Top p loose mean mg mb h₀ → cs.kind = .function →
    pre news → dp + r < recursionLimit → un + 8 * r < cLine → RET h₀ L m news s Q →
      wpAny (model pw w) (ktrTop dp un gd cn cs L a ccd cl outer) (call (.ref f) vs) Q E s
section
variable {w : World} {p : Program} {loose : List Str} {mean : ExcName → Option Value} {mg mb : Str → Option Value}
theorem use_claimN {r : Nat} {f : Addr} {pre : List (Addr × Obj) → Prop} {vs : List Value} {RET : Heap → Addr → (Str → Option Value) → List (Addr × Obj) → Shared → (Value → Shared → Prop) → Prop} (C : Cn w p loose mean mg mb r f vs pre RET)
    {news : List (Addr × Obj)} {dp un : Nat} {gd : Option (List Code)} {cn : Str} {cs : Scope} {a : Addr} {ccd : Value} {cl : List (Str × Addr)} {outer : List Env} {A₀ : Around} {base h₀ : Heap} {L : Addr} {m : Str → Option Value} {s : Shared} {Q E : Value → Shared → Prop}
    (k1 : Below A₀ base outer h₀) (k2 : Fr h₀ L s.heap m) (k3 : (kf w.params).In h₀) (k4 : News h₀ L s.heap news) (k5 : Top p loose mean mg mb h₀) (kK : cs.kind = .function) (kp : pre news) (kd : dp + r < recursionLimit) (ku : un + 8 * r < cLine)
    (kR : RET h₀ L m news s Q) :
    wpAny (model pw w) (ktrTop dp un gd cn cs L a ccd cl outer) (call (.ref f) vs) Q E s := C news dp un gd cn cs a ccd cl outer A₀ base h₀ L m s Q E k1 k2 k3 k4 k5 kK kp kd ku kR
end
noncomputable def intVals (l : List (Int × Tok)) : List Value := l.map fun p => .int p.1 p.2
theorem news_more {h₀ h : Heap} {L : Addr} {news : List (Addr × Obj)} {x : Addr × Obj} (N : News h₀ L h news) (hx : x ∈ news) : News h₀ L h (x :: news) := fun p hp => by
  rcases List.mem_cons.mp hp with rfl | hp
  · exact N _ hx
  · exact N p hp
theorem strs_of_fun {ys : List Value} {f : Nat → Str} {n : Nat} (hl : ys.length = n) (h : ∀ (i : Nat) (v : Value), ys[i]? = some v → ∃ t, v = Value.str (f i) t) : ∃ bl : List (Str × Tok), ys = strValues bl ∧ bl.map (·.1) = (List.range n).map f := by
  subst hl
  let g : Value → Str × Tok := fun v => match v with | .str x t => (x, t) | _ => default
  refine ⟨ys.map g, ?_, ?_⟩
  · apply List.ext_getElem?
    intro i
    simp only [strValues, List.getElem?_map]
    cases hv : ys[i]? with
    | none => rfl
    | some v =>
      obtain ⟨t, rfl⟩ := h i v hv
      rfl
  · apply List.ext_getElem?
    intro i
    simp only [List.getElem?_map]
    cases hv : ys[i]? with
    | none =>
      have : ys.length ≤ i := List.getElem?_eq_none_iff.mp hv
      rw [List.getElem?_eq_none (by simpa using this)]
      rfl
    | some v =>
      obtain ⟨t, rfl⟩ := h i v hv
      have hi : i < ys.length := (List.getElem?_eq_some_iff.mp hv).1
      rw [List.getElem?_range hi]
      rfl
end Mine

end
noncomputable section
open PySem PySem.W PyProof.Rows PySem.Calls PySem.Spec Mine
namespace Mine
namespace MF
theorem owner_map : Manifest.owners.lookup (String.ofList ['p', 'a', 'm'].reverse) = some Manifest.sig_map := by kernel_rfl
theorem slot_map_next : Slot "map" "__next__" "map.__next__" :=
  .of (owner := "map") (n := "__next__") (by rw [typeLookup_type, builtinLookup_eq_fast]; kernel_rfl) (by decide +kernel) (by decide +kernel) (by decide +kernel)
    (by first | exact .inl (by decide +kernel) | exact .inr (by decide +kernel)) (by rw [isSubtype_type]; kernel_rfl)
theorem entry_map_next : entryFor table "map.__next__" = some Builtin.«map.__next__» := entryFor_of_tree (by kernel_rfl)
theorem args_map_next_1 (a : Value) : argsOk "map.__next__" ⟨[a], []⟩ := by
  unfold argsOk; rw [signature?_of (id := "map.__next__") (n := ['_', '_', 't', 'x', 'e', 'n', '_', '_']) (o := ['p', 'a', 'm']) (by kernel_rfl) owner_map]; kernel_rfl
theorem slot_map_iter : Slot "map" "__iter__" "map.__iter__" :=
  .of (owner := "map") (n := "__iter__") (by rw [typeLookup_type, builtinLookup_eq_fast]; kernel_rfl) (by decide +kernel) (by decide +kernel) (by decide +kernel)
    (by first | exact .inl (by decide +kernel) | exact .inr (by decide +kernel)) (by rw [isSubtype_type]; kernel_rfl)
theorem args_map_iter_1 (a : Value) : argsOk "map.__iter__" ⟨[a], []⟩ := by
  unfold argsOk; rw [signature?_of (id := "map.__iter__") (n := ['_', '_', 'r', 'e', 't', 'i', '_', '_']) (o := ['p', 'a', 'm']) (by kernel_rfl) owner_map]; kernel_rfl
theorem entry_map_iter : entryFor table "map.__iter__" = some Builtin.«dict_keyiterator.__iter__» :=
  entryFor_alias (id' := "dict_keyiterator.__iter__") (by kernel_rfl) (by first | rfl | decide +kernel | (unfold String.splitOn; simp +decide [String.splitOnAux])) (by decide +kernel) (by kernel_rfl)
theorem slot_map_init : Slot "map" "__init__" "object.__init__" :=
  .of (owner := "object") (n := "__init__") (by rw [typeLookup_type, builtinLookup_eq_fast]; kernel_rfl) (by decide +kernel) (by decide +kernel) (by decide +kernel)
    (by first | exact .inl (by decide +kernel) | exact .inr (by decide +kernel)) (by rw [isSubtype_type]; kernel_rfl)
theorem mro_map : mroOf (.type "map") = pure [.type "map", .type "object"] := by rw [mroOf_type]; kernel_rfl
theorem lookup_map_new : typeLookup (.type "map") "__new__" = pure (some (.builtin "map.__new__")) := by rw [typeLookup_type, builtinLookup_eq_fast]; kernel_rfl
theorem called_map : TypeCalled "map" "map.__new__" "object.__init__" :=
  ⟨by decide +kernel, by decide +kernel, ⟨_, _, mro_map⟩, madeBy_type mro_map lookup_map_new (by decide +kernel), by decide +kernel, by rw [isSubtype_type]; kernel_rfl, slot_map_init⟩
theorem typeCall_map_2 (a b : Value) : checkTypeCall "map" ⟨[a, b], []⟩ = pure () := by kernel_rfl
theorem newCall_map_2 (a b : Value) : checkBuiltinCall "map.__new__" ⟨[.type "map", a, b], []⟩ = pure () := by kernel_rfl
theorem entry_map_new : entryFor table "map.__new__" = some Builtin.«map.__new__» := entryFor_of_tree (by kernel_rfl)
theorem map_no_len : typeLookup (.type "map") "__len__" = pure none := by rw [typeLookup_type, builtinLookup_eq_fast]; kernel_rfl
theorem map_no_hint : typeLookup (.type "map") "__length_hint__" = pure none := by rw [typeLookup_type, builtinLookup_eq_fast]; kernel_rfl
end MF
theorem sub_map : isSubtype (.type "map") (.type "map") = pure true := by rw [isSubtype_type]; kernel_rfl
noncomputable abbrev mapO (TI : Addr) (f : Value) : Obj := { cls := .type "map", dict := none, data := .fields #[.ref TI, f], slots := #[] }
noncomputable abbrev tup1 (v : Value) : Obj := { cls := .type "tuple", data := .seq #[v] }
noncomputable abbrev mapH1 (h : Heap) (l1 : Addr) : Heap := h.push { cls := .type "list_iterator", data := .fields #[.ref l1, .int 0 0] }
noncomputable abbrev mapH2 (h : Heap) (l1 : Addr) : Heap := (mapH1 h l1).push (tup1 (.ref h.objs.size))
noncomputable abbrev mapH3 (h : Heap) (f : Value) (l1 : Addr) : Heap := (mapH2 h l1).push (mapO (mapH1 h l1).objs.size f)
theorem meets_map_new (f : Value) (l1 : Addr) (xs : Array Value) :
    Meets (Builtin.«map.__new__» ⟨[.type "map", f, .ref l1], []⟩) (fun _ R s => s.heap.IsList l1 xs ∧ R (.ok (.ret (.ref (mapH2 s.heap l1).objs.size))) { s with heap := mapH3 s.heap f l1 }) :=
  .of_wp fun prog w A R s h => by
    obtain ⟨hp, g, d, tk, os⟩ := s; obtain ⟨hl1, h⟩ := h
    have hsub := sub_map
    have hL1 : Heap.IsList (Shared.heap ⟨hp, g, d, tk, os⟩) l1 xs := hl1
    wp_walk using wpAny_pyIter_list hL1
    exact ⟨_, rfl, h⟩
section
variable {prog : Program} {w : World} {A : Around} {E : Value → Shared → Prop} {s : Shared} {h₀ : Heap} {L : Addr} {m : Str → Option Value}
noncomputable def itO (l : Addr) (i : Nat) (o : Obj) : Prop := o.cls = .type "list_iterator" ∧ o.data = .fields #[.ref l, .int i 0]
noncomputable def MapAt (h₀ : Heap) (L : Addr) (m : Str → Option Value) (I TI it l : Addr) (f : Value) (arr : Array Value) (k i : Nat) (ex : List (Addr × Obj)) (h : Heap) : Prop :=
  Fr h₀ L h m ∧ ∃ o, itO l i o ∧ News h₀ L h ((it, o) :: (I, mapO TI f) :: (TI, tup1 (.ref it)) :: (l, W.listOf arr k) :: ex)
theorem map_next_item {I TI it l : Addr} {f : Value} {arr : Array Value} {k i : Nat} {ex : List (Addr × Obj)} {x : Value} {P : Value → Prop} {Q : Option Value → Shared → Prop}
    (J : MapAt h₀ L m I TI it l f arr k i ex s.heap) (hd : I ≠ it ∧ TI ≠ it ∧ l ≠ it) (hex : ∀ q ∈ ex, q.1 ≠ it) (hx : arr[i]? = some x)
    (hcall : ∀ (s' : Shared) (Q' : Value → Shared → Prop) E' nw, Fr h₀ L s'.heap m → News h₀ L s'.heap nw → (∀ v h tk, P v → Fr h₀ L h m → News h₀ L h nw → Q' v { s' with heap := h, toks := tk }) → wpAny (model prog w) A.in1 (call f [x]) Q' E' s')
    (hQ : ∀ v h tk, P v → MapAt h₀ L m I TI it l f arr k (i + 1) ex h → Q (some v) { s with heap := h, toks := tk }) :
    wpAny (model prog w) A (pyNext (.ref I)) Q E s := by
  obtain ⟨F, o, ⟨hoc, hod⟩, N⟩ := J
  have g0 := (N _ (List.mem_cons_self)).1
  have g1 := (N _ (List.mem_cons_of_mem _ List.mem_cons_self)).1
  have g2 := (N _ (List.mem_cons_of_mem _ (List.mem_cons_of_mem _ List.mem_cons_self))).1
  have hl : s.heap.IsList l arr := isL_of N (List.mem_cons_of_mem _ (List.mem_cons_of_mem _ (List.mem_cons_of_mem _ List.mem_cons_self)))
  have hI : s.TypeIs (.ref I) "map" := ⟨_, g1, rfl⟩
  have hit : s.heap.IsListIter it l i := ⟨o, g0, hoc, hod⟩
  unfold pyNext
  refine wpAny_bind (wpAny_attempt (wpAny_callSpecial?_slot (name := Str.ofString "__next__") hI MF.slot_map_next
    (wpAny_call_entry MF.slot_map_next hI MF.entry_map_next ?_ (MF.args_map_next_1 _))))
  show wpAny _ _ (field (.ref I) 0 >>= _) _ _ _
  refine wpAny_bind (wpAny_field g1 rfl (x := .ref TI) rfl ?_)
  refine wpAny_bind (wpAny_seqItems g2 rfl ?_)
  refine wpAny_bind ?_
  simp only [List.forIn_toArray, List.forIn_cons, List.forIn_nil]
  refine wpAny_bind (wpAny_bind (wpAny_holding ?_))
  refine wpAny_nextOf_list_item hit hl hx fun h' hit' hs => ?_
  refine wpAny_pure (wpAny_pure ?_)
  obtain ⟨o', ho', hc', hd'⟩ := hit'
  have hLn : L ≠ it := Ne.symm (N _ List.mem_cons_self).2.1
  have F' : Fr h₀ L h' m := ⟨F.ns.at' fun o e => hs.extBut _ _ hLn e, fun b o e => hs.extBut _ _ (fun q => by have := (N _ List.mem_cons_self).2.2; rw [show (it, o).1 = it from rfl] at *; rw [q] at e; simp_all) (F.keep b o e), F.above⟩
  have N' : News h₀ L h' ((it, o') :: (I, mapO TI f) :: (TI, tup1 (.ref it)) :: (l, W.listOf arr k) :: ex) := by
    intro q hq
    rcases List.mem_cons.mp hq with rfl | hq
    · exact ⟨ho', (N _ List.mem_cons_self).2⟩
    · have hne : q.1 ≠ it := by
        rcases List.mem_cons.mp hq with rfl | hq
        · exact hd.1
        rcases List.mem_cons.mp hq with rfl | hq
        · exact hd.2.1
        rcases List.mem_cons.mp hq with rfl | hq
        · exact hd.2.2
        exact hex q hq
      have := N q (List.mem_cons_of_mem _ hq)
      exact ⟨hs.extBut _ _ hne this.1, this.2⟩
  have g1' := (N' _ (List.mem_cons_of_mem _ List.mem_cons_self)).1
  refine wpAny_bind (wpAny_field g1' rfl (x := f) rfl ?_)
  refine wpAny_bind (wpAny_holding ?_)
  refine hcall _ _ _ _ F' N' fun v h tk hv F2 N2 => ?_
  refine wpAny_bind (wpAny_letGo (wpAny_pure ?_))
  refine ⟨v, rfl, wpAny_pure ?_⟩
  exact hQ v h tk hv ⟨F2, o', ⟨hc', hd'⟩, N2⟩
theorem map_next_end {I TI it l : Addr} {f : Value} {arr : Array Value} {k i : Nat} {ex : List (Addr × Obj)} {Q : Option Value → Shared → Prop} (hh : A.handled = none)
    (J : MapAt h₀ L m I TI it l f arr k i ex s.heap) (hex : ∀ q ∈ ex, q.1 ≠ it) (hx : arr[i]? = none)
    (hQ : ∀ h, Fr h₀ L h m → News h₀ L h ex → Q none { s with heap := h }) :
    wpAny (model prog w) A (pyNext (.ref I)) Q E s := by
  obtain ⟨F, o, ⟨hoc, hod⟩, N⟩ := J
  have g0 := (N _ (List.mem_cons_self)).1
  have g1 := (N _ (List.mem_cons_of_mem _ List.mem_cons_self)).1
  have g2 := (N _ (List.mem_cons_of_mem _ (List.mem_cons_of_mem _ List.mem_cons_self))).1
  have hl : s.heap.IsList l arr := isL_of N (List.mem_cons_of_mem _ (List.mem_cons_of_mem _ (List.mem_cons_of_mem _ List.mem_cons_self)))
  have hI : s.TypeIs (.ref I) "map" := ⟨_, g1, rfl⟩
  have hit : s.heap.IsListIter it l i := ⟨o, g0, hoc, hod⟩
  unfold pyNext
  refine wpAny_bind (wpAny_attempt (wpAny_callSpecial?_slot (name := Str.ofString "__next__") hI MF.slot_map_next
    (wpAny_call_entry MF.slot_map_next hI MF.entry_map_next ?_ (MF.args_map_next_1 _))))
  show wpAny _ _ (field (.ref I) 0 >>= _) _ _ _
  refine wpAny_bind (wpAny_field g1 rfl (x := .ref TI) rfl ?_)
  refine wpAny_bind (wpAny_seqItems g2 rfl ?_)
  refine wpAny_bind ?_
  simp only [List.forIn_toArray, List.forIn_cons, List.forIn_nil]
  refine wpAny_bind (wpAny_bind (wpAny_holding ?_))
  refine wpAny_nextOf_list_end hh hit hl hx fun h' e hs he => ?_
  obtain ⟨oe, hoe, hce⟩ := he
  refine wpAny_bind (wpAny_isInstance (T := "StopIteration") (b := true) ⟨oe, hoe, hce⟩ isSubtype_stop ?_)
  refine wpAny_pure (hQ h' ⟨F.ns.at' fun o e => hs _ _ (Ne.symm (N _ List.mem_cons_self).2.1) e, fun b o e => hs _ _ (fun q => by have := (N _ List.mem_cons_self).2.2; rw [q] at e; simp_all) (F.keep b o e), F.above⟩ fun q hq => ?_)
  have := N q (List.mem_cons_of_mem _ (List.mem_cons_of_mem _ (List.mem_cons_of_mem _ (List.mem_cons_of_mem _ hq))))
  exact ⟨hs _ _ (hex q hq) this.1, this.2⟩

noncomputable abbrev lsO (acc : Array Value) (c : Nat) : Obj := { cls := .type "list", dict := none, data := .seq acc c, slots := #[] }
theorem map_loop {R : Result → Shared → Prop} {I TI it l S : Addr} {f res : Value} {arr : Array Value} {k : Nat} {ex : List (Addr × Obj)} {P : Nat → Value → Prop} (hh : A.handled = none)
    (hd : I ≠ it ∧ TI ≠ it ∧ l ≠ it) (hex : ∀ q ∈ ex, q.1 ≠ it) (hS : S ≠ it ∧ I ≠ S ∧ TI ≠ S ∧ l ≠ S) (hSex : ∀ q ∈ ex, q.1 ≠ S) (hn : arr.size ≤ sizeLine)
    (hcall : ∀ i x, arr[i]? = some x → ∀ (s' : Shared) (Q' : Value → Shared → Prop) E' nw, Fr h₀ L s'.heap m → News h₀ L s'.heap nw → (∀ v h tk, P i v → Fr h₀ L h m → News h₀ L h nw → Q' v { s' with heap := h, toks := tk }) → wpAny (model prog w) A.in1.in1 (call f [x]) Q' E' s') :
    ∀ (n i : Nat) (s : Shared) (acc : Array Value) (c : Nat), arr.size - i = n → i ≤ arr.size → MapAt h₀ L m I TI it l f arr k i ((S, lsO acc c) :: ex) s.heap → ItemsOf P acc i →
      (∀ h tk acc' c', Fr h₀ L h m → News h₀ L h ((S, lsO acc' c') :: ex) → ItemsOf P acc' arr.size → R (.ok (.ret res)) { s with heap := h, toks := tk }) →
      codeAny (model prog w) A (.builtin "list.extend.loop" ⟨[.ref S, .ref I, res], []⟩) R s := by
  intro n
  induction n with
  | zero =>
    intro i s acc c hk hi J hacc hR
    have hin : i = arr.size := sub_end hk hi
    subst hin
    refine codeAny_builtin F.entry_extend_loop ?_
    rw [Around.under_plainId F.plain_extend_loop _]
    show wpAny _ A.in1 (pyNext (.ref I) >>= _) _ _ s
    refine wpAny_bind (map_next_end (A := A.in1) hh J (List.forall_mem_cons.mpr ⟨hS.1, hex⟩) (by simp) fun h F N => ?_)
    exact wpAny_pure (hR h s.toks acc c F N hacc)
  | succ n ih =>
    intro i s acc c hk hi J hacc hR
    have hlt : i < arr.size := sub_in hk
    have hx : arr[i]? = some arr[i] := by simp [hlt]
    refine codeAny_builtin F.entry_extend_loop ?_
    rw [Around.under_plainId F.plain_extend_loop _]
    show wpAny _ A.in1 (pyNext (.ref I) >>= _) _ _ s
    refine wpAny_bind (map_next_item (A := A.in1) (P := P i) J hd (List.forall_mem_cons.mpr ⟨hS.1, hex⟩) hx (hcall i _ hx) fun v h tk hv J' => ?_)
    obtain ⟨F', o', ho', N'⟩ := J'
    have hSm := N' (S, lsO acc c) (List.mem_cons_of_mem _ (List.mem_cons_of_mem _ (List.mem_cons_of_mem _ (List.mem_cons_of_mem _ List.mem_cons_self))))
    show wpAny _ A.in1 (updateSeq S (·.push v) >>= _) _ _ _
    refine wpAny_bind ?_
    have oth : ∀ b o, b ≠ S → h.get? b = some o → (h.update S (Obj.mapSeq (·.push v))).get? b = some o := fun b o hb e => (Heap.get?_update_other _ _ (Ne.symm hb)).trans e
    have F2 : Fr h₀ L (h.update S (Obj.mapSeq (·.push v))) m := ⟨F'.ns.at' fun o e => oth _ _ (Ne.symm hSm.2.1) e, fun b o e => oth _ _ (fun q => by have := hSm.2.2; rw [q] at e; simp_all) (F'.keep b o e), F'.above⟩
    have N2 : News h₀ L (h.update S (Obj.mapSeq (·.push v))) ((it, o') :: (I, mapO TI f) :: (TI, tup1 (.ref it)) :: (l, W.listOf arr k) :: (S, Obj.mapSeq (·.push v) (lsO acc c)) :: ex) := by
      intro q hq
      by_cases hqS : q.1 = S
      · rcases List.mem_cons.mp hq with rfl | hq
        · exact absurd hqS (Ne.symm hS.1)
        rcases List.mem_cons.mp hq with rfl | hq
        · exact absurd hqS hS.2.1
        rcases List.mem_cons.mp hq with rfl | hq
        · exact absurd hqS hS.2.2.1
        rcases List.mem_cons.mp hq with rfl | hq
        · exact absurd hqS hS.2.2.2
        rcases List.mem_cons.mp hq with rfl | hq
        · exact ⟨Heap.get?_update_self _ hSm.1 rfl, hSm.2⟩
        exact absurd hqS (hSex q hq)
      · have h0 : q ∈ ((it, o') :: (I, mapO TI f) :: (TI, tup1 (.ref it)) :: (l, W.listOf arr k) :: (S, lsO acc c) :: ex) := by
          simp only [List.mem_cons] at hq ⊢
          rcases hq with h | h | h | h | h | h
          · exact .inl h
          · exact .inr (.inl h)
          · exact .inr (.inr (.inl h))
          · exact .inr (.inr (.inr (.inl h)))
          · exact absurd (by rw [h]) hqS
          · exact .inr (.inr (.inr (.inr (.inr h))))
        have := N' q h0
        exact ⟨oth _ _ hqS this.1, this.2⟩
    refine wpAny_updateSeq hSm.1 rfl (wpAny_pure ⟨plainId_quiet F.plain_extend_loop _, ih (i + 1) _ (acc.push v) _ (sub_nx hk) hlt ⟨F2, o', ho', N2⟩ (hacc.push hv) fun h3 tk3 acc3 c3 F3 N3 ha3 => ?_⟩)
      (by rw [hacc.1]; omega) (by show (acc.push v).size ≤ sizeLine + 1; rw [Array.size_push, hacc.1]; omega)
    exact hR h3 tk3 acc3 c3 F3 N3 ha3
theorem map_collect {I TI it l : Addr} {f : Value} {arr : Array Value} {k : Nat} {ex : List (Addr × Obj)} {P : Nat → Value → Prop} {Q : List Value → Shared → Prop} (hh : A.handled = none)
    (hd : I ≠ it ∧ TI ≠ it ∧ l ≠ it) (hex : ∀ q ∈ ex, q.1 ≠ it) (hn : arr.size ≤ sizeLine)
    (hcall : ∀ i x, arr[i]? = some x → ∀ (s' : Shared) (Q' : Value → Shared → Prop) E' nw, Fr h₀ L s'.heap m → News h₀ L s'.heap nw → (∀ v h tk, P i v → Fr h₀ L h m → News h₀ L h nw → Q' v { s' with heap := h, toks := tk }) → wpAny (model prog w) A.in1.in1 (call f [x]) Q' E' s')
    (J : MapAt h₀ L m I TI it l f arr k 0 ex s.heap)
    (hQ : ∀ h tk acc, Fr h₀ L h m → News h₀ L h ex → ItemsOf P acc arr.size → Q acc.toList { s with heap := h, toks := tk }) : wpAny (model prog w) A (collect (.ref I)) Q E s := by
  obtain ⟨F₁, o, ho, N⟩ := J
  have lt : ∀ q ∈ ((it, o) :: (I, mapO TI f) :: (TI, tup1 (.ref it)) :: (l, W.listOf arr k) :: ex), q.1 ≠ s.heap.objs.size := fun q hq e => Nat.lt_irrefl _ (e ▸ Heap.lt_size (N q hq).1)
  have hSI : I ≠ s.heap.objs.size := lt _ (List.mem_cons_of_mem _ List.mem_cons_self)
  unfold collect
  refine wpAny_bind (wpAny_runValue (codeAny_builtin F.entry_proto_collect ?_))
  rw [Around.under_plainId F.plain_proto_collect _]
  show wpAny _ A.in1 (newList [] >>= fun l => again (.builtin "list.__iadd__" ⟨[l, .ref I], []⟩)) _ _ s
  refine wpAny_bind (wpAny_newObj_type ?_)
  refine wpAny_pure ⟨plainId_quiet F.plain_list_iadd _, codeAny_builtin F.entry_list_iadd ?_⟩
  rw [Around.under_plainId F.plain_list_iadd _]
  show wpAny _ A.in1 (Builtin.List.listExtendWith (.ref s.heap.objs.size) (.ref I) (.ref s.heap.objs.size)) _ _ _
  unfold Builtin.List.listExtendWith
  have g1 := (N _ (List.mem_cons_of_mem _ List.mem_cons_self)).1
  generalize hH : s.heap.push { cls := .type "list", data := .seq ([] : List Value).toArray } = H
  have up : ∀ b o, s.heap.get? b = some o → H.get? b = some o := fun b o e => hH ▸ Heap.get?_push_of_some _ e
  have hT : Shared.TypeIs { s with heap := H } (.ref I) "map" := ⟨_, up _ _ g1, rfl⟩
  refine wpAny_bind (wpAny_typeOf hT ?_)
  have h1 : Builtin.List.listSameRef (.ref s.heap.objs.size) (.ref I) = false := by simp [Builtin.List.listSameRef, Ne.symm hSI]
  have h2 : (Value.type "map" == Value.type "list") = false := by decide
  have h3 : (Value.type "map" == Value.type "tuple") = false := by decide
  simp only [h1, h2, h3, Bool.or_false, Bool.false_eq_true, if_false]
  refine wpAny_bind (wpAny_pyIter_slot hT MF.slot_map_iter (wpAny_call_entry MF.slot_map_iter hT MF.entry_map_iter ?_ (MF.args_map_iter_1 _)))
  show wpAny _ _ (ret (.ref I)) _ _ _
  refine wpAny_pure ⟨_, rfl, "map", _, hT, MF.slot_map_next.lookup, ?_⟩
  refine wpAny_bind (wpAny_holding ?_)
  unfold Builtin.List.listLengthHint
  refine wpAny_bind (wpAny_specialOf hT MF.map_no_len ?_)
  show wpAny _ A.in1 (specialOf (Value.ref I) (Str.ofString "__length_hint__") >>= _) _ _ _
  refine wpAny_bind (wpAny_specialOf hT MF.map_no_hint ?_)
  refine wpAny_pure ?_
  show wpAny _ A.in1 (rule "list.extend.makes-room" >>= fun _ => Builtin.List.listTouch (.ref s.heap.objs.size) >>= fun _ =>
    again (.builtin "list.extend.loop" ⟨[.ref s.heap.objs.size, .ref I, .ref s.heap.objs.size], []⟩)) _ _ _
  refine wpAny_bind (wpAny_rule ?_)
  have hS₁ : H.get? s.heap.objs.size = some { cls := .type "list", data := .seq ([] : List Value).toArray } := hH ▸ Heap.get?_push_size _ rfl
  refine wpAny_bind ?_
  show wpAny _ A.in1 (updateSeq s.heap.objs.size (·.push .none) >>= fun _ => updateSeq s.heap.objs.size (·.pop)) _ _ _
  refine wpAny_bind (wpAny_updateSeq hS₁ rfl ?_)
  have hS₂ := Heap.get?_update_self (Obj.mapSeq (·.push Value.none)) hS₁ rfl
  refine wpAny_updateSeq hS₂ rfl ?_
  have hS₃ := Heap.get?_update_self (Obj.mapSeq (·.pop)) hS₂ rfl
  obtain ⟨c0, hS₃⟩ : ∃ c, ((H.update s.heap.objs.size (Obj.mapSeq (·.push Value.none))).update s.heap.objs.size (Obj.mapSeq (·.pop))).get? s.heap.objs.size = some (lsO #[] c) := ⟨_, hS₃⟩
  have oth : ∀ b o, s.heap.get? b = some o → ((H.update s.heap.objs.size (Obj.mapSeq (·.push Value.none))).update s.heap.objs.size (Obj.mapSeq (·.pop))).get? b = some o :=
    fun b o e => by
      have hb : s.heap.objs.size ≠ b := fun q => Nat.lt_irrefl _ (q ▸ Heap.lt_size e)
      exact (Heap.get?_update_other _ _ hb).trans ((Heap.get?_update_other _ _ hb).trans (up b o e))
  have hn0 : h₀.get? s.heap.objs.size = none := Heap.get?_none_of_le (Nat.le_trans F₁.above (Nat.le_of_lt F₁.ns.lt))
  have hSL : s.heap.objs.size ≠ L := Nat.ne_of_gt F₁.ns.lt
  refine wpAny_pure ⟨plainId_quiet F.plain_extend_loop _, map_loop (k := k) (ex := ex) hh hd hex ⟨Ne.symm (lt _ List.mem_cons_self), hSI, lt _ (List.mem_cons_of_mem _ (List.mem_cons_of_mem _ List.mem_cons_self)), lt _ (List.mem_cons_of_mem _ (List.mem_cons_of_mem _ (List.mem_cons_of_mem _ List.mem_cons_self)))⟩
    (fun q hq => lt q (List.mem_cons_of_mem _ (List.mem_cons_of_mem _ (List.mem_cons_of_mem _ (List.mem_cons_of_mem _ hq))))) hn hcall arr.size 0 _ #[] c0 rfl (Nat.zero_le _) ⟨F₁.keeps oth, o, ho, ?_⟩ (ItemsOf.nil P) fun h tk acc' c' F' N' ha' => ?_⟩
  · intro q hq
    by_cases hqS : q.1 = s.heap.objs.size
    · simp only [List.mem_cons] at hq
      rcases hq with h | h | h | h | h | h
      · exact absurd hqS (lt q (by simp [h]))
      · exact absurd hqS (lt q (by simp [h]))
      · exact absurd hqS (lt q (by simp [h]))
      · exact absurd hqS (lt q (by simp [h]))
      · subst h; exact ⟨hS₃, hSL, hn0⟩
      · exact absurd hqS (lt q (by simp [h]))
    · have h0 : q ∈ ((it, o) :: (I, mapO TI f) :: (TI, tup1 (.ref it)) :: (l, W.listOf arr k) :: ex) := by
        simp only [List.mem_cons] at hq ⊢
        rcases hq with h | h | h | h | h | h
        · exact .inl h
        · exact .inr (.inl h)
        · exact .inr (.inr (.inl h))
        · exact .inr (.inr (.inr (.inl h)))
        · exact absurd (by rw [h]) hqS
        · exact .inr (.inr (.inr (.inr h)))
      exact ⟨oth _ _ (N q h0).1, (N q h0).2⟩
  · show wpAny _ A (load s.heap.objs.size >>= _) _ _ _
    refine wpAny_bind (wpAny_load (N' _ List.mem_cons_self).1 ?_)
    exact wpAny_pure (hQ h tk acc' F' (fun q hq => N' q (List.mem_cons_of_mem _ hq)) ha')

theorem tup_map {I TI it l : Addr} {f : Value} {arr : Array Value} {k : Nat} {ex : List (Addr × Obj)} {P : Nat → Value → Prop} {Q : Value → Shared → Prop} (hh : A.handled = none)
    (hd : I ≠ it ∧ TI ≠ it ∧ l ≠ it) (hex : ∀ q ∈ ex, q.1 ≠ it) (hn : arr.size ≤ sizeLine)
    (hcall : ∀ i x, arr[i]? = some x → ∀ (s' : Shared) (Q' : Value → Shared → Prop) E' nw, Fr h₀ L s'.heap m → News h₀ L s'.heap nw → (∀ v h tk, P i v → Fr h₀ L h m → News h₀ L h nw → Q' v { s' with heap := h, toks := tk }) → wpAny (model prog w) A.in1.in1.in1.in1 (call f [x]) Q' E' s')
    (J : MapAt h₀ L m I TI it l f arr k 0 ex s.heap)
    (hQ : ∀ D h tk acc, (∀ q ∈ ex, q.1 < D) → Fr h₀ L h m → News h₀ L h ((D, { cls := .type "tuple", data := .seq acc }) :: ex) → ItemsOf P acc arr.size → Q (.ref D) { s with heap := h, toks := tk }) :
    wpAny (model prog w) A (call (.type "tuple") [.ref I]) Q E s := by
  obtain ⟨F₁, o, ho, N⟩ := id J
  have hT : s.TypeIs (.ref I) "map" := ⟨_, (N _ (List.mem_cons_of_mem _ List.mem_cons_self)).1, rfl⟩
  refine callType_codes (Q₁ := fun obj s₁ => s₁.TypeIs obj "tuple" ∧ Q obj s₁) F.called_tuple (F.typeCall_tuple_1 _) F.entry_object_init ?_ fun obj s₁ h₁ => ?_
  · refine codeAny_of_tree ?_
    show wpAny _ A.in1.in1 (do checkBuiltinCall "tuple.__new__" ⟨[.type "tuple", .ref I], []⟩; again (.builtin "tuple.__new__" ⟨[.type "tuple", .ref I], []⟩)) _ _ s
    refine wpAny_bind (wpAny_of_eq (F.newCall_tuple_1 _) (wpAny_pure ⟨plainId_quiet F.plain_tuple_new _, codeAny_builtin F.entry_tuple_new ?_⟩))
    rw [Around.under_plainId F.plain_tuple_new _]
    have hsub := sub_tuple_self
    have hinit := init_tuple_lookup
    have hmh := madeHere_tuple
    wp_walk using wpAny_typeOf hT, map_collect (A := A.in1.in1) hh hd hex hn hcall J
    intro h tk acc F' N' hacc
    show wpAny _ _ (Builtin.Tuple.tupleExact acc.toList.toArray >>= fun v => ret v) _ _ _
    unfold Builtin.Tuple.tupleExact
    refine wpAny_bind (wpAny_newObj_type ?_ (by show acc.toList.toArray.size ≤ sizeLine; simp only [Array.toArray_toList]; rw [hacc.1]; exact hn))
    refine wpAny_pure ?_
    have e : acc.toList.toArray = acc := by simp
    rw [e]
    refine ⟨⟨_, Heap.get?_push_size _ rfl, rfl⟩, hQ _ _ _ acc (fun q hq => Heap.lt_size (N' q hq).1) (F'.keeps fun b o e => Heap.get?_push_of_some _ e) ?_ hacc⟩
    intro q hq
    rcases List.mem_cons.mp hq with rfl | hq
    · exact ⟨Heap.get?_push_size _ rfl, Nat.ne_of_gt F'.ns.lt, Heap.get?_none_of_le (Nat.le_trans F'.above (Nat.le_of_lt F'.ns.lt))⟩
    · exact ⟨Heap.get?_push_of_some _ (N' q hq).1, (N' q hq).2⟩
  · exact ⟨h₁.1, F.args_object_init_2 obj _, object_init_meets F.called_tuple.init.lookup F.called_tuple.made (by decide) prog w A.in1 _ s₁ ⟨h₁.1, rfl, h₁.2⟩⟩
theorem call_map {l : Addr} {f : Value} {arr : Array Value} {k : Nat} {news : List (Addr × Obj)} {Q : Value → Shared → Prop} (F₁ : Fr h₀ L s.heap m) (N : News h₀ L s.heap news) (hl : (l, W.listOf arr k) ∈ news)
    (hQ : ∀ I TI it h, I ≠ it ∧ TI ≠ it ∧ l ≠ it → (∀ q ∈ news, q.1 ≠ it) → MapAt h₀ L m I TI it l f arr k 0 news h → Q (.ref I) { s with heap := h }) :
    wpAny (model prog w) A (call (.type "map") [f, .ref l]) Q E s := by
  have hls : s.heap.IsList l arr := isL_of N hl
  refine callType_new MF.called_map (by decide) (MF.typeCall_map_2 _ _) (MF.newCall_map_2 _ _) (fun obj => F.args_object_init_3 obj _ _) MF.entry_map_new (meets_map_new f l arr) ⟨hls, ?_⟩
  have z1 : (mapH1 s.heap l).objs.size = s.heap.objs.size + 1 := Heap.size_push ..
  have z2 : (mapH2 s.heap l).objs.size = s.heap.objs.size + 2 := by rw [Heap.size_push, z1]
  have g3 : (mapH3 s.heap f l).get? (mapH2 s.heap l).objs.size = some _ := Heap.get?_push_size _ rfl
  have g2 : (mapH3 s.heap f l).get? (mapH1 s.heap l).objs.size = some _ := Heap.get?_push_of_some _ (Heap.get?_push_size _ rfl)
  have g1 : (mapH3 s.heap f l).get? s.heap.objs.size = some _ := Heap.get?_push_of_some _ (Heap.get?_push_of_some _ (Heap.get?_push_size _ rfl))
  have up : ∀ b o, s.heap.get? b = some o → (mapH3 s.heap f l).get? b = some o := fun b o e => Heap.get?_push_of_some _ (Heap.get?_push_of_some _ (Heap.get?_push_of_some _ e))
  have ltn : ∀ q ∈ news, q.1 < s.heap.objs.size := fun q hq => Heap.lt_size (N q hq).1
  have hn0 : ∀ b, s.heap.objs.size ≤ b → h₀.get? b = none := fun b hb => Heap.get?_none_of_le (Nat.le_trans (Nat.le_trans F₁.above (Nat.le_of_lt F₁.ns.lt)) hb)
  refine ⟨⟨_, g3, rfl⟩, hQ _ (mapH1 s.heap l).objs.size s.heap.objs.size _ ⟨?_, ?_, Nat.ne_of_lt (ltn _ hl)⟩ (fun q hq => Nat.ne_of_lt (ltn q hq)) ⟨F₁.keeps up, { cls := .type "list_iterator", data := .fields #[.ref l, .int 0 0] }, ⟨rfl, rfl⟩, ?_⟩⟩
  · rw [z2]; refine neN ?_; omega
  · rw [z1]; refine neN ?_; omega
  · intro q hq
    have bigL : ∀ b, s.heap.objs.size ≤ b → b ≠ L := fun b hb e => Nat.lt_irrefl _ (Nat.lt_of_lt_of_le F₁.ns.lt (e ▸ hb))
    rcases List.mem_cons.mp hq with rfl | hq
    · exact ⟨g1, bigL _ (Nat.le_refl _), hn0 _ (Nat.le_refl _)⟩
    rcases List.mem_cons.mp hq with rfl | hq
    · exact ⟨g3, bigL _ (by rw [z2]; exact Nat.le_add_right _ _), hn0 _ (by rw [z2]; exact Nat.le_add_right _ _)⟩
    rcases List.mem_cons.mp hq with rfl | hq
    · exact ⟨g2, bigL _ (by rw [z1]; exact Nat.le_add_right _ _), hn0 _ (by rw [z1]; exact Nat.le_add_right _ _)⟩
    rcases List.mem_cons.mp hq with rfl | hq
    · exact ⟨up _ _ (N _ hl).1, (N _ hl).2⟩
    exact ⟨up _ _ (N q hq).1, (N q hq).2⟩
end
end Mine

end
noncomputable section
open PySem PySem.W PyProof.Rows PyProof.Rows.LCg PySem.Calls PySem.Spec Mine
namespace Mine
noncomputable def SrcT (h₀ : Heap) (ax : Addr) (its : Array Value) (news : List (Addr × Obj)) : Prop := h₀.IsTuple ax its ∨ ∃ o, (ax, o) ∈ news ∧ o.cls = .type "tuple" ∧ ∃ n, o.data = .seq its n
section
variable {prog : Program} {w : World} {A : Around} {E : Value → Shared → Prop} {s : Shared} {h₀ : Heap} {L : Addr} {m : Str → Option Value} {env : Env}
theorem SrcT.tup {h : Heap} {ax : Addr} {its : Array Value} {news : List (Addr × Obj)} (x : SrcT h₀ ax its news) (k : ∀ b o, h₀.get? b = some o → h.get? b = some o) (N : News h₀ L h news) : h.IsTuple ax its := by
  rcases x with ⟨o, e, r⟩ | ⟨o, hm, r⟩
  · exact ⟨o, k _ _ e, r⟩
  · exact ⟨o, (N _ hm).1, r⟩
theorem tup_st {ax I : Addr} {its : Array Value} : ∀ i (h h' : Heap) (o : Obj) (nw : List (Addr × Obj)), (h.IsTupleIter I ax i ∧ h.IsTuple ax its) → h.get? I = some o → h'.get? I = some o → (∀ b o, h₀.get? b = some o → h'.get? b = some o) → News h₀ L h' nw → SrcT h₀ ax its nw → (h'.IsTupleIter I ax i ∧ h'.IsTuple ax its) :=
  fun i h h' o nw st e e' k N S => ⟨by obtain ⟨o', q, r⟩ := st.1; rw [e] at q; cases q; exact ⟨o, e', r⟩, S.tup k N⟩
noncomputable def SrcTAt (prog : Program) (w : World) (A : Around) (h₀ : Heap) (L : Addr) (m : Str → Option Value) (env : Env) (elt : PySem.Expr) (x : Str) (scope : Scope) (cl : List (Str × Addr)) (Fin : Shared → List Value → List (Addr × Obj) → Prop) (xv : Value) (s₁ : Shared) : Prop :=
  ∃ ax its news, xv = .ref ax ∧ A.handled = none ∧ Fr h₀ L s₁.heap m ∧ News h₀ L s₁.heap news ∧ SrcT h₀ ax its news ∧ its.size ≤ sizeLine ∧
    ∀ s₂ : Shared, (∃ h, s₂ = { s₁ with heap := h }) → CompRest prog w A h₀ L m env elt x scope cl s₂ (SrcT h₀ ax its) (fun i v => its[i]? = some v) (Fin s₂) its.size 0 [] news
theorem SrcTAt.intro {elt : PySem.Expr} {x : Str} {scope : Scope} {cl : List (Str × Addr)} {Fin : Shared → List Value → List (Addr × Obj) → Prop} {ax : Addr} {its : Array Value} {k : Nat} {news : List (Addr × Obj)} {s₁ : Shared}
    (hh : A.handled = none) (F : Fr h₀ L s₁.heap m) (N : News h₀ L s₁.heap news) (hm : (ax, ({ cls := .type "tuple", data := .seq its k } : Obj)) ∈ news) (hsz : its.size ≤ sizeLine)
    (h : ∀ g, CompRest prog w A h₀ L m env elt x scope cl { s₁ with heap := g } (SrcT h₀ ax its) (fun i v => its[i]? = some v) (Fin { s₁ with heap := g }) its.size 0 [] news) :
    SrcTAt prog w A h₀ L m env elt x scope cl Fin (.ref ax) s₁ := ⟨ax, its, news, rfl, hh, F, N, .inr ⟨_, hm, rfl, _, rfl⟩, hsz, fun _ ⟨g, e⟩ => e ▸ h g⟩
theorem Assign_T {elt iter : PySem.Expr} {x y : Str} {px py : Pos} {scope : Scope} {cl : List (Str × Addr)} {pos spos : Pos} {Q : Flow → Shared → Prop} (F₀ : Fr h₀ L s.heap m) (hLe : env.locals = L)
    (hsw : swapsWith (.ListComp elt [⟨.Name x px, iter, [], 0⟩] scope pos) (some (.Name y py)) spos.line env = pure true)
    (hclos : closureFor scope env = pure cl) (hcell : ∀ z ∈ scope.names, z.2 ≠ .cell) (hkind : scope.kind = .function)
    (hnames : ∀ z ∈ scope.names, z.2 = .local → scope.names.lookup z.1 = some .local) (hx : scope.names.lookup x = some .local)
    (hy : env.kindOf y = some .local) (hp : (env.scope.kind == .class || (env.scope.kind == .module && env.locals != env.globals)) = false)
    (h : wpAny (model prog w) A (eval iter env) (SrcTAt prog w A h₀ L m env elt x scope cl (fun s₂ => FinA h₀ L m s₂ y Q)) E s)
    (hs : ∀ x, foldedSetIterable iter env x = pure x := by intro _; rfl) :
    wpAny (model prog w) A (exec (.Assign [.Name y py] (.ListComp elt [⟨.Name x px, iter, [], 0⟩] scope pos) spos) env) Q E s := by
  subst hLe
  rw [exec_Assign_Name_used _ _ _ _ hsw]
  refine wpAny_bind (wpAny_standAt (wpAny_bind ?_))
  show wpAny _ A (do let _ ← comprehension (.ListComp elt [⟨.Name x px, iter, [], 0⟩] scope pos) scope env _ (newList []) false (eval iter env) (some (assign (.Name y py) env))) _ _ s
  refine wpAny_bind (wpAny_mono (wpAny_comprehension_free (use := some (assign (.Name y py) env)) (Q := fun _ s' => Q .next s') rfl hs hclos hkind hnames
    (wpAny_mono h (fun xv s₁ h₁ => ?_) fun _ _ e => e)) (fun _ s' hq => wpAny_pure (wpAny_pure hq)) fun _ _ e => e)
  obtain ⟨ax, its, news, rfl, hh, F, N, S, hsz, R⟩ := h₁
  have hl := S.tup F.keep N
  have hlt : ax < s₁.heap.objs.size := by obtain ⟨_, e, _⟩ := hl; exact Heap.lt_size e
  refine wpAny_pyIter_tuple hl ?_
  have up : ∀ b o, s₁.heap.get? b = some o → (s₁.heap.push { cls := .type "tuple_iterator", data := .fields #[.ref ax, .int 0 0] }).get? b = some o := fun b o e => Heap.get?_push_of_some _ e
  refine block_U (Walks.tuple hh s₁.heap.objs.size ax (Nat.ne_of_lt hlt) its) hsz (fun i h st => by obtain ⟨o, e, _⟩ := st.1; exact ⟨o, e⟩) tup_st hcell hkind hx ⟨⟨_, Heap.get?_push_size _ rfl, rfl, rfl⟩, hl.at fun o e => Heap.get?_push_of_some _ e⟩ (fun b hb => ?_)
    (F.keeps up) (N.grown up) (Nat.ne_of_lt F.ns.lt) (next_is_new F) (fun p hp => Nat.ne_of_lt (Heap.lt_size (N p hp).1)) S (R _ ⟨_, rfl⟩) ?_
  · show b < (s₁.heap.push _).objs.size
    rw [Heap.size_push]
    rcases List.mem_cons.mp hb with rfl | hb
    · exact Nat.lt_succ_self _
    · rw [List.mem_singleton.mp hb]; exact Nat.lt_succ_of_lt hlt
  · intro D C h' tk m' ys news' F' N' o1 hn hC₀ hD₀ hCL hDL hCD offC fin
    show wpAny _ A (assign (.Name y py) env (.ref D)) _ _ _
    refine wpAny_assign_Name (wpAny_storeName_local hy F'.ns (fun h₂ hn₂ hs₂ => ?_) hp)
    have hL₀ : h₀.get? env.locals = none := Heap.get?_none_of_le F'.above
    have F₂ : Fr h₀ env.locals h₂ (fun z => if z = y then some (.ref D) else m z) := ⟨hn₂, fun b o e => hs₂.extBut b o (fun q => by rw [q, hL₀] at e; cases e) (F'.keep b o e), F'.above⟩
    refine ⟨m', hn.sameBut hs₂ hCL, fun h'' hs'' => fin D h'' _ (F₂.change hs'' hCL hC₀) (fun p hp => ?_) o1⟩
    have z : h₂.get? p.1 = some p.2 := hs₂.extBut _ _ (N' p hp).2.1 (N' p hp).1
    refine ⟨hs''.extBut _ _ ?_ z, (N' p hp).2⟩
    rcases List.mem_cons.mp hp with rfl | hp
    · exact Ne.symm hCD
    · exact offC p hp
theorem comp_end {I C D : Addr} {s₁ : Shared} {oI oC oD : Obj} {S : List (Addr × Obj) → Prop} {rest : Value → List (Addr × Obj) → Prop} {y : Value} {h' hb : Heap} {tk : Nat} {x : Addr × Obj} {news : List (Addr × Obj)}
    (F : Fr h₀ L h' m) (N : News h₀ L h' (x :: (I, oI) :: (C, oC) :: (D, oD) :: news)) (Nb : News h₀ L hb ((I, oI) :: (C, oC) :: (D, oD) :: news)) (hx : x.1 = hb.objs.size) (off : Off3 I C D news) (hS : S (x :: news)) (r : rest y (x :: news)) :
    CompEnd h₀ L m s₁ I oI C oC D oD S rest y { s₁ with heap := h', toks := tk } := by
  have lt : ∀ q ∈ (I, oI) :: (C, oC) :: (D, oD) :: news, x.1 ≠ q.1 := fun q hq e => Nat.lt_irrefl _ ((hx ▸ e : hb.objs.size = q.1) ▸ Heap.lt_size (Nb q hq).1)
  refine CompEnd.intro F N (x :: news) (fun p hp => ?_) (Off3.of fun p hp => ?_) hS r
  · simp only [List.mem_cons] at hp ⊢
    rcases hp with h | h | h | h | h
    · exact .inr (.inl h)
    · exact .inr (.inr (.inl h))
    · exact .inr (.inr (.inr (.inl h)))
    · exact .inl h
    · exact .inr (.inr (.inr (.inr h)))
  · rcases List.mem_cons.mp hp with rfl | hp
    · exact ⟨lt _ List.mem_cons_self, lt _ (List.mem_cons_of_mem _ List.mem_cons_self), lt _ (List.mem_cons_of_mem _ (List.mem_cons_of_mem _ List.mem_cons_self))⟩
    · exact off.mem p hp
theorem comp_end0 {I C D : Addr} {s₁ : Shared} {oI oC oD : Obj} {S : List (Addr × Obj) → Prop} {rest : Value → List (Addr × Obj) → Prop} {y : Value} {h' : Heap} {tk : Nat} {news : List (Addr × Obj)}
    (F : Fr h₀ L h' m) (N : News h₀ L h' ((I, oI) :: (C, oC) :: (D, oD) :: news)) (off : Off3 I C D news) (hS : S news) (r : rest y news) :
    CompEnd h₀ L m s₁ I oI C oC D oD S rest y { s₁ with heap := h', toks := tk } := CompEnd.intro F N news (fun p hp => hp) off hS r
end
end Mine

end
noncomputable section
open PySem PySem.W PyProof.Rows PyProof.Rows.LCg PySem.Calls PySem.Spec Mine
namespace Mine
theorem pick1 {α : Type} (f : Nat → Nat) (x : α) : pickOrder f #[x] = #[x] := by
  have h : ∀ n, n = 0 → (match ([x] : List α)[n]? with | some y => pickOrder.go f 0 1 (([x] : List α).eraseIdx n) ((#[] : Array α).push y) | none => (#[] : Array α)) = #[x] := by rintro n rfl; rfl
  exact h _ (Nat.mod_one _)
namespace F9
theorem owner_si : Manifest.owners.lookup (String.ofList ['r', 'o', 't', 'a', 'r', 'e', 't', 'i', '_', 't', 'e', 's'].reverse) = some Manifest.sig_set_iterator := by kernel_rfl
theorem slot_next : Slot "set_iterator" "__next__" "set_iterator.__next__" :=
  .of (owner := "set_iterator") (n := "__next__") (by rw [typeLookup_type, builtinLookup_eq_fast]; kernel_rfl) (by decide +kernel) (by decide +kernel) (by decide +kernel)
    (by first | exact .inl (by decide +kernel) | exact .inr (by decide +kernel)) (by rw [isSubtype_type]; kernel_rfl)
theorem entry_next : entryFor table "set_iterator.__next__" = some Builtin.«set_iterator.__next__» := entryFor_of_tree (by kernel_rfl)
theorem args_next (a : Value) : argsOk "set_iterator.__next__" ⟨[a], []⟩ := by
  unfold argsOk; rw [signature?_of (id := "set_iterator.__next__") (n := ['_', '_', 't', 'x', 'e', 'n', '_', '_']) (o := ['r', 'o', 't', 'a', 'r', 'e', 't', 'i', '_', 't', 'e', 's']) (by kernel_rfl) owner_si]; kernel_rfl
end F9
section
variable {prog : Program} {w : World} {A : Around} {E : Value → Shared → Prop} {s : Shared} {h₀ : Heap} {L : Addr} {m : Str → Option Value} {env : Env}
theorem typeIs_bool' (s : Shared) (b : Bool) : s.TypeIs (.bool b) "bool" := rfl
theorem pyHash_true {Q : Int → Shared → Prop} (h : Q 1 { s with toks := s.toks + 1 }) : wpAny (model prog w) A (pyHash (.bool true)) Q E s := by
  unfold pyHash
  have hv : [Value.bool true].any Value.onHeap = false := rfl
  refine wpAny_bind ?_
  rw [cRoomFor, if_neg (by rw [hv]; exact Bool.false_ne_true)]; refine wpAny_pure ?_
  refine wpAny_bind (wpAny_specialOf (typeIs_bool' s true) F.slot_bool_hash.lookup ?_)
  show wpAny _ _ (if (some (Value.builtin "int.__hash__") == some Value.none) = true then _ else _) Q E s
  rw [if_neg (by rw [beq_builtin_none]; exact Bool.false_ne_true)]
  refine wpAny_bind (wpAny_specialOf (typeIs_bool' s true) F.slot_bool_hash.lookup ?_)
  show wpAny _ _ (callSpecialIfBoundUnlessNone? (.bool true) "__hash__" _ >>= _) Q E s
  refine wpAny_bind (wpAny_callSpecialIfBoundUnlessNone?_slot (typeIs_bool' s true) F.slot_bool_hash
    (wpAny_call_entry F.slot_bool_hash (typeIs_bool' s true) F.entry_int_hash
      (show wpAny _ _ (do ret (← mkInt (rawHash 1))) _ _ s from wpAny_ret_mkInt ?_) (F.args_int_hash_1 _)))
  exact wpAny_pure h
noncomputable abbrev T1 (b : Bool) : SetTable := { mask := 7, place := #[1], dummies := #[], finger := 0, led := b, moves := 0, plain := true }
noncomputable abbrev oSet0 (b : Bool) : Obj := { cls := .type "set", dict := none, data := .set #[] 0 (.fresh 0 0 b) }
noncomputable abbrev oSet1 (b : Bool) : Obj := { cls := .type "set", dict := none, data := .set #[(1, .bool true)] 1 (T1 b) }
theorem set_add_first {a : Addr} {b : Bool} {Q : Value → Shared → Prop} (hS : s.heap.get? a = some (oSet0 b))
    (h : ∀ h', h'.get? a = some (oSet1 b) → Heap.SameBut a s.heap h' → Q .none { s with heap := h', toks := s.toks + 1 }) :
    wpAny (model prog w) A (call (.builtin "set.add") [.ref a, .bool true]) Q E s := by
  have hT : s.TypeIs (.ref a) "set" := ⟨_, hS, rfl⟩
  refine wpAny_call_entry F.slot_set_add hT F.entry_set_add ?_ (F.args_set_add_2 _ _)
  unfold Builtin.«set.add» Builtin.Frozenset.oneOther
  simp only [List.isEmpty_nil, bind_assoc]
  unfold Builtin.Frozenset.addrOf setAdd
  refine wpAny_bind (wpAny_pure ?_)
  try dsimp only
  refine wpAny_bind (wpAny_pure ?_)
  try dsimp only
  refine wpAny_bind ?_
  refine wpAny_holding ?_
  refine wpAny_bind (pyHash_true ?_)
  unfold setAddHashed setAddHashedIn
  refine wpAny_holding (wpAny_bind (wpAny_setState_of (s := { s with toks := s.toks + 1 }) hS rfl rfl ?_))
  dsimp only
  rw [show byScan (Value.bool true) #[] = true from by decide +kernel]
  simp only [↓reduceIte]
  unfold setAddByScan
  refine wpAny_bind ?_
  refine wpAny_bind (wpAny_rule ?_)
  unfold setScan
  dsimp only
  unfold setScanFrom
  refine wpAny_bind (wpAny_pure ?_)
  dsimp only
  have hl : layNew (SetTable.fresh 0 0 b) #[] 1 (.bool true) = (#[(1, .bool true)], T1 b, false, false) := by cases b <;> decide +kernel
  rw [hl]
  dsimp only
  refine wpAny_bind (wpAny_pure ?_)
  simp only [if_true]
  refine wpAny_bind (wpAny_pure ?_)
  simp only [if_true]
  refine wpAny_bind (wpAny_storeSet_of (s := { s with toks := s.toks + 1 }) hS rfl ?_)
  rw [show SetTable.tooFull (T1 b) = false from by cases b <;> decide +kernel]
  simp only [Bool.and_false, Bool.false_eq_true, if_false]
  exact wpAny_pure (wpAny_pure (wpAny_pure ⟨_, rfl, h _ (Heap.get?_update_self _ hS rfl) (Heap.SameBut.update ..)⟩))
theorem set_add_again {a : Addr} {b : Bool} {Q : Value → Shared → Prop} (hS : s.heap.get? a = some (oSet1 b))
    (h : Q .none { s with toks := s.toks + 1 }) :
    wpAny (model prog w) A (call (.builtin "set.add") [.ref a, .bool true]) Q E s := by
  have hT : s.TypeIs (.ref a) "set" := ⟨_, hS, rfl⟩
  refine wpAny_call_entry F.slot_set_add hT F.entry_set_add ?_ (F.args_set_add_2 _ _)
  unfold Builtin.«set.add» Builtin.Frozenset.oneOther
  simp only [List.isEmpty_nil, bind_assoc]
  unfold Builtin.Frozenset.addrOf setAdd
  refine wpAny_bind (wpAny_pure ?_)
  try dsimp only
  refine wpAny_bind (wpAny_pure ?_)
  try dsimp only
  refine wpAny_bind ?_
  refine wpAny_holding ?_
  refine wpAny_bind (pyHash_true ?_)
  unfold setAddHashed setAddHashedIn
  refine wpAny_holding (wpAny_bind (wpAny_setState_of (s := { s with toks := s.toks + 1 }) hS rfl rfl ?_))
  dsimp only
  rw [show byScan (Value.bool true) #[(1, Value.bool true)] = true from by decide +kernel]
  simp only [↓reduceIte]
  unfold setAddByScan
  refine wpAny_bind ?_
  refine wpAny_bind (wpAny_rule ?_)
  unfold setScan
  dsimp only
  unfold setScanFrom
  rw [if_pos (by decide)]
  refine wpAny_bind (wpAny_bind (wpAny_setEpoch_of (s := { s with toks := s.toks + 1 }) hS rfl rfl ?_))
  unfold eqBool
  refine wpAny_bind (wpAny_holding ?_)
  rw [if_pos (by decide)]
  refine wpAny_bind (wpAny_rule (wpAny_pure ?_))
  simp only [Bool.and_self, if_true]
  refine wpAny_pure ?_
  dsimp only
  refine wpAny_pure (wpAny_pure (wpAny_pure ⟨_, rfl, h⟩))
theorem entry_set_iter : entryFor table "set.__iter__" = some Builtin.«frozenset.__iter__» :=
  entryFor_alias (id' := "frozenset.__iter__") (by kernel_rfl) rfl (by decide +kernel) (by kernel_rfl)
noncomputable abbrev setItO (a : Addr) (j i : Int) : Obj := { cls := .type "set_iterator", data := .fields #[.int j 0, .int i 0, .ref a, .int 1 0, .int 1 0] }
theorem pyIter_set1 {a : Addr} {b : Bool} {Q : Value → Shared → Prop} (hS : s.heap.get? a = some (oSet1 b))
    (h : Q (.ref s.heap.objs.size) { s with heap := s.heap.push (setItO a 0 0) }) :
    wpAny (model prog w) A (pyIter (.ref a)) Q E s := by
  have hT : s.TypeIs (.ref a) "set" := ⟨_, hS, rfl⟩
  refine wpAny_pyIter_slot hT F.slot_set_iter (wpAny_call_entry F.slot_set_iter hT entry_set_iter ?_ (F.args_set_iter_1 _))
  unfold Builtin.«frozenset.__iter__»
  refine wpAny_bind (show wpAny _ _ (pure a) _ _ _ from wpAny_pure ?_)
  refine wpAny_bind ?_
  unfold Builtin.Frozenset.sizeOf setEntries
  refine wpAny_bind (wpAny_bind (wpAny_setState_of hS rfl rfl (wpAny_pure (wpAny_pure ?_))))
  refine wpAny_bind ?_
  unfold setDrawn
  refine wpAny_bind (wpAny_setState_of hS rfl rfl ?_)
  dsimp only
  unfold setsByText
  refine wpAny_bind (wpAny_bind (wpAny_askSetting (wpAny_pure ?_)))
  refine wpAny_pure ?_
  show wpAny _ _ (if (!(w.params.followText "set-order") && false) = true then _ else _) _ _ _
  simp only [Bool.and_false, Bool.false_eq_true, if_false]
  refine wpAny_bind (wpAny_pure ?_)
  refine wpAny_bind (wpAny_setEpoch_of hS rfl rfl ?_)
  refine wpAny_bind (wpAny_newObj_type ?_)
  refine wpAny_pure ⟨_, rfl, "set_iterator", _, ⟨_, Heap.get?_push_size _ rfl, rfl⟩, F9.slot_next.lookup, h⟩
theorem next_set1 {a it : Addr} {b : Bool} {Q : Option Value → Shared → Prop} (hb : b = !w.params.followText "set-order") (hne : a ≠ it) (hS : s.heap.get? a = some (oSet1 b)) (hI : s.heap.get? it = some (setItO a 0 0))
    (h : ∀ j h', h'.get? it = some (setItO a j 1) → (j = 0 ∨ j = 2) → (j = 0 ↔ w.params.followText "set-order" = true) → Heap.SameBut it s.heap h' → Q (some (.bool true)) { s with heap := h' }) :
    wpAny (model prog w) A (pyNext (.ref it)) Q E s := by
  have hT : s.TypeIs (.ref it) "set_iterator" := ⟨_, hI, rfl⟩
  unfold pyNext
  refine wpAny_bind (wpAny_attempt (wpAny_callSpecial?_slot (name := Str.ofString "__next__") hT F9.slot_next
    (wpAny_call_entry F9.slot_next hT F9.entry_next ?_ (F9.args_next _))))
  unfold Builtin.«set_iterator.__next__»
  show wpAny _ _ (fieldsOf (.ref it) >>= _) _ _ _
  unfold fieldsOf
  refine wpAny_bind (wpAny_bind (wpAny_load hI (wpAny_pure ?_)))
  dsimp only
  unfold setEntries
  refine wpAny_bind (wpAny_bind (wpAny_setState_of hS rfl rfl (wpAny_pure ?_)))
  dsimp only
  rw [if_neg (by decide)]
  unfold setNext
  refine wpAny_bind (wpAny_bind (wpAny_setState_of hS rfl rfl ?_))
  dsimp only
  unfold setsByText
  refine wpAny_bind (wpAny_bind (wpAny_askSetting (wpAny_pure ?_)))
  have nxt : ∀ (j : Nat) (P : PySem.Fin → Shared → Prop) (E' : Value → Shared → Prop), (∀ h', h'.get? it = some (setItO a (j : Int) 1) → Heap.SameBut it s.heap h' → P (.done (.ret (.bool true))) { s with heap := h' }) →
      wpAny (model prog w) A.in1 (do setField (.ref it) 0 (rawInt (j : Int)); setField (.ref it) 1 (rawInt (0 + 1)); ret (.bool true)) P E' s := by
    intro j P E' hP
    refine wpAny_bind (wpAny_setField_rec hI (by simp) fun h₁ hI₁ hs₁ => ?_)
    refine wpAny_bind (wpAny_setField_rec hI₁ (by simp) fun h₂ hI₂ hs₂ => ?_)
    exact wpAny_pure (hP h₂ hI₂ (hs₁.trans hs₂))
  by_cases hft : w.params.followText "set-order" = true
  · show wpAny _ _ (if w.params.followText "set-order" = true then _ else _) _ _ _
    rw [if_pos hft]
    rw [if_neg (by decide)]
    unfold setWalk
    refine wpAny_bind (wpAny_bind (wpAny_setState_of hS rfl rfl ?_))
    unfold setsByText
    refine wpAny_bind (wpAny_bind (wpAny_askSetting (wpAny_pure ?_)))
    show wpAny _ _ (if w.params.followText "set-order" = true then _ else _) _ _ _
    rw [if_pos hft]
    refine wpAny_bind (wpAny_askSetting (wpAny_pure ?_))
    refine wpAny_pure ?_
    have hp : pickOrder (w.params.setOrder a 1) #[((1 : Int), Value.bool true)] = #[(1, .bool true)] := pick1 _ _
    show wpAny _ _ (match Option.map (fun e : Int × Value => (e.2, 0)) (pickOrder (w.params.setOrder a 1) #[((1 : Int), Value.bool true)])[0]? with | some (x, next) => _ | none => _) _ _ _
    rw [hp]
    refine nxt 0 _ _ fun h' hI' hs' => ⟨_, rfl, wpAny_pure (h 0 h' hI' (.inl rfl) ⟨fun _ => hft, fun _ => rfl⟩ hs')⟩
  · show wpAny _ _ (if w.params.followText "set-order" = true then _ else _) _ _ _
    rw [if_neg hft]
    have hbt : b = true := by rw [hb]; simpa using hft
    subst hbt
    refine (show wpAny _ _ (pure (some (Value.bool true, 2))) _ _ _ from wpAny_pure ?_)
    refine nxt 2 _ _ fun h' hI' hs' => ⟨_, rfl, wpAny_pure (h 2 h' hI' (.inr rfl) ⟨fun q => absurd q (by decide), fun q => absurd q hft⟩ hs')⟩
theorem end_set1 {a it : Addr} {b : Bool} {j : Int} {Q : Option Value → Shared → Prop} (hh : A.handled = none) (hb : b = !w.params.followText "set-order") (hne : a ≠ it) (hS : s.heap.get? a = some (oSet1 b)) (hI : s.heap.get? it = some (setItO a j 1))
    (hj : j = 0 ∨ j = 2) (hj2 : j = 0 ↔ w.params.followText "set-order" = true)
    (h : ∀ h', Heap.ExtBut it s.heap h' → Q none { s with heap := h' }) :
    wpAny (model prog w) A (pyNext (.ref it)) Q E s := by
  have hT : s.TypeIs (.ref it) "set_iterator" := ⟨_, hI, rfl⟩
  unfold pyNext
  refine wpAny_bind (wpAny_attempt (wpAny_callSpecial?_slot (name := Str.ofString "__next__") hT F9.slot_next
    (wpAny_call_entry F9.slot_next hT F9.entry_next ?_ (F9.args_next _))))
  unfold Builtin.«set_iterator.__next__»
  show wpAny _ _ (fieldsOf (.ref it) >>= _) _ _ _
  unfold fieldsOf
  refine wpAny_bind (wpAny_bind (wpAny_load hI (wpAny_pure ?_)))
  dsimp only
  unfold setEntries
  refine wpAny_bind (wpAny_bind (wpAny_setState_of hS rfl rfl (wpAny_pure ?_)))
  dsimp only
  rw [if_neg (by decide)]
  unfold setNext
  refine wpAny_bind (wpAny_bind (wpAny_setState_of hS rfl rfl ?_))
  dsimp only
  unfold setsByText
  refine wpAny_bind (wpAny_bind (wpAny_askSetting (wpAny_pure ?_)))
  have nxt : ∀ (P : PySem.Fin → Shared → Prop), 
      wpAny (model prog w) A.in1 (do setField (.ref it) 2 .none; let e ← newExc (.type "StopIteration") []; raiseNew e) P (fun e s' =>
          wpAny (model prog w) A
            (do
              let __do_lift ← isInstance e (Value.type "StopIteration")
              if __do_lift = true then pure none else throw e)
            Q E s') s := by
    intro P
    refine wpAny_bind (wpAny_setField_rec hI (by simp) fun h₁ hI₁ hs₁ => ?_)
    refine wpAny_bind ?_
    simp only [newExc, newTuple]
    refine wpAny_bind (wpAny_newObj_type ?_ (by size_fits))
    refine wpAny_bind (m := firstArgMember _ _) (wpAny_of_eq (a := Value.none) (by first | rfl | (simp only [firstArgMember]; rfl)) ?_)
    refine wpAny_newObj_type ?_ (by size_fits)
    refine wpAny_raiseNew_none hh ?_
    refine wpAny_bind (wpAny_isInstance (T := "StopIteration") (b := true) ⟨_, Heap.get?_push_size _ rfl, rfl⟩ isSubtype_stop ?_)
    refine wpAny_pure (h _ fun c o hc e => Heap.get?_push_of_some _ (Heap.get?_push_of_some _ (hs₁.extBut _ _ hc e)))
  by_cases hft : w.params.followText "set-order" = true
  · obtain rfl := hj2.mpr hft
    show wpAny _ _ (if w.params.followText "set-order" = true then _ else _) _ _ _
    rw [if_pos hft]
    rw [if_neg (by decide)]
    unfold setWalk
    refine wpAny_bind (wpAny_bind (wpAny_setState_of hS rfl rfl ?_))
    unfold setsByText
    refine wpAny_bind (wpAny_bind (wpAny_askSetting (wpAny_pure ?_)))
    show wpAny _ _ (if w.params.followText "set-order" = true then _ else _) _ _ _
    rw [if_pos hft]
    refine wpAny_bind (wpAny_askSetting (wpAny_pure ?_))
    refine wpAny_pure ?_
    have hp : pickOrder (w.params.setOrder a 1) #[((1 : Int), Value.bool true)] = #[(1, .bool true)] := pick1 _ _
    show wpAny _ _ (match Option.map (fun e : Int × Value => (e.2, 0)) (pickOrder (w.params.setOrder a 1) #[((1 : Int), Value.bool true)])[1]? with | some (x, next) => _ | none => _) _ _ _
    rw [hp]
    exact nxt _
  · have hj' : j = 2 := by rcases hj with h | h; exact absurd (hj2.mp h) hft; exact h
    subst hj'
    show wpAny _ _ (if w.params.followText "set-order" = true then _ else _) _ _ _
    rw [if_neg hft]
    have hbt : b = true := by rw [hb]; simpa using hft
    subst hbt
    refine (show wpAny _ _ (pure none) _ _ _ from wpAny_pure ?_)
    exact nxt _

theorem compTurn_set1 (elt target iter : PySem.Expr) (scope : Scope) (pos : Pos) (it acc : Value) (env : Env) :
    compTurn (.SetComp elt [⟨target, iter, [], 0⟩] scope pos) 0 it acc env = (standAt iter.pos >>= fun _ => pyNext it >>= fun r => match r with
      | none => pure (.done .next)
      | some v => letOwnedTupleGo target it v >>= fun _ => assign target env v >>= fun _ =>
        (eval elt env >>= fun x => standAt elt.pos >>= fun _ => call (.builtin "set.add") [acc, x] >>= fun _ => pure ()) >>= fun _ =>
          again (.compLoop (.SetComp elt [⟨target, iter, [], 0⟩] scope pos) 0 it acc env)) := by rfl
theorem codeAny_compLoop_set {R : Result → Shared → Prop} {elt target iter : PySem.Expr} {scope : Scope} {pos : Pos} {it acc : Value} {env : Env} (I : Nat → Shared → Prop)
    (turn : ∀ n s, I n s → wpAny (model prog w) A (pyNext it) (fun r s₁ => match r with
      | none => R (.ok .next) s₁
      | some v => wpAny (model prog w) A (assign target env v) (fun _ s₂ => wpAny (model prog w) A (eval elt env) (fun x s₃ =>
          wpAny (model prog w) A (call (.builtin "set.add") [acc, x]) (fun _ s₄ => ∃ m, m < n ∧ I m s₄) (notedBy (model prog w) A env fun e s' => R (.error e) s') s₃)
          (notedBy (model prog w) A env fun e s' => R (.error e) s') s₂) (notedBy (model prog w) A env fun e s' => R (.error e) s') s₁) (notedBy (model prog w) A env fun e s' => R (.error e) s') s)
    (n : Nat) (h : I n s) (ht : ∀ v, letOwnedTupleGo target it v = pure () := by intro _; rfl) :
    codeAny (model prog w) A (.compLoop (.SetComp elt [⟨target, iter, [], 0⟩] scope pos) 0 it acc env) R s := by
  refine codeAny_loop rfl I (fun n s hI => ?_) n h
  show wpAny _ _ ((compTurn (.SetComp elt [⟨target, iter, [], 0⟩] scope pos) 0 it acc env).onRaise (fun x => do noteFrame x env; theTreesLotGoes x)) _ _ s
  refine wpAny_noted ?_
  rw [compTurn_set1]
  refine wpAny_bind (wpAny_standAt (wpAny_bind (wpAny_mono (turn n s hI) (fun r s₁ h₁ => ?_) fun _ _ h' => h')))
  cases r with
  | none => exact wpAny_pure h₁
  | some v =>
    refine wpAny_bind (wpAny_of_eq (ht v) ?_)
    exact wpAny_bind (wpAny_mono h₁ (fun _ s₂ h₂ => wpAny_bind (wpAny_bind (wpAny_mono h₂ (fun x s₃ h₃ => wpAny_bind (wpAny_standAt (wpAny_bind (wpAny_mono h₃
      (fun _ s₄ h₄ => wpAny_pure (wpAny_pure ⟨rfl, h₄⟩)) fun _ _ h' => h')))) fun _ _ h' => h'))) fun _ _ h' => h')
theorem codeAny_compStart_set {R : Result → Shared → Prop} {elt target iter ifs rest scope pos it acc env}
    (h0 : codeAny (model prog w) A (.compLoop (.SetComp elt (⟨target, iter, ifs, 0⟩ :: rest) scope pos) 0 it acc env) R s)
    (h : wpAny (model prog w) A (pyIter it) (fun it' s' => codeAny (model prog w) A (.compLoop (.SetComp elt (⟨target, iter, ifs, 0⟩ :: rest) scope pos) 0 it' acc env) R s')
      (notedBy (model prog w) A env fun x s' => R (.error x) s') s) :
    codeAny (model prog w) A (.compStart (.SetComp elt (⟨target, iter, ifs, 0⟩ :: rest) scope pos) 0 it acc env) R s := by
  refine codeAny_of_tree ?_
  show wpAny _ _ ((compStart (.SetComp elt (⟨target, iter, ifs, 0⟩ :: rest) scope pos) 0 it acc env).onRaise (fun x => do noteFrame x env; standAt theWindowsPlace)) _ _ s
  refine wpAny_notedAt ?_
  unfold compStart
  show wpAny _ _ (ask >>= _) _ _ s
  refine wpAny_bind (wpAny_askSetting (wpAny_ite ?_))
  split
  · first
      | exact wpAny_bind (wpAny_pure (wpAny_pure (And.intro rfl h0)))
      | exact wpAny_pure (And.intro rfl h0)
  · first
      | exact wpAny_bind (wpAny_rule (wpAny_bind (wpAny_standAt (wpAny_bind (wpAny_mono h (fun it' s' h' => wpAny_pure (And.intro rfl h')) fun _ _ x => x)))))
      | (refine wpAny_bind (wpAny_rule ?_); show wpAny _ _ (standAt iter.pos >>= _) _ _ s; exact wpAny_bind (wpAny_standAt (wpAny_bind (wpAny_mono h (fun it' s' h' => wpAny_pure (And.intro rfl h')) fun _ _ x => x))))
theorem cut_set {R : Result → Shared → Prop} {elt target iter : PySem.Expr} {scope : Scope} {pos : Pos} {it acc : Value} {env : Env} (I : Nat → Shared → Prop)
    (turn : ∀ n s, I n s → ∀ (E : Value → Shared → Prop) (D : Shared → Prop) (B : Value → Shared → Prop), (∀ s₁, R (.ok .next) s₁ → D s₁) → (∀ x s₄, wpAny (model prog w) A (call (.builtin "set.add") [acc, x]) (fun _ s₅ => ∃ m, m < n ∧ I m s₅) E s₄ → B x s₄) →
      wpAny (model prog w) A (pyNext it) (fun r s₁ => match r with
        | none => D s₁
        | some v => wpAny (model prog w) A (assign target env v) (fun _ s₂ => wpAny (model prog w) A (eval elt env) (fun x s₄ => B x s₄) E s₂) E s₁) E s)
    (n : Nat) (h : I n s) (ht : ∀ v, letOwnedTupleGo target it v = pure ()) : codeAny (model prog w) A (.compLoop (.SetComp elt [⟨target, iter, [], 0⟩] scope pos) 0 it acc env) R s :=
  codeAny_compLoop_set I (fun n s hI => turn n s hI _ _ _ (fun _ h => h) fun _ _ h => h) n h ht
theorem SC_true {elt iter : PySem.Expr} {x : Str} {px : Pos} {scope : Scope} {cl : List (Str × Addr)} {pos : Pos} {D : Addr} {its : Array Value} {news : List (Addr × Obj)} {Q : Value → Shared → Prop} (_F : Fr h₀ L s.heap m) (_N : News h₀ L s.heap news)
    (hh : A.handled = none) (hD : (D, ({ cls := .type "tuple", data := .seq its } : Obj)) ∈ news) (h1 : 0 < its.size)
    (hclos : closureFor scope env = pure cl) (hcell : ∀ y ∈ scope.names, y.2 ≠ .cell) (hkind : scope.kind = .function) (hnames : ∀ x ∈ scope.names, x.2 = .local → scope.names.lookup x.1 = some .local)
    (hx : scope.names.lookup x = some .local) (hs : ∀ x, foldedSetIterable iter env x = pure x)
    (src : wpAny (model prog w) A (eval iter env) (fun xv s₁ => xv = .ref D ∧ ∃ h tk, s₁ = { s with heap := h, toks := tk } ∧ Fr h₀ L h m ∧ News h₀ L h news) E s)
    (helt : ∀ (i : Nat) (v : Value) (s' : Shared) (m₂ : Str → Option Value) (C : Addr) (oC : Obj), its[i]? = some v → NsObj oC m₂ → m₂ x = some v → Fr h₀ L s'.heap m → News h₀ L s'.heap ((C, oC) :: news) → ∀ (Q' : Value → Shared → Prop) E', (∀ tk, Q' (.bool true) { s' with toks := tk }) → wpAny (model prog w) A (eval elt (compEnvC scope cl C env)) Q' E' s')
    (hQ : ∀ Sa h tk, Fr h₀ L h m → News h₀ L h ((Sa, oSet1 (!w.params.followText "set-order")) :: news) → Q (.ref Sa) { s with heap := h, toks := tk }) :
    wpAny (model prog w) A (eval (.SetComp elt [⟨.Name x px, iter, [], 0⟩] scope pos) env) Q E s := by
  rw [arm_eval_SetComp]
  refine wpAny_comprehension_free (use := none) rfl hs hclos hkind hnames (wpAny_mono src (fun xv s₁ h₁ => ?_) fun _ _ e => e)
  obtain ⟨rfl, hp, tk₁, rfl, F, N⟩ := h₁
  have hl : hp.IsTuple D its := ⟨_, (N _ hD).1, rfl, _, rfl⟩
  have hDlt : D < hp.objs.size := Heap.lt_size (N _ hD).1
  refine wpAny_pyIter_tuple hl ?_
  unfold newSet setsByText
  refine wpAny_bind (wpAny_bind (wpAny_askSetting (wpAny_pure ?_)))
  refine wpAny_newObj_type (wpAny_newFunctionEnv hcell (by intro y hy; simp at hy) (fun h₁ hns₁ hsb₁ => ?_) hkind)
  dsimp only at hns₁ hsb₁ ⊢
  generalize hb : (!w.params.followText "set-order") = b at *
  change Heap.Ns h₁ ((hp.push { cls := .type "tuple_iterator", data := .fields #[.ref D, .int 0 0] }).push (oSet0 (!w.params.followText "set-order"))).objs.size _ at hns₁
  change Heap.SameBut ((hp.push { cls := .type "tuple_iterator", data := .fields #[.ref D, .int 0 0] }).push (oSet0 (!w.params.followText "set-order"))).objs.size (((hp.push { cls := .type "tuple_iterator", data := .fields #[.ref D, .int 0 0] }).push (oSet0 (!w.params.followText "set-order"))).push _) h₁ at hsb₁
  rw [hb] at hns₁ hsb₁
  let h₂ : Heap := hp.push { cls := .type "tuple_iterator", data := .fields #[.ref D, .int 0 0] }
  let H2 : Heap := h₂.push (oSet0 b)
  replace hns₁ : h₁.Ns H2.objs.size _ := hns₁
  replace hsb₁ : Heap.SameBut H2.objs.size _ h₁ := hsb₁
  have g1 : ∀ c o, hp.get? c = some o → h₂.get? c = some o := fun c o e => Heap.get?_push_of_some _ e
  have g2 : ∀ c o, h₂.get? c = some o → H2.get? c = some o := fun c o e => Heap.get?_push_of_some _ e
  have g3 : h₂.get? hp.objs.size = some ({ cls := .type "tuple_iterator", data := .fields #[.ref D, .int 0 0] }) := Heap.get?_push_size _ rfl
  have g4 : H2.get? h₂.objs.size = some ((oSet0 b)) := Heap.get?_push_size _ rfl
  have e1 : h₂.objs.size = hp.objs.size + 1 := Heap.size_push _ _
  have e2 : H2.objs.size = hp.objs.size + 2 := (Heap.size_push _ _).trans (by rw [e1])
  have hCe : ((hp.push { cls := .type "tuple_iterator", data := .fields #[.ref D, .int 0 0] }).push (oSet0 (!w.params.followText "set-order"))).objs.size = H2.objs.size := by rw [hb]
  have below : ∀ c, c < hp.objs.size → c ≠ H2.objs.size ∧ c ≠ h₂.objs.size ∧ c ≠ hp.objs.size := fun c hc => ⟨by rw [e2]; exact Nat.ne_of_lt (Nat.lt_trans hc (Nat.lt_add_of_pos_right (by decide))), by rw [e1]; exact Nat.ne_of_lt (Nat.lt_succ_of_lt hc), Nat.ne_of_lt hc⟩
  have hSC : h₂.objs.size ≠ H2.objs.size := by rw [e1, e2]; exact Nat.ne_of_lt (Nat.lt_succ_self _)
  have hIC : hp.objs.size ≠ H2.objs.size := by rw [e2]; exact Nat.ne_of_lt (Nat.lt_add_of_pos_right (by decide))
  have hIS : hp.objs.size ≠ h₂.objs.size := by rw [e1]; exact Nat.ne_of_lt (Nat.lt_succ_self _)
  have old : ∀ c o, hp.get? c = some o → h₁.get? c = some o := fun c o e => hsb₁.extBut c o (below c (Heap.lt_size e)).1 (Heap.get?_push_of_some _ (g2 _ _ (g1 _ _ e)))
  have hacc : h₁.get? h₂.objs.size = some (oSet0 b) := hsb₁.extBut _ _ hSC (Heap.get?_push_of_some _ g4)
  have hit : h₁.get? hp.objs.size = some { cls := .type "tuple_iterator", data := .fields #[.ref D, .int 0 0] } := hsb₁.extBut _ _ hIC (Heap.get?_push_of_some _ (g2 _ _ g3))
  have hLlt : L < hp.objs.size := F.ns.lt
  have hn0 : ∀ c, hp.objs.size ≤ c → h₀.get? c = none := fun c hc => Heap.get?_none_of_le (Nat.le_trans (Nat.le_trans F.above (Nat.le_of_lt hLlt)) hc)
  have hS₀ : h₀.get? h₂.objs.size = none := hn0 _ (by rw [e1]; exact Nat.le_succ _)
  have hC₀ : h₀.get? H2.objs.size = none := hn0 _ (by rw [e2]; exact Nat.le_add_right _ _)
  have hI₀ : h₀.get? hp.objs.size = none := hn0 _ (Nat.le_refl _)
  have hSL : h₂.objs.size ≠ L := Ne.symm (below L hLlt).2.1
  have hCL : H2.objs.size ≠ L := Ne.symm (below L hLlt).1
  have offN : ∀ q ∈ news, q.1 ≠ H2.objs.size ∧ q.1 ≠ h₂.objs.size ∧ q.1 ≠ hp.objs.size := fun q hq => below _ (Heap.lt_size (N q hq).1)
  have W : Walks prog w A hp.objs.size [hp.objs.size, D] [hp.objs.size] its.size (fun i v => its[i]? = some v) (fun i h => h.IsTupleIter hp.objs.size D i ∧ h.IsTuple D its) := Walks.tuple hh hp.objs.size D (Nat.ne_of_lt hDlt) its
  have hDC : D ≠ H2.objs.size := (below D hDlt).1
  have hDS : D ≠ h₂.objs.size := (below D hDlt).2.1
  have keepF : ∀ (h' hx : Heap), Fr h₀ L h' m → News h₀ L h' news → (∀ c o, c ≠ hp.objs.size → c ≠ H2.objs.size → c ≠ h₂.objs.size → h'.get? c = some o → hx.get? c = some o) → Fr h₀ L hx m ∧ News h₀ L hx news := fun h' hx F' N' hk =>
    ⟨⟨F'.ns.at' fun o e => hk L o (below L hLlt).2.2 (below L hLlt).1 (below L hLlt).2.1 e, fun c o e => hk c o (fun q => by rw [q, hI₀] at e; cases e) (fun q => by rw [q, hC₀] at e; cases e) (fun q => by rw [q, hS₀] at e; cases e) (F'.keep c o e), F'.above⟩,
      fun q hq => ⟨hk _ _ (offN q hq).2.2 (offN q hq).1 (offN q hq).2.1 (N' q hq).1, (N' q hq).2⟩⟩
  have hkC : (compEnvC scope cl H2.objs.size env).kindOf x = some .local := lookup_relabel_local hx
  have loop : ∀ s₃ : Shared, s₃ = { s with heap := h₁, toks := tk₁ + ([] : List (Str × Value)).length } → codeAny (model prog w) A (.compLoop (.SetComp elt [⟨.Name x px, iter, [], 0⟩] scope pos) 0 (.ref hp.objs.size) (.ref h₂.objs.size) (compEnvC scope cl H2.objs.size env))
      (compPost (model prog w) A E none Q (.ref h₂.objs.size) H2.objs.size) s₃ := by
    rintro s₃ rfl
    obtain ⟨Inv, hInv⟩ : ∃ Inv : Nat → Shared → Prop, ∀ k s', Inv k s' ↔ (∃ h' tk i m', s' = { s with heap := h', toks := tk } ∧ i ≤ its.size ∧ k = its.size + 1 - i ∧ (h'.IsTupleIter hp.objs.size D i ∧ h'.IsTuple D its) ∧ Fr h₀ L h' m ∧ h'.Ns H2.objs.size m' ∧ News h₀ L h' news ∧ h'.get? h₂.objs.size = some (if i = 0 then oSet0 b else oSet1 b)) := ⟨_, fun _ _ => Iff.rfl⟩
    refine cut_set Inv ?_ (its.size + 1)
      ((hInv _ _).mpr ⟨h₁, _, 0, _, rfl, Nat.zero_le _, rfl, ⟨⟨_, hit, rfl, rfl⟩, hl.at fun o e => old _ o e⟩, F.keeps old, hns₁, fun q hq => ⟨old _ _ (N q hq).1, (N q hq).2⟩, hacc⟩) (by intro _; rfl)
    intro k s' hI0 E9 D9 B9 hD9 hB9
    replace hI0 := (hInv _ _).mp hI0
    refine pvar fun G9 hG9 => ?_
    obtain ⟨h', tk, i, m', rfl, hi, rfl, hst, F', hn', N', hS'⟩ := hI0
    refine hG9 ?_
    by_cases hlt : i < its.size
    · refine W.item i _ _ _ hlt hst fun v h₃ tk₃ hv hst₃ hk₃ => ?_
      have k₃ : ∀ c o, c ≠ hp.objs.size → h'.get? c = some o → h₃.get? c = some o := fun c o hc e => hk₃ c o (by simpa using hc) e
      refine wpAny_assign_Name (wpAny_storeName_local hkC (hn'.at' fun o e => k₃ _ o (Ne.symm hIC) e) (fun h₄ hn₄ hs₄ => ?_) (by simp [compEnvC, relabel, hkind]))
      replace hs₄ : Heap.SameBut H2.objs.size h₃ h₄ := hs₄
      have k₄ : ∀ c o, c ≠ hp.objs.size → c ≠ H2.objs.size → h'.get? c = some o → h₄.get? c = some o := fun c o c1 c2 e => hs₄.extBut c o c2 (k₃ c o c1 e)
      obtain ⟨F₄, N₄⟩ := keepF h' h₄ F' N' fun c o c1 c2 _ e => k₄ c o c1 c2 e
      obtain ⟨oC, heC, hoC⟩ := ns_obj hn₄
      refine helt i v _ _ _ oC hv hoC (by simp) F₄ (fun q hq => ?_) _ _ fun tk₅ => ?_
      · rcases List.mem_cons.mp hq with rfl | hq
        · exact ⟨heC, hCL, hC₀⟩
        · exact N₄ q hq
      have hS₄ : h₄.get? h₂.objs.size = some (if i = 0 then oSet0 b else oSet1 b) := k₄ _ _ (Ne.symm hIS) hSC hS'
      have fin : ∀ (h₅ : Heap) tk₆, h₅.get? h₂.objs.size = some (oSet1 b) → Heap.SameBut h₂.objs.size h₄ h₅ → ∃ m₁, m₁ < its.size + 1 - i ∧ Inv m₁ { s with heap := h₅, toks := tk₆ } := fun h₅ tk₆ hS₅ hs₅ => by
        obtain ⟨F₅, N₅⟩ := keepF h₄ h₅ F₄ N₄ fun c o _ _ c3 e => hs₅.extBut c o c3 e
        refine ⟨its.size + 1 - (i + 1), meas_lt hlt, (hInv _ _).mpr ⟨h₅, tk₆, i + 1, _, rfl, hlt, rfl, ?_, F₅, hn₄.sameBut hs₅ (Ne.symm hSC), N₅, by rw [if_neg (Nat.succ_ne_zero i)]; exact hS₅⟩⟩
        refine W.frame _ _ _ (W.frame _ _ _ hst₃ fun c hc o e => hs₄.extBut c o ?_ e) fun c hc o e => hs₅.extBut c o ?_ e
        · intro q; subst q; rcases List.mem_cons.mp hc with q | q; exact hIC q.symm; exact hDC (List.mem_singleton.mp q).symm
        · intro q; subst q; rcases List.mem_cons.mp hc with q | q; exact hIS q.symm; exact hDS (List.mem_singleton.mp q).symm
      by_cases h0 : i = 0
      · subst h0
        rw [if_pos rfl] at hS₄
        exact hB9 _ _ (set_add_first hS₄ fun h₅ hS₅ hs₅ => fin h₅ _ hS₅ hs₅)
      · rw [if_neg h0] at hS₄
        exact hB9 _ _ (set_add_again hS₄ (fin h₄ _ hS₄ (Heap.SameBut.refl ..)))
    · have hin : i = its.size := Nat.le_antisymm hi (Nat.not_lt.mp hlt)
      subst hin
      refine W.done _ _ _ hst fun h₃ tk₃ hk₃ => ?_
      have k₃ : ∀ c o, c ≠ hp.objs.size → h'.get? c = some o → h₃.get? c = some o := fun c o hc e => hk₃ c o (by simpa using hc) e
      refine hD9 _ ⟨m', hn'.at' fun o e => k₃ _ o (Ne.symm hIC) e, fun h₄ hs₄ => ?_⟩
      replace hs₄ : Heap.SameBut H2.objs.size h₃ h₄ := hs₄
      obtain ⟨F₄, N₄⟩ := keepF h' h₄ F' N' fun c o c1 c2 _ e => hs₄.extBut c o c2 (k₃ c o c1 e)
      rw [if_neg (Nat.ne_of_gt h1)] at hS'
      refine hQ _ h₄ tk₃ F₄ fun q hq => ?_
      rcases List.mem_cons.mp hq with rfl | hq
      · exact ⟨hs₄.extBut _ _ hSC (k₃ _ _ (Ne.symm hIS) hS'), hSL, hS₀⟩
      · exact N₄ q hq
  subst hb
  exact codeAny_compStart_set (loop _ rfl) (W.self 0 _ _ _ ⟨⟨_, hit, rfl, rfl⟩, hl.at fun o e => old _ o e⟩ (loop _ rfl))
theorem assign_set1 {x : Str} {px tp : Pos} {x1 : Nat} {a : Addr} {news : List (Addr × Obj)} {Q : Unit → Shared → Prop} (hh : A.handled = none) (F₁ : Fr h₀ L s.heap m) (N : News h₀ L s.heap news) (ha : (a, oSet1 (!w.params.followText "set-order")) ∈ news)
    (h : ∀ h', Fr h₀ L h' m → News h₀ L h' news → wpAny (model prog w) A (storeName env x (.bool true)) Q E { s with heap := h' }) :
    wpAny (model prog w) A (assign (.Tuple [.Name x px] x1 tp) env (.ref a)) Q E s := by
  rw [arm_assign_Tuple]
  refine wpAny_bind (wpAny_standAt ?_)
  have hS := (N _ ha).1
  have hT : s.TypeIs (.ref a) "set" := ⟨_, hS, rfl⟩
  have hlt : a ≠ s.heap.objs.size := Nat.ne_of_lt (Heap.lt_size hS)
  have hn0 : h₀.get? s.heap.objs.size = none := Heap.get?_none_of_le (Nat.le_trans F₁.above (Nat.le_of_lt F₁.ns.lt))
  unfold unpack
  refine wpAny_bind (wpAny_holding ?_)
  show wpAny _ _ (unpackItems (.ref a) 1 none) _ _ _
  unfold unpackItems
  refine wpAny_bind ?_
  unfold notIterableAtAll
  refine wpAny_bind (wpAny_specialOf hT F.slot_set_iter.lookup ?_)
  refine wpAny_pure ?_
  simp only [Bool.false_eq_true, if_false]
  refine wpAny_bind (wpAny_holding (pyIter_set1 hS ?_))
  refine wpAny_bind (wpAny_holding ?_)
  show wpAny _ _ (pyNext (.ref s.heap.objs.size) >>= _) _ _ _
  refine wpAny_bind (next_set1 (b := !w.params.followText "set-order") rfl hlt (Heap.get?_push_of_some _ hS) (Heap.get?_push_size _ rfl) fun j h' hI hj hj2 hs => ?_)
  refine wpAny_bind (wpAny_holding (wpAny_pure (wpAny_pure ?_)))
  rw [if_neg (by simp)]
  have hS' : h'.get? a = some (oSet1 (!w.params.followText "set-order")) := hs.extBut _ _ hlt (Heap.get?_push_of_some _ hS)
  refine wpAny_bind (wpAny_holding (end_set1 (b := !w.params.followText "set-order") hh rfl hlt hS' hI hj hj2 fun h'' he => ?_))
  simp only [Option.isSome_none, Bool.false_eq_true, if_false]
  refine wpAny_pure ?_
  have up : ∀ c o, s.heap.get? c = some o → h''.get? c = some o := fun c o e => he c o (Nat.ne_of_lt (Heap.lt_size e)) (hs.extBut _ _ (Nat.ne_of_lt (Heap.lt_size e)) (Heap.get?_push_of_some _ e))
  show wpAny _ _ (holding [] (assign (.Name x px) env (.bool true)) >>= fun _ => pure ()) _ _ _
  refine wpAny_bind (wpAny_holding (wpAny_assign_Name (wpAny_mono (h h'' (F₁.keeps up) fun q hq => ⟨up _ _ (N q hq).1, (N q hq).2⟩) (fun _ _ q => wpAny_pure q) fun _ _ e => e)))
end
end Mine

end
noncomputable section
open PySem PySem.W PyProof.Rows PyProof.Rows.LCg PySem.Calls PySem.Spec Mine
namespace Mine
section
variable {prog : Program} {w : World} {A : Around} {E : Value → Shared → Prop} {s : Shared} {h₀ : Heap} {L : Addr} {m : Str → Option Value} {env : Env}
theorem cut_tests {R : Result → Shared → Prop} {elt target iter : PySem.Expr} {ifs : List PySem.Expr} {scope : Scope} {pos : Pos} {it acc : Value} {env : Env} (I : Nat → Shared → Prop)
    (turn : ∀ n s, I n s → ∀ (E : Value → Shared → Prop) (D : Shared → Prop) (B : Value → Shared → Prop), (∀ s₁, R (.ok .next) s₁ → D s₁) → (∀ x s₄, wpAny (model prog w) A (call (.builtin "list.append") [acc, x]) (fun _ s₅ => ∃ m, m < n ∧ I m s₅) E s₄ → B x s₄) →
      wpAny (model prog w) A (pyNext it) (fun r s₁ => match r with
        | none => D s₁
        | some v => wpAny (model prog w) A (assign target env v) (fun _ s₂ => wpAny (model prog w) A (forIn ifs true fun c r => if r = true then do let ok ← isTrue c env (eval c env); pure (ForInStep.yield ok) else pure (ForInStep.yield r)) (fun ok s₃ => if ok = true then wpAny (model prog w) A (eval elt env) (fun x s₄ => B x s₄) E s₃ else ∃ m, m < n ∧ I m s₃) E s₂) E s₁) E s)
    (n : Nat) (h : I n s) (ht : ∀ v, letOwnedTupleGo target it v = pure ()) : codeAny (model prog w) A (.compLoop (.ListComp elt [⟨target, iter, ifs, 0⟩] scope pos) 0 it acc env) R s :=
  codeAny_compLoop_tests I (fun n s hI => turn n s hI _ _ _ (fun _ h => h) fun _ _ h => h) n h ht
theorem LC_core {iter elt : PySem.Expr} {ifs : List PySem.Expr} {x : Str} {px : Pos} {scope : Scope} {cl : List (Str × Addr)} {pos : Pos} {l : Addr} {its : List Value} {k : Nat} {news : List (Addr × Obj)} {Q : Value → Shared → Prop} {hp : Heap} {tk₁ : Nat} (Sh : Nat → List Value → Prop) (F : Fr h₀ L hp m) (N : News h₀ L hp news)
    (hh : A.handled = none) (hl : (l, ({ cls := .type "list", data := .seq its.toArray k } : Obj)) ∈ news) (hn : its.length ≤ 1000000)
    (hcell : ∀ y ∈ scope.names, y.2 ≠ .cell) (hkind : scope.kind = .function) (hx : scope.names.lookup x = some .local)
    (h0 : Sh 0 []) (hSh : ∀ i ys, Sh i ys → ys.length ≤ i)
    (turn : ∀ (i : Nat) (v : Value) (ys : List Value) (s' : Shared) (m₂ : Str → Option Value) (C : Addr) (oC : Obj) (Rn : Shared → Prop) (Ry : Value → Shared → Prop) (E' : Value → Shared → Prop), its[i]? = some v → Sh i ys → NsObj oC m₂ → m₂ x = some v → s'.heap.Ns C m₂ → Fr h₀ L s'.heap m → News h₀ L s'.heap ((C, oC) :: news) →
      (∀ tk, Sh (i + 1) ys → Rn { s' with toks := tk }) → (∀ y tk, Sh (i + 1) (ys ++ [y]) → Ry y { s' with toks := tk }) →
      wpAny (model prog w) A (forIn ifs true fun c r => if r = true then do let ok ← isTrue c (compEnvC scope cl C env) (eval c (compEnvC scope cl C env)); pure (ForInStep.yield ok) else pure (ForInStep.yield r)) (fun ok s₃ =>
        if ok = true then wpAny (model prog w) A (eval elt (compEnvC scope cl C env)) (fun y s₄ => Ry y s₄) E' s₃ else Rn s₃) E' s')
    (hQ : ∀ D ys h tk, Sh its.length ys → (∀ q ∈ news, @LT.lt Nat _ q.1 D) → Fr h₀ L h m → News h₀ L h ((D, LCg.lst ys) :: news) → Q (.ref D) { s with heap := h, toks := tk }) :
    wpAny (model prog w) A (pyIter (.ref l)) (fun it s₂ => wpAny (model prog w) A (newList []) (fun acc s₃ => wpAny (model prog w) A (newFunctionEnv scope env.globals cl [] env.qual none .none (some env)) (fun cenv s₄ =>
      codeAny (model prog w) A (.compStart (.ListComp elt [⟨.Name x px, iter, ifs, 0⟩] scope pos) 0 it acc { cenv with scope := relabel scope env }) (compPost (model prog w) A E none Q acc cenv.locals) s₄) E s₃) E s₂) E { s with heap := hp, toks := tk₁ } := by
  have hls : hp.IsList l its.toArray := ⟨_, (N _ hl).1, rfl, _, rfl⟩
  have hDlt : l < hp.objs.size := Heap.lt_size (N _ hl).1
  refine wpAny_pyIter_list hls ?_
  refine wpAny_newObj_type (wpAny_newFunctionEnv hcell (by intro y hy; simp at hy) (fun h₁ hns₁ hsb₁ => ?_) hkind)
  dsimp only at hns₁ hsb₁ ⊢
  let h₂ : Heap := hp.push { cls := .type "list_iterator", data := .fields #[.ref l, .int 0 0] }
  let H2 : Heap := h₂.push { cls := .type "list", dict := none, data := .seq ([] : List Value).toArray }
  replace hns₁ : h₁.Ns H2.objs.size _ := hns₁
  replace hsb₁ : Heap.SameBut H2.objs.size _ h₁ := hsb₁
  have g1 : ∀ c o, hp.get? c = some o → h₂.get? c = some o := fun c o e => Heap.get?_push_of_some _ e
  have g2 : ∀ c o, h₂.get? c = some o → H2.get? c = some o := fun c o e => Heap.get?_push_of_some _ e
  have g3 : h₂.get? hp.objs.size = some ({ cls := .type "list_iterator", data := .fields #[.ref l, .int 0 0] }) := Heap.get?_push_size _ rfl
  have g4 : H2.get? h₂.objs.size = some ({ cls := .type "list", dict := none, data := .seq ([] : List Value).toArray }) := Heap.get?_push_size _ rfl
  have e1 : h₂.objs.size = hp.objs.size + 1 := Heap.size_push _ _
  have e2 : H2.objs.size = hp.objs.size + 2 := (Heap.size_push _ _).trans (by rw [e1])
  have below : ∀ c, c < hp.objs.size → c ≠ H2.objs.size ∧ c ≠ h₂.objs.size ∧ c ≠ hp.objs.size := fun c hc => ⟨by rw [e2]; exact Nat.ne_of_lt (Nat.lt_trans hc (Nat.lt_add_of_pos_right (by decide))), by rw [e1]; exact Nat.ne_of_lt (Nat.lt_succ_of_lt hc), Nat.ne_of_lt hc⟩
  have hSC : h₂.objs.size ≠ H2.objs.size := by rw [e1, e2]; exact Nat.ne_of_lt (Nat.lt_succ_self _)
  have hIC : hp.objs.size ≠ H2.objs.size := by rw [e2]; exact Nat.ne_of_lt (Nat.lt_add_of_pos_right (by decide))
  have hIS : hp.objs.size ≠ h₂.objs.size := by rw [e1]; exact Nat.ne_of_lt (Nat.lt_succ_self _)
  have old : ∀ c o, hp.get? c = some o → h₁.get? c = some o := fun c o e => hsb₁.extBut c o (below c (Heap.lt_size e)).1 (Heap.get?_push_of_some _ (g2 _ _ (g1 _ _ e)))
  have hacc : h₁.get? h₂.objs.size = some (LCg.lst []) := hsb₁.extBut _ _ hSC (Heap.get?_push_of_some _ g4)
  have hit : h₁.get? hp.objs.size = some { cls := .type "list_iterator", data := .fields #[.ref l, .int 0 0] } := hsb₁.extBut _ _ hIC (Heap.get?_push_of_some _ (g2 _ _ g3))
  have hLlt : L < hp.objs.size := F.ns.lt
  have hn0 : ∀ c, hp.objs.size ≤ c → h₀.get? c = none := fun c hc => Heap.get?_none_of_le (Nat.le_trans (Nat.le_trans F.above (Nat.le_of_lt hLlt)) hc)
  have hS₀ : h₀.get? h₂.objs.size = none := hn0 _ (by rw [e1]; exact Nat.le_succ _)
  have hC₀ : h₀.get? H2.objs.size = none := hn0 _ (by rw [e2]; exact Nat.le_add_right _ _)
  have hI₀ : h₀.get? hp.objs.size = none := hn0 _ (Nat.le_refl _)
  have hSL : h₂.objs.size ≠ L := Ne.symm (below L hLlt).2.1
  have hCL : H2.objs.size ≠ L := Ne.symm (below L hLlt).1
  have offN : ∀ q ∈ news, q.1 ≠ H2.objs.size ∧ q.1 ≠ h₂.objs.size ∧ q.1 ≠ hp.objs.size := fun q hq => below _ (Heap.lt_size (N q hq).1)
  have W : Walks prog w A hp.objs.size [hp.objs.size, l] [hp.objs.size] its.toArray.size (fun i v => its.toArray[i]? = some v) (fun i h => h.IsListIter hp.objs.size l i ∧ h.IsList l its.toArray) := Walks.list hh hp.objs.size l (Nat.ne_of_lt hDlt) its.toArray
  have hDC : l ≠ H2.objs.size := (below l hDlt).1
  have hDS : l ≠ h₂.objs.size := (below l hDlt).2.1
  have keepF : ∀ (h' hx : Heap), Fr h₀ L h' m → News h₀ L h' news → (∀ c o, c ≠ hp.objs.size → c ≠ H2.objs.size → c ≠ h₂.objs.size → h'.get? c = some o → hx.get? c = some o) → Fr h₀ L hx m ∧ News h₀ L hx news := fun h' hx F' N' hk =>
    ⟨⟨F'.ns.at' fun o e => hk L o (below L hLlt).2.2 (below L hLlt).1 (below L hLlt).2.1 e, fun c o e => hk c o (fun q => by rw [q, hI₀] at e; cases e) (fun q => by rw [q, hC₀] at e; cases e) (fun q => by rw [q, hS₀] at e; cases e) (F'.keep c o e), F'.above⟩,
      fun q hq => ⟨hk _ _ (offN q hq).2.2 (offN q hq).1 (offN q hq).2.1 (N' q hq).1, (N' q hq).2⟩⟩
  have hkC : (compEnvC scope cl H2.objs.size env).kindOf x = some .local := lookup_relabel_local hx
  have loop : ∀ s₃ : Shared, s₃ = { s with heap := h₁, toks := tk₁ + ([] : List (Str × Value)).length } → codeAny (model prog w) A (.compLoop (.ListComp elt [⟨.Name x px, iter, ifs, 0⟩] scope pos) 0 (.ref hp.objs.size) (.ref h₂.objs.size) (compEnvC scope cl H2.objs.size env))
      (compPost (model prog w) A E none Q (.ref h₂.objs.size) H2.objs.size) s₃ := by
    rintro s₃ rfl
    obtain ⟨Inv, hInv⟩ : ∃ Inv : Nat → Shared → Prop, ∀ k s', Inv k s' ↔ (∃ h' tk i m', s' = { s with heap := h', toks := tk } ∧ i ≤ its.toArray.size ∧ k = its.toArray.size + 1 - i ∧ (h'.IsListIter hp.objs.size l i ∧ h'.IsList l its.toArray) ∧ Fr h₀ L h' m ∧ h'.Ns H2.objs.size m' ∧ News h₀ L h' news ∧ ∃ ys, h'.get? h₂.objs.size = some (LCg.lst ys) ∧ Sh i ys) := ⟨_, fun _ _ => Iff.rfl⟩
    refine cut_tests Inv ?_ (its.toArray.size + 1)
      ((hInv _ _).mpr ⟨h₁, _, 0, _, rfl, Nat.zero_le _, rfl, ⟨⟨_, hit, rfl, rfl⟩, hls.at fun o e => old _ o e⟩, F.keeps old, hns₁, fun q hq => ⟨old _ _ (N q hq).1, (N q hq).2⟩, [], hacc, h0⟩) (by intro _; rfl)
    intro k s' hI0 E9 D9 B9 hD9 hB9
    replace hI0 := (hInv _ _).mp hI0
    refine pvar fun G9 hG9 => ?_
    obtain ⟨h', tk, i, m', rfl, hi, rfl, hst, F', hn', N', ys, hS', hys⟩ := hI0
    refine hG9 ?_
    by_cases hlt : i < its.toArray.size
    · refine W.item i _ _ _ hlt hst fun v h₃ tk₃ hv hst₃ hk₃ => ?_
      have hv' : its[i]? = some v := by simpa using hv
      have k₃ : ∀ c o, c ≠ hp.objs.size → h'.get? c = some o → h₃.get? c = some o := fun c o hc e => hk₃ c o (by simpa using hc) e
      refine wpAny_assign_Name (wpAny_storeName_local hkC (hn'.at' fun o e => k₃ _ o (Ne.symm hIC) e) (fun h₄ hn₄ hs₄ => ?_) (by simp [compEnvC, relabel, hkind]))
      replace hs₄ : Heap.SameBut H2.objs.size h₃ h₄ := hs₄
      have k₄ : ∀ c o, c ≠ hp.objs.size → c ≠ H2.objs.size → h'.get? c = some o → h₄.get? c = some o := fun c o c1 c2 e => hs₄.extBut c o c2 (k₃ c o c1 e)
      obtain ⟨F₄, N₄⟩ := keepF h' h₄ F' N' fun c o c1 c2 _ e => k₄ c o c1 c2 e
      obtain ⟨oC, heC, hoC⟩ := ns_obj hn₄
      have hS₄ : h₄.get? h₂.objs.size = some (LCg.lst ys) := k₄ _ _ (Ne.symm hIS) hSC hS'
      have fin : ∀ (h₅ : Heap) tk₆ ys', h₅.get? h₂.objs.size = some (LCg.lst ys') → Sh (i + 1) ys' → Heap.SameBut h₂.objs.size h₄ h₅ → ∃ m₁, m₁ < its.toArray.size + 1 - i ∧ Inv m₁ { s with heap := h₅, toks := tk₆ } := fun h₅ tk₆ ys' hS₅ hys' hs₅ => by
        obtain ⟨F₅, N₅⟩ := keepF h₄ h₅ F₄ N₄ fun c o _ _ c3 e => hs₅.extBut c o c3 e
        refine ⟨its.toArray.size + 1 - (i + 1), meas_lt hlt, (hInv _ _).mpr ⟨h₅, tk₆, i + 1, _, rfl, hlt, rfl, ?_, F₅, hn₄.sameBut hs₅ (Ne.symm hSC), N₅, ys', hS₅, hys'⟩⟩
        refine W.frame _ _ _ (W.frame _ _ _ hst₃ fun c hc o e => hs₄.extBut c o ?_ e) fun c hc o e => hs₅.extBut c o ?_ e
        · intro q; subst q; rcases List.mem_cons.mp hc with q | q; exact hIC q.symm; exact hDC (List.mem_singleton.mp q).symm
        · intro q; subst q; rcases List.mem_cons.mp hc with q | q; exact hIS q.symm; exact hDS (List.mem_singleton.mp q).symm
      refine turn i v ys _ _ _ oC _ _ _ hv' hys hoC (by simp) hn₄ F₄ (fun q hq => ?_) (fun tk₅ hy => fin h₄ tk₅ ys hS₄ hy (Heap.SameBut.refl ..)) fun y tk₅ hy => ?_
      · rcases List.mem_cons.mp hq with rfl | hq
        · exact ⟨heC, hCL, hC₀⟩
        · exact N₄ q hq
      refine hB9 _ _ (append_at (hsz := by show (List.toArray _).size ≤ sizeLine; rw [List.size_toArray]; exact Nat.le_trans (hSh _ _ hys) (Nat.le_trans (Nat.le_of_lt hlt) (Nat.le_trans (by rw [List.size_toArray]; exact hn) (by rw [sizeLine_eq]; decide)))) hS₄ fun h₆ hs₆ ho₆ => ?_)
      rw [LCg.lst_snoc] at ho₆
      exact fin h₆ _ _ ho₆ hy hs₆
    · have hin : i = its.toArray.size := Nat.le_antisymm hi (Nat.not_lt.mp hlt)
      subst hin
      refine W.done _ _ _ hst fun h₃ tk₃ hk₃ => ?_
      have k₃ : ∀ c o, c ≠ hp.objs.size → h'.get? c = some o → h₃.get? c = some o := fun c o hc e => hk₃ c o (by simpa using hc) e
      refine hD9 _ ⟨m', hn'.at' fun o e => k₃ _ o (Ne.symm hIC) e, fun h₄ hs₄ => ?_⟩
      replace hs₄ : Heap.SameBut H2.objs.size h₃ h₄ := hs₄
      obtain ⟨F₄, N₄⟩ := keepF h' h₄ F' N' fun c o c1 c2 _ e => hs₄.extBut c o c2 (k₃ c o c1 e)
      rw [List.size_toArray] at hys
      refine hQ _ ys h₄ tk₃ hys (fun q hq => ?_) F₄ fun q hq => ?_
      · rw [e1]; exact Nat.lt_succ_of_lt (Heap.lt_size (N q hq).1)
      rcases List.mem_cons.mp hq with rfl | hq
      · exact ⟨hs₄.extBut _ _ hSC (k₃ _ _ (Ne.symm hIS) hS'), hSL, hS₀⟩
      · exact N₄ q hq
  exact codeAny_compStart_list (loop _ rfl) (W.self 0 _ _ _ ⟨⟨_, hit, rfl, rfl⟩, hls.at fun o e => old _ o e⟩ (loop _ rfl))
theorem LC_filter {iter c : PySem.Expr} {x : Str} {px pe : Pos} {scope : Scope} {cl : List (Str × Addr)} {pos : Pos} {l : Addr} {its : List Value} {k : Nat} {news : List (Addr × Obj)} {Q : Value → Shared → Prop} (p : Value → Bool) (_F : Fr h₀ L s.heap m) (_N : News h₀ L s.heap news)
    (hh : A.handled = none) (hl : (l, ({ cls := .type "list", data := .seq its.toArray k } : Obj)) ∈ news) (hn : its.length ≤ 1000000)
    (hclos : closureFor scope env = pure cl) (hcell : ∀ y ∈ scope.names, y.2 ≠ .cell) (hkind : scope.kind = .function) (hnames : ∀ x ∈ scope.names, x.2 = .local → scope.names.lookup x.1 = some .local)
    (hx : scope.names.lookup x = some .local) (hs : ∀ x, foldedSetIterable iter env x = pure x) (hd : (x == ("__debug__" : Str)) = false)
    (src : wpAny (model prog w) A (eval iter env) (fun xv s₁ => xv = .ref l ∧ ∃ h tk, s₁ = { s with heap := h, toks := tk } ∧ Fr h₀ L h m ∧ News h₀ L h news) E s)
    (htest : ∀ (v : Value) (s' : Shared) (m₂ : Str → Option Value) (C : Addr) (oC : Obj), v ∈ its → NsObj oC m₂ → m₂ x = some v → Fr h₀ L s'.heap m → News h₀ L s'.heap ((C, oC) :: news) → ∀ (Q' : Bool → Shared → Prop) E', (∀ tk, Q' (p v) { s' with toks := tk }) → wpAny (model prog w) A (isTrue c (compEnvC scope cl C env) (eval c (compEnvC scope cl C env))) Q' E' s')
    (hQ : ∀ D h tk, (∀ q ∈ news, @LT.lt Nat _ q.1 D) → Fr h₀ L h m → News h₀ L h ((D, LCg.lst (its.filter p)) :: news) → Q (.ref D) { s with heap := h, toks := tk }) :
    wpAny (model prog w) A (eval (.ListComp (.Name x pe) [⟨.Name x px, iter, [c], 0⟩] scope pos) env) Q E s := by
  rw [eval_ListComp]
  refine wpAny_comprehension_free (use := none) rfl hs hclos hkind hnames (wpAny_mono src (fun xv s₁ h₁ => ?_) fun _ _ e => e)
  obtain ⟨rfl, hp, tk₁, rfl, F, N⟩ := h₁
  refine LC_core (fun i ys => ys = (its.take i).filter p) F N hh hl hn hcell hkind hx rfl (fun i ys e => e ▸ Nat.le_trans (List.length_filter_le _ _) (List.length_take_le _ _)) ?_ ?_
  · intro i v ys s' m₂ C oC Rn Ry E' hv e hoC hm hnC F' N' hn hy
    have htk : its.take (i + 1) = its.take i ++ [v] := by rw [List.take_succ, hv]; rfl
    refine wpAny_tests_one (htest v s' m₂ C oC (List.mem_of_getElem? hv) hoC hm F' N' _ _ fun tk => ?_)
    by_cases hpv : p v = true
    · rw [if_pos hpv]
      refine gld (env := compEnvC scope cl C env) hkind (lookup_relabel_local hx) hnC hm (hy v _ ?_) hd
      rw [htk, List.filter_append, List.filter_cons, if_pos hpv, List.filter_nil, e]
    · rw [if_neg hpv]
      refine hn _ ?_
      rw [htk, List.filter_append, List.filter_cons, if_neg hpv, List.filter_nil, List.append_nil, e]
  · intro D ys h tk e ho F' N'
    rw [List.take_length] at e
    exact hQ D h tk ho F' (e ▸ N')
theorem comp_endN {I C D : Addr} {s₁ : Shared} {oI oC oD : Obj} {S : List (Addr × Obj) → Prop} {rest : Value → List (Addr × Obj) → Prop} {y : Value} {h' : Heap} {tk : Nat} {x : Addr × Obj} {news : List (Addr × Obj)}
    (F : Fr h₀ L h' m) (N : News h₀ L h' (x :: (I, oI) :: (C, oC) :: (D, oD) :: news)) (lt : ∀ q ∈ (I, oI) :: (C, oC) :: (D, oD) :: news, @LT.lt Nat _ q.1 x.1) (off : Off3 I C D news) (hS : S (x :: news)) (r : rest y (x :: news)) :
    CompEnd h₀ L m s₁ I oI C oC D oD S rest y { s₁ with heap := h', toks := tk } := by
  refine CompEnd.intro F N (x :: news) (fun p hp => ?_) (Off3.of fun p hp => ?_) hS r
  · simp only [List.mem_cons] at hp ⊢
    rcases hp with h | h | h | h | h
    · exact .inr (.inl h)
    · exact .inr (.inr (.inl h))
    · exact .inr (.inr (.inr (.inl h)))
    · exact .inl h
    · exact .inr (.inr (.inr (.inr h)))
  · rcases List.mem_cons.mp hp with rfl | hp
    · exact ⟨Nat.ne_of_gt (lt _ List.mem_cons_self), Nat.ne_of_gt (lt _ (List.mem_cons_of_mem _ List.mem_cons_self)), Nat.ne_of_gt (lt _ (List.mem_cons_of_mem _ (List.mem_cons_of_mem _ List.mem_cons_self)))⟩
    · exact off.mem p hp
end
end Mine

end
noncomputable section
open PySem PySem.W PyProof.Rows PyProof.Rows.LCg PySem.Calls PySem.Spec Mine PySem.SeqAt
open AutoSeq1 (wpAny_loadPart')
open MeetsSeq MeetsSeq2 MeetsSeq3
namespace Mine
noncomputable def ltLs : List Str → List Str → Bool
  | [], [] => false
  | [], _ :: _ => true
  | _ :: _, [] => false
  | a :: x, b :: y => if a = b then ltLs x y else decide (a.cps.toList < b.cps.toList)
noncomputable def gtLs : List Str → List Str → Bool
  | [], [] => false
  | [], _ :: _ => false
  | _ :: _, [] => true
  | a :: x, b :: y => if a = b then gtLs x y else decide (a.cps.toList > b.cps.toList)
theorem rc_lt {prog : Program} {w : World} {A : Around} {E : Value → Shared → Prop} {s : Shared} {x y : Str} {t u : Tok} {Q : Value → Shared → Prop} (h : Q (.bool (decide (x.cps.toList < y.cps.toList))) s) : wpAny (model prog w) A (richCompare .Lt (.str x t) (.str y u)) Q E s :=
  richCompare_gives (op := .Lt) (T := "str") rfl rfl F.slot_str_lt F.entry_str_lt (F.args_str_lt_2 _ _) (gives_str_lt x y t u) (fun x => nomatch x) h
theorem rc_gt {prog : Program} {w : World} {A : Around} {E : Value → Shared → Prop} {s : Shared} {x y : Str} {t u : Tok} {Q : Value → Shared → Prop} (h : Q (.bool (decide (x.cps.toList > y.cps.toList))) s) : wpAny (model prog w) A (richCompare .Gt (.str x t) (.str y u)) Q E s :=
  richCompare_gives (op := .Gt) (T := "str") rfl rfl F.slot_str_gt F.entry_str_gt (F.args_str_gt_2 _ _) (gives_str_gt x y t u) (fun x => nomatch x) h
theorem lt_loop (l b : Addr) (xs ys : List (Str × Tok)) (n n2 : Nat) (k : Nat) :
    ∀ i : Nat, xs.length - i = k → i ≤ xs.length → Meets (Builtin.«list.__eq__.loop» ⟨[.ref l, .ref b, rawInt i, rawInt 0], []⟩)
      (fun _ R s => s.heap.get? l = some { cls := .type "list", data := .seq (strValues xs).toArray n } ∧ s.heap.get? b = some { cls := .type "list", data := .seq (strValues ys).toArray n2 } ∧
        R (.ok (.ret (.bool (ltLs ((xs.drop i).map (·.1)) ((ys.drop i).map (·.1)))))) s) := by
  induction k with
  | zero =>
    intro i hk hi prog w A R s h
    obtain ⟨hp, g, d, tk, os⟩ := s; obtain ⟨hl, hb, h⟩ := h
    wp_walk using wpAny_loadPart' hl, wpAny_loadPart' hb
    have hin : i = xs.length := sub_end hk hi
    have hi1 : (strValues xs).toArray[((i : Nat) : Int).toNat]? = none := by simp [strValues]; (first | lia | omega)
    rw [hi1]
    wp_walk using wpAny_loadPart' hl, wpAny_loadPart' hb
    rw [hin, List.drop_length, List.map_nil] at h
    show R (.ok (.ret (.bool (decide ((strValues xs).toArray.size < (strValues ys).toArray.size))))) _
    rw [show decide ((strValues xs).toArray.size < (strValues ys).toArray.size) = ltLs [] ((ys.drop xs.length).map (·.1)) from ?_]
    · exact h
    · rw [List.size_toArray, List.size_toArray, strValues, strValues, List.length_map, List.length_map]
      cases hd : ys.drop xs.length with
      | nil => simp only [List.map_nil, ltLs]; have := List.drop_eq_nil_iff.mp hd; exact decide_eq_false (by (first | lia | omega))
      | cons a r => simp only [List.map_cons, ltLs]; exact decide_eq_true (by apply Classical.byContradiction; intro hn; rw [List.drop_eq_nil_iff.mpr (by (first | lia | omega))] at hd; cases hd)
  | succ k ih =>
    intro i hk hi prog w A R s h
    obtain ⟨hp, g, d, tk, os⟩ := s; obtain ⟨hl, hb, h⟩ := h
    wp_walk using wpAny_loadPart' hl, wpAny_loadPart' hb
    have hlt : i < xs.length := sub_in hk
    have hi1 : (strValues xs).toArray[((i : Nat) : Int).toNat]? = some (.str xs[i].1 xs[i].2) := by simp [strValues, hlt]
    have hd : xs.drop i = xs[i] :: xs.drop (i + 1) := List.drop_eq_getElem_cons hlt
    have hc : ((i : Int) + 1) = ((i + 1 : Nat) : Int) := by push_cast; rfl
    rw [hi1]
    by_cases hlt2 : i < ys.length
    · have hi2 : (strValues ys).toArray[((i : Nat) : Int).toNat]? = some (.str ys[i].1 ys[i].2) := by simp [strValues, hlt2]
      have hd2 : ys.drop i = ys[i] :: ys.drop (i + 1) := List.drop_eq_getElem_cons hlt2
      rw [hi2]
      rw [hd, hd2, List.map_cons, List.map_cons, ltLs] at h
      dsimp only
      refine wpAny_bind (PySem.wpAny_eqBool_str (E := fun e s' => R (.error e) s') ?_)
      by_cases he : xs[i].1 = ys[i].1
      · rw [decide_eq_true he]
        rw [if_pos he] at h
        wp_walk
        rw [hc]
        exact ⟨plainId_quiet plain_eq_loop _, codeAny_builtin entry_eq_loop (by
          rw [Around.under_plainId plain_eq_loop _]
          exact ih (i + 1) (sub_nx hk) hlt prog w A R _ ⟨hl, hb, h⟩)⟩
      · rw [decide_eq_false he]
        rw [if_neg he] at h
        wp_walk using wpAny_loadPart' hl, wpAny_loadPart' hb
        rw [hi1, hi2]
        dsimp only
        refine wpAny_bind (rc_lt ?_)
        exact wpAny_pure h
    · have hi2 : (strValues ys).toArray[((i : Nat) : Int).toNat]? = none := by simp [strValues]; (first | lia | omega)
      have hd2 : ys.drop i = [] := by simp; (first | lia | omega)
      rw [hi2]
      rw [hd, hd2, List.map_cons, List.map_nil, ltLs] at h
      wp_walk using wpAny_loadPart' hl, wpAny_loadPart' hb
      show R (.ok (.ret (.bool (decide ((strValues xs).toArray.size < (strValues ys).toArray.size))))) _
      rw [List.size_toArray, List.size_toArray, strValues, strValues, List.length_map, List.length_map, decide_eq_false (by (first | lia | omega))]
      exact h
theorem gt_loop (l b : Addr) (xs ys : List (Str × Tok)) (n n2 : Nat) (k : Nat) :
    ∀ i : Nat, xs.length - i = k → i ≤ xs.length → i ≤ ys.length → Meets (Builtin.«list.__eq__.loop» ⟨[.ref l, .ref b, rawInt i, rawInt 4], []⟩)
      (fun _ R s => s.heap.get? l = some { cls := .type "list", data := .seq (strValues xs).toArray n } ∧ s.heap.get? b = some { cls := .type "list", data := .seq (strValues ys).toArray n2 } ∧
        R (.ok (.ret (.bool (gtLs ((xs.drop i).map (·.1)) ((ys.drop i).map (·.1)))))) s) := by
  induction k with
  | zero =>
    intro i hk hi hiy prog w A R s h
    obtain ⟨hp, g, d, tk, os⟩ := s; obtain ⟨hl, hb, h⟩ := h
    wp_walk using wpAny_loadPart' hl, wpAny_loadPart' hb
    have hin : i = xs.length := sub_end hk hi
    have hi1 : (strValues xs).toArray[((i : Nat) : Int).toNat]? = none := by simp [strValues]; (first | lia | omega)
    rw [hi1]
    wp_walk using wpAny_loadPart' hl, wpAny_loadPart' hb
    rw [hin, List.drop_length, List.map_nil] at h
    show R (.ok (.ret (.bool (decide ((strValues xs).toArray.size > (strValues ys).toArray.size))))) _
    rw [show decide ((strValues xs).toArray.size > (strValues ys).toArray.size) = gtLs [] ((ys.drop xs.length).map (·.1)) from ?_]
    · exact h
    · rw [List.size_toArray, List.size_toArray, strValues, strValues, List.length_map, List.length_map]
      cases hd : ys.drop xs.length with
      | nil => simp only [List.map_nil, gtLs]; exact decide_eq_false (by (first | lia | omega))
      | cons a r => simp only [List.map_cons, gtLs]; exact decide_eq_false (by intro hn; rw [List.drop_eq_nil_iff.mpr (by (first | lia | omega))] at hd; cases hd)
  | succ k ih =>
    intro i hk hi hiy prog w A R s h
    obtain ⟨hp, g, d, tk, os⟩ := s; obtain ⟨hl, hb, h⟩ := h
    wp_walk using wpAny_loadPart' hl, wpAny_loadPart' hb
    have hlt : i < xs.length := sub_in hk
    have hi1 : (strValues xs).toArray[((i : Nat) : Int).toNat]? = some (.str xs[i].1 xs[i].2) := by simp [strValues, hlt]
    have hd : xs.drop i = xs[i] :: xs.drop (i + 1) := List.drop_eq_getElem_cons hlt
    have hc : ((i : Int) + 1) = ((i + 1 : Nat) : Int) := by push_cast; rfl
    rw [hi1]
    by_cases hlt2 : i < ys.length
    · have hi2 : (strValues ys).toArray[((i : Nat) : Int).toNat]? = some (.str ys[i].1 ys[i].2) := by simp [strValues, hlt2]
      have hd2 : ys.drop i = ys[i] :: ys.drop (i + 1) := List.drop_eq_getElem_cons hlt2
      rw [hi2]
      rw [hd, hd2, List.map_cons, List.map_cons, gtLs] at h
      dsimp only
      refine wpAny_bind (PySem.wpAny_eqBool_str (E := fun e s' => R (.error e) s') ?_)
      by_cases he : xs[i].1 = ys[i].1
      · rw [decide_eq_true he]
        rw [if_pos he] at h
        wp_walk
        rw [hc]
        exact ⟨plainId_quiet plain_eq_loop _, codeAny_builtin entry_eq_loop (by
          rw [Around.under_plainId plain_eq_loop _]
          exact ih (i + 1) (by (first | lia | omega)) (by (first | lia | omega)) (by (first | lia | omega)) prog w A R _ ⟨hl, hb, h⟩)⟩
      · rw [decide_eq_false he]
        rw [if_neg he] at h
        wp_walk using wpAny_loadPart' hl, wpAny_loadPart' hb
        rw [hi1, hi2]
        dsimp only
        refine wpAny_bind (rc_gt ?_)
        exact wpAny_pure h
    · have hi2 : (strValues ys).toArray[((i : Nat) : Int).toNat]? = none := by simp [strValues]; (first | lia | omega)
      have hd2 : ys.drop i = [] := by simp; (first | lia | omega)
      rw [hi2]
      rw [hd, hd2, List.map_cons, List.map_nil, gtLs] at h
      wp_walk using wpAny_loadPart' hl, wpAny_loadPart' hb
      show R (.ok (.ret (.bool (decide ((strValues xs).toArray.size > (strValues ys).toArray.size))))) _
      rw [List.size_toArray, List.size_toArray, strValues, strValues, List.length_map, List.length_map, decide_eq_true (by (first | lia | omega))]
      exact h

theorem list_lt (l b : Addr) (xs ys : List (Str × Tok)) (n n2 : Nat) : Meets (Builtin.«list.__lt__» ⟨[.ref l, .ref b], []⟩)
      (fun _ R s => s.heap.get? l = some { cls := .type "list", data := .seq (strValues xs).toArray n } ∧ s.heap.get? b = some { cls := .type "list", data := .seq (strValues ys).toArray n2 } ∧
        R (.ok (.ret (.bool (ltLs (xs.map (·.1)) (ys.map (·.1)))))) s) := by
  intro prog w A R s h
  obtain ⟨hp, g, d, tk, os⟩ := s; obtain ⟨hl, hb, h⟩ := h
  have f3 := AutoSeq1.sub_list_list
  wp_walk using wpAny_loadPart' hl, wpAny_loadPart' hb
  exact ⟨plainId_quiet plain_eq_loop _, codeAny_builtin entry_eq_loop (by
    rw [Around.under_plainId plain_eq_loop _]
    exact lt_loop l b xs ys n n2 _ 0 rfl (Nat.zero_le _) prog w A R _ ⟨hl, hb, by simpa using h⟩)⟩
theorem list_gt (l b : Addr) (xs ys : List (Str × Tok)) (n n2 : Nat) : Meets (Builtin.«list.__gt__» ⟨[.ref l, .ref b], []⟩)
      (fun _ R s => s.heap.get? l = some { cls := .type "list", data := .seq (strValues xs).toArray n } ∧ s.heap.get? b = some { cls := .type "list", data := .seq (strValues ys).toArray n2 } ∧
        R (.ok (.ret (.bool (gtLs (xs.map (·.1)) (ys.map (·.1)))))) s) := by
  intro prog w A R s h
  obtain ⟨hp, g, d, tk, os⟩ := s; obtain ⟨hl, hb, h⟩ := h
  have f3 := AutoSeq1.sub_list_list
  wp_walk using wpAny_loadPart' hl, wpAny_loadPart' hb
  exact ⟨plainId_quiet plain_eq_loop _, codeAny_builtin entry_eq_loop (by
    rw [Around.under_plainId plain_eq_loop _]
    exact gt_loop l b xs ys n n2 _ 0 rfl (Nat.zero_le _) (Nat.zero_le _) prog w A R _ ⟨hl, hb, by simpa using h⟩)⟩
section
variable {prog : Program} {w : World} {A : Around} {E : Value → Shared → Prop} {s : Shared}
theorem rcl_lt {l b : Addr} {xs ys : List (Str × Tok)} {n n2 : Nat} {Q : Value → Shared → Prop} (hl : s.heap.get? l = some { cls := .type "list", data := .seq (strValues xs).toArray n }) (hb : s.heap.get? b = some { cls := .type "list", data := .seq (strValues ys).toArray n2 })
    (hu : A.units < cLine) (h : Q (.bool (ltLs (xs.map (·.1)) (ys.map (·.1)))) s) : wpAny (model prog w) A (richCompare .Lt (.ref l) (.ref b)) Q E s :=
  richCompare_meets_room (op := .Lt) (T := "list") ⟨_, hl, rfl⟩ ⟨_, hb, rfl⟩ F.slot_list_lt F.entry_list_lt (F.args_list_lt_2 _ _) (list_lt l b xs ys n n2) ⟨hl, hb, And.intro (fun e => nomatch e) h⟩ hu
theorem rcl_gt {l b : Addr} {xs ys : List (Str × Tok)} {n n2 : Nat} {Q : Value → Shared → Prop} (hl : s.heap.get? l = some { cls := .type "list", data := .seq (strValues xs).toArray n }) (hb : s.heap.get? b = some { cls := .type "list", data := .seq (strValues ys).toArray n2 })
    (hu : A.units < cLine) (h : Q (.bool (gtLs (xs.map (·.1)) (ys.map (·.1)))) s) : wpAny (model prog w) A (richCompare .Gt (.ref l) (.ref b)) Q E s :=
  richCompare_meets_room (op := .Gt) (T := "list") ⟨_, hl, rfl⟩ ⟨_, hb, rfl⟩ F.slot_list_gt F.entry_list_gt (F.args_list_gt_2 _ _) (list_gt l b xs ys n n2) ⟨hl, hb, And.intro (fun e => nomatch e) h⟩ hu
end
end Mine

end
noncomputable section
open PySem PySem.W PyProof.Rows PyProof.Rows.LCg PySem.Calls PySem.Spec Mine
namespace Mine
section
variable {prog : Program} {w : World} {A : Around} {E : Value → Shared → Prop} {s : Shared}
theorem min2_third {R : Result → Shared → Prop} {I S D : Addr} {its : Array Value} {vb : Value} {c : Nat} (W : Walks prog w A.in1 I [I, D] [I] its.size (fun i v => its[i]? = some v) (fun i h => h.IsListIter I D i ∧ h.IsList D its)) (hSI : S ≠ I)
    (hst : s.heap.IsListIter I D its.size ∧ s.heap.IsList D its) (hS : s.heap.get? S = some { cls := .type "list", dict := none, data := .seq #[vb, vb] c, slots := #[] })
    (hR : ∀ h' tk, (∀ b o, b ≠ I → b ≠ S → s.heap.get? b = some o → h'.get? b = some o) → R (.ok (.ret vb)) { s with heap := h', toks := tk }) :
    codeAny (model prog w) A (.builtin "min.loop" ⟨[.ref I, .none, .ref S], []⟩) R s := by
  refine codeAny_builtin F.entry_min_loop ?_
  rw [Around.under_plainId F.plain_min_loop _]
  show wpAny _ A.in1 (seqItems? (.ref S) >>= _) _ _ s
  refine wpAny_bind (wpAny_seqItems hS rfl ?_)
  show wpAny _ A.in1 (tryCatch (pyNext (.ref I)) _ >>= _) _ _ s
  refine wpAny_bind (wpAny_tryCatch (W.done s _ _ hst fun h' tk hk' => ?_))
  have k' : ∀ b o, b ≠ I → s.heap.get? b = some o → h'.get? b = some o := fun b o hb e => hk' b o (by simpa using hb) e
  have hS' := k' S _ hSI hS
  show wpAny _ A.in1 (updateSeq S (fun _ => #[]) >>= _) _ _ _
  refine wpAny_bind ?_
  refine wpAny_updateSeq hS' rfl (wpAny_bind (wpAny_letGo (wpAny_pure ?_)))
  exact hR _ tk fun b o hbw hbS e => (Heap.get?_update_other _ _ (Ne.symm hbS)).trans (k' b o hbw e)
theorem call_min2 {D a b : Addr} {xs ys : List (Str × Tok)} {n n2 : Nat} {Q : Value → Shared → Prop} (hh : A.handled = none) (hu : A.units + 10 < cLine) (hD : s.heap.IsList D #[.ref a, .ref b])
    (ha : s.heap.get? a = some { cls := .type "list", data := .seq (strValues xs).toArray n }) (hb : s.heap.get? b = some { cls := .type "list", data := .seq (strValues ys).toArray n2 }) (hlt : ltLs (ys.map (·.1)) (xs.map (·.1)) = false)
    (hQ : ∀ h' tk, (∀ c o, s.heap.get? c = some o → h'.get? c = some o) → Q (.ref a) { s with heap := h', toks := tk }) :
    wpAny (model prog w) A (call (.builtin "min") [.ref D]) Q E s := by
  have hname : (toString "min" ++ toString ".loop" : String) = "min.loop" := by decide
  refine call_function_tree F.kind_min F.plain_min F.entry_min (F.args_min1 _) ?_
  show wpAny _ A.in1 (Builtin.Builtins.bindParams "min" ["key", "default"] 0 ⟨[], []⟩ >>= _) _ _ s
  refine wpAny_bind (wpAny_of_eq (show Builtin.Builtins.bindParams "min" ["key", "default"] 0 ⟨[], []⟩ = pure [none, none] from rfl) ?_)
  refine wpAny_bind (wpAny_pure ?_)
  refine wpAny_bind (wpAny_pyIter_list hD ?_)
  generalize hH1 : s.heap.push { cls := .type "list_iterator", data := .fields #[.ref D, .int 0 0] } = h₂
  refine wpAny_bind (wpAny_newObj_type ?_)
  dsimp only
  generalize hH2 : h₂.push { cls := .type "list", data := .seq ([] : List Value).toArray } = H2
  have e1 : h₂.objs.size = s.heap.objs.size + 1 := by rw [← hH1, Heap.size_push]
  have hIS : s.heap.objs.size ≠ h₂.objs.size := by rw [e1]; exact Nat.ne_of_lt (Nat.lt_succ_self _)
  have up : ∀ c o, s.heap.get? c = some o → H2.get? c = some o := fun c o e => hH2 ▸ Heap.get?_push_of_some _ (hH1 ▸ Heap.get?_push_of_some _ e)
  have offI : ∀ c o, s.heap.get? c = some o → c ≠ s.heap.objs.size ∧ c ≠ h₂.objs.size := fun c o e => ⟨Nat.ne_of_lt (Heap.lt_size e), by rw [e1]; exact Nat.ne_of_lt (Nat.lt_succ_of_lt (Heap.lt_size e))⟩
  obtain ⟨oD, hoD, _⟩ := id hD
  have W : Walks prog w A.in1 s.heap.objs.size [s.heap.objs.size, D] [s.heap.objs.size] (#[Value.ref a, Value.ref b] : Array Value).size (fun i v => (#[Value.ref a, Value.ref b] : Array Value)[i]? = some v) (fun i h => h.IsListIter s.heap.objs.size D i ∧ h.IsList D #[.ref a, .ref b]) := Walks.list (prog := prog) (w := w) (A := A.in1) hh s.heap.objs.size D (offI D _ hoD).1 _
  have hSf : h₂.objs.size ∉ [s.heap.objs.size, D] := by
    simp only [List.mem_cons, List.not_mem_nil, or_false, not_or]
    exact ⟨Ne.symm hIS, Ne.symm (offI D _ hoD).2⟩
  have hit : H2.get? s.heap.objs.size = some { cls := .type "list_iterator", data := .fields #[.ref D, .int 0 0] } := hH2 ▸ Heap.get?_push_of_some _ (hH1 ▸ Heap.get?_push_size _ rfl)
  have hS0 : H2.get? h₂.objs.size = some { cls := .type "list", data := .seq ([] : List Value).toArray } := hH2 ▸ Heap.get?_push_size _ rfl
  rw [hname]
  refine wpAny_pure ⟨plainId_quiet F.plain_min_loop _, ?_⟩
  -- the first
  refine codeAny_builtin F.entry_min_loop ?_
  rw [Around.under_plainId F.plain_min_loop _]
  show wpAny _ A.in1 (seqItems? (.ref h₂.objs.size) >>= _) _ _ _
  refine wpAny_bind (wpAny_seqItems hS0 rfl ?_)
  show wpAny _ A.in1 (tryCatch (pyNext (.ref s.heap.objs.size)) _ >>= _) _ _ _
  refine wpAny_bind (wpAny_tryCatch (W.item 0 _ _ _ (by show 0 < 2; decide) ⟨⟨_, hit, rfl, rfl⟩, hD.at fun o e => up _ _ e⟩ fun v h3 tk3 hP hst3 hk3 => ?_))
  obtain rfl : v = .ref a := by simpa using hP.symm
  have hS1 := hk3 _ _ (by simpa using Ne.symm hIS) hS0
  show wpAny _ A.in1 (updateSeq h₂.objs.size (fun _ => #[.ref a, .ref a]) >>= _) _ _ _
  refine wpAny_bind ?_
  refine wpAny_updateSeq hS1 rfl ?_
  rw [hname]
  have hS2 := Heap.get?_update_self (Obj.mapSeq (fun _ => #[Value.ref a, Value.ref a])) hS1 rfl
  generalize hH4 : h3.update h₂.objs.size (Obj.mapSeq (fun _ => #[Value.ref a, Value.ref a])) = h4 at hS2 ⊢
  have k4 : ∀ c o, c ≠ s.heap.objs.size → c ≠ h₂.objs.size → H2.get? c = some o → h4.get? c = some o := fun c o c1 c2 e => hH4 ▸ (Heap.get?_update_other _ _ (Ne.symm c2)).trans (hk3 c o (by simpa using c1) e)
  have hst4 := W.frame _ _ h4 hst3 fun c hc o e => hH4 ▸ (Heap.get?_update_other _ _ (fun (q : h₂.objs.size = c) => hSf (by rw [q]; exact hc))).trans e
  refine wpAny_pure ⟨plainId_quiet F.plain_min_loop _, ?_⟩
  -- the second
  refine codeAny_builtin F.entry_min_loop ?_
  rw [Around.under_plainId F.plain_min_loop _]
  show wpAny _ A.in1 (seqItems? (.ref h₂.objs.size) >>= _) _ _ _
  refine wpAny_bind (wpAny_seqItems hS2 rfl ?_)
  show wpAny _ A.in1 (tryCatch (pyNext (.ref s.heap.objs.size)) _ >>= _) _ _ _
  refine wpAny_bind (wpAny_tryCatch (W.item 1 _ _ _ (by show 1 < 2; decide) hst4 fun v h5 tk5 hP hst5 hk5 => ?_))
  obtain rfl : v = .ref b := by simpa using hP.symm
  have k5 : ∀ c o, s.heap.get? c = some o → h5.get? c = some o := fun c o e => hk5 c o (by simpa using (offI c o e).1) (k4 c o (offI c o e).1 (offI c o e).2 (up c o e))
  have hS5 := hk5 _ _ (by simpa using Ne.symm hIS) hS2
  show wpAny _ A.in1 (tryCatch (holding [.ref b, .ref b] (richCompare .Lt (.ref b) (.ref a) >>= _)) _ >>= _) _ _ _
  refine wpAny_bind (wpAny_tryCatch (wpAny_holding (wpAny_bind (rcl_lt (xs := ys) (ys := xs) (k5 _ _ hb) (k5 _ _ ha) (by show A.units + 1 < cLine; (first | lia | omega)) ?_))))
  refine wpAny_bind (wpAny_holding (wpAny_truthy_bool ?_))
  refine wpAny_bind (wpAny_letGo (wpAny_pure ?_))
  rw [hlt]
  simp only [Bool.false_eq_true, if_false]
  refine wpAny_bind (wpAny_letGo ?_)
  rw [hname]
  refine wpAny_pure ⟨plainId_quiet F.plain_min_loop _, min2_third W (Ne.symm hIS) hst5 hS5 fun h6 tk6 hk6 => ?_⟩
  exact hQ h6 tk6 fun c o e => hk6 c o (offI c o e).1 (offI c o e).2 (k5 c o e)
theorem max2_third {R : Result → Shared → Prop} {I S D : Addr} {its : Array Value} {vb : Value} {c : Nat} (W : Walks prog w A.in1 I [I, D] [I] its.size (fun i v => its[i]? = some v) (fun i h => h.IsListIter I D i ∧ h.IsList D its)) (hSI : S ≠ I)
    (hst : s.heap.IsListIter I D its.size ∧ s.heap.IsList D its) (hS : s.heap.get? S = some { cls := .type "list", dict := none, data := .seq #[vb, vb] c, slots := #[] })
    (hR : ∀ h' tk, (∀ b o, b ≠ I → b ≠ S → s.heap.get? b = some o → h'.get? b = some o) → R (.ok (.ret vb)) { s with heap := h', toks := tk }) :
    codeAny (model prog w) A (.builtin "max.loop" ⟨[.ref I, .none, .ref S], []⟩) R s := by
  refine codeAny_builtin F.entry_max_loop ?_
  rw [Around.under_plainId F.plain_max_loop _]
  show wpAny _ A.in1 (seqItems? (.ref S) >>= _) _ _ s
  refine wpAny_bind (wpAny_seqItems hS rfl ?_)
  show wpAny _ A.in1 (tryCatch (pyNext (.ref I)) _ >>= _) _ _ s
  refine wpAny_bind (wpAny_tryCatch (W.done s _ _ hst fun h' tk hk' => ?_))
  have k' : ∀ b o, b ≠ I → s.heap.get? b = some o → h'.get? b = some o := fun b o hb e => hk' b o (by simpa using hb) e
  have hS' := k' S _ hSI hS
  show wpAny _ A.in1 (updateSeq S (fun _ => #[]) >>= _) _ _ _
  refine wpAny_bind ?_
  refine wpAny_updateSeq hS' rfl (wpAny_bind (wpAny_letGo (wpAny_pure ?_)))
  exact hR _ tk fun b o hbw hbS e => (Heap.get?_update_other _ _ (Ne.symm hbS)).trans (k' b o hbw e)
theorem call_max2 {D a b : Addr} {xs ys : List (Str × Tok)} {n n2 : Nat} {Q : Value → Shared → Prop} (hh : A.handled = none) (hu : A.units + 10 < cLine) (hD : s.heap.IsList D #[.ref a, .ref b])
    (ha : s.heap.get? a = some { cls := .type "list", data := .seq (strValues xs).toArray n }) (hb : s.heap.get? b = some { cls := .type "list", data := .seq (strValues ys).toArray n2 }) (hlt : gtLs (ys.map (·.1)) (xs.map (·.1)) = true)
    (hQ : ∀ h' tk, (∀ c o, s.heap.get? c = some o → h'.get? c = some o) → Q (.ref b) { s with heap := h', toks := tk }) :
    wpAny (model prog w) A (call (.builtin "max") [.ref D]) Q E s := by
  have hname : (toString "max" ++ toString ".loop" : String) = "max.loop" := by decide
  refine call_function_tree F.kind_max F.plain_max F.entry_max (F.args_max1 _) ?_
  show wpAny _ A.in1 (Builtin.Builtins.bindParams "max" ["key", "default"] 0 ⟨[], []⟩ >>= _) _ _ s
  refine wpAny_bind (wpAny_of_eq (show Builtin.Builtins.bindParams "max" ["key", "default"] 0 ⟨[], []⟩ = pure [none, none] from rfl) ?_)
  refine wpAny_bind (wpAny_pure ?_)
  refine wpAny_bind (wpAny_pyIter_list hD ?_)
  generalize hH1 : s.heap.push { cls := .type "list_iterator", data := .fields #[.ref D, .int 0 0] } = h₂
  refine wpAny_bind (wpAny_newObj_type ?_)
  dsimp only
  generalize hH2 : h₂.push { cls := .type "list", data := .seq ([] : List Value).toArray } = H2
  have e1 : h₂.objs.size = s.heap.objs.size + 1 := by rw [← hH1, Heap.size_push]
  have hIS : s.heap.objs.size ≠ h₂.objs.size := by rw [e1]; exact Nat.ne_of_lt (Nat.lt_succ_self _)
  have up : ∀ c o, s.heap.get? c = some o → H2.get? c = some o := fun c o e => hH2 ▸ Heap.get?_push_of_some _ (hH1 ▸ Heap.get?_push_of_some _ e)
  have offI : ∀ c o, s.heap.get? c = some o → c ≠ s.heap.objs.size ∧ c ≠ h₂.objs.size := fun c o e => ⟨Nat.ne_of_lt (Heap.lt_size e), by rw [e1]; exact Nat.ne_of_lt (Nat.lt_succ_of_lt (Heap.lt_size e))⟩
  obtain ⟨oD, hoD, _⟩ := id hD
  have W : Walks prog w A.in1 s.heap.objs.size [s.heap.objs.size, D] [s.heap.objs.size] (#[Value.ref a, Value.ref b] : Array Value).size (fun i v => (#[Value.ref a, Value.ref b] : Array Value)[i]? = some v) (fun i h => h.IsListIter s.heap.objs.size D i ∧ h.IsList D #[.ref a, .ref b]) := Walks.list (prog := prog) (w := w) (A := A.in1) hh s.heap.objs.size D (offI D _ hoD).1 _
  have hSf : h₂.objs.size ∉ [s.heap.objs.size, D] := by
    simp only [List.mem_cons, List.not_mem_nil, or_false, not_or]
    exact ⟨Ne.symm hIS, Ne.symm (offI D _ hoD).2⟩
  have hit : H2.get? s.heap.objs.size = some { cls := .type "list_iterator", data := .fields #[.ref D, .int 0 0] } := hH2 ▸ Heap.get?_push_of_some _ (hH1 ▸ Heap.get?_push_size _ rfl)
  have hS0 : H2.get? h₂.objs.size = some { cls := .type "list", data := .seq ([] : List Value).toArray } := hH2 ▸ Heap.get?_push_size _ rfl
  rw [hname]
  refine wpAny_pure ⟨plainId_quiet F.plain_max_loop _, ?_⟩
  -- the first
  refine codeAny_builtin F.entry_max_loop ?_
  rw [Around.under_plainId F.plain_max_loop _]
  show wpAny _ A.in1 (seqItems? (.ref h₂.objs.size) >>= _) _ _ _
  refine wpAny_bind (wpAny_seqItems hS0 rfl ?_)
  show wpAny _ A.in1 (tryCatch (pyNext (.ref s.heap.objs.size)) _ >>= _) _ _ _
  refine wpAny_bind (wpAny_tryCatch (W.item 0 _ _ _ (by show 0 < 2; decide) ⟨⟨_, hit, rfl, rfl⟩, hD.at fun o e => up _ _ e⟩ fun v h3 tk3 hP hst3 hk3 => ?_))
  obtain rfl : v = .ref a := by simpa using hP.symm
  have hS1 := hk3 _ _ (by simpa using Ne.symm hIS) hS0
  show wpAny _ A.in1 (updateSeq h₂.objs.size (fun _ => #[.ref a, .ref a]) >>= _) _ _ _
  refine wpAny_bind ?_
  refine wpAny_updateSeq hS1 rfl ?_
  rw [hname]
  have hS2 := Heap.get?_update_self (Obj.mapSeq (fun _ => #[Value.ref a, Value.ref a])) hS1 rfl
  generalize hH4 : h3.update h₂.objs.size (Obj.mapSeq (fun _ => #[Value.ref a, Value.ref a])) = h4 at hS2 ⊢
  have k4 : ∀ c o, c ≠ s.heap.objs.size → c ≠ h₂.objs.size → H2.get? c = some o → h4.get? c = some o := fun c o c1 c2 e => hH4 ▸ (Heap.get?_update_other _ _ (Ne.symm c2)).trans (hk3 c o (by simpa using c1) e)
  have hst4 := W.frame _ _ h4 hst3 fun c hc o e => hH4 ▸ (Heap.get?_update_other _ _ (fun (q : h₂.objs.size = c) => hSf (by rw [q]; exact hc))).trans e
  refine wpAny_pure ⟨plainId_quiet F.plain_max_loop _, ?_⟩
  -- the second
  refine codeAny_builtin F.entry_max_loop ?_
  rw [Around.under_plainId F.plain_max_loop _]
  show wpAny _ A.in1 (seqItems? (.ref h₂.objs.size) >>= _) _ _ _
  refine wpAny_bind (wpAny_seqItems hS2 rfl ?_)
  show wpAny _ A.in1 (tryCatch (pyNext (.ref s.heap.objs.size)) _ >>= _) _ _ _
  refine wpAny_bind (wpAny_tryCatch (W.item 1 _ _ _ (by show 1 < 2; decide) hst4 fun v h5 tk5 hP hst5 hk5 => ?_))
  obtain rfl : v = .ref b := by simpa using hP.symm
  have k5 : ∀ c o, s.heap.get? c = some o → h5.get? c = some o := fun c o e => hk5 c o (by simpa using (offI c o e).1) (k4 c o (offI c o e).1 (offI c o e).2 (up c o e))
  have hS5 := hk5 _ _ (by simpa using Ne.symm hIS) hS2
  show wpAny _ A.in1 (tryCatch (holding [.ref b, .ref b] (richCompare .Gt (.ref b) (.ref a) >>= _)) _ >>= _) _ _ _
  refine wpAny_bind (wpAny_tryCatch (wpAny_holding (wpAny_bind (rcl_gt (xs := ys) (ys := xs) (k5 _ _ hb) (k5 _ _ ha) (by show A.units + 1 < cLine; (first | lia | omega)) ?_))))
  refine wpAny_bind (wpAny_holding (wpAny_truthy_bool ?_))
  refine wpAny_bind (wpAny_letGo (wpAny_pure ?_))
  rw [hlt]
  simp only [if_true]
  refine wpAny_bind ?_
  refine wpAny_updateSeq hS5 rfl (wpAny_bind (wpAny_letGo ?_))
  rw [hname]
  have hS6 := Heap.get?_update_self (Obj.mapSeq (fun _ => #[Value.ref b, Value.ref b])) hS5 rfl
  have hst6 := W.frame _ _ (h5.update h₂.objs.size (Obj.mapSeq (fun _ => #[Value.ref b, Value.ref b]))) hst5 fun c hc o e => (Heap.get?_update_other _ _ (fun (q : h₂.objs.size = c) => hSf (by rw [q]; exact hc))).trans e
  refine wpAny_pure ⟨plainId_quiet F.plain_max_loop _, max2_third W (Ne.symm hIS) hst6 hS6 fun h6 tk6 hk6 => ?_⟩
  exact hQ h6 tk6 fun c o e => hk6 c o (offI c o e).1 (offI c o e).2 ((Heap.get?_update_other _ _ (Ne.symm (offI c o e).2)).trans (k5 c o e))

theorem min_K {h₀ : Heap} {L D a b : Addr} {m : Str → Option Value} {news : List (Addr × Obj)} {xs ys : List (Str × Tok)} {Q : Value → Shared → Prop} (hh : A.handled = none) (hu : A.units + 10 < cLine) (F₁ : Fr h₀ L s.heap m) (N : News h₀ L s.heap news)
    (hD : (D, LCg.lst [.ref a, .ref b]) ∈ news) (ha : (a, LCg.lst (strValues xs)) ∈ news) (hb : (b, LCg.lst (strValues ys)) ∈ news) (hlt : ltLs (ys.map (·.1)) (xs.map (·.1)) = false)
    (hQ : ∀ h' tk, Fr h₀ L h' m → News h₀ L h' news → Q (.ref a) { s with heap := h', toks := tk }) : wpAny (model prog w) A (call (.builtin "min") [.ref D]) Q E s :=
  call_min2 hh hu ⟨_, (N _ hD).1, rfl, _, rfl⟩ (N _ ha).1 (N _ hb).1 hlt fun h' tk hk => hQ h' tk (F₁.keeps fun b o e => hk b o e) fun q hq => ⟨hk _ _ (N q hq).1, (N q hq).2⟩
theorem max_K {h₀ : Heap} {L D a b : Addr} {m : Str → Option Value} {news : List (Addr × Obj)} {xs ys : List (Str × Tok)} {Q : Value → Shared → Prop} (hh : A.handled = none) (hu : A.units + 10 < cLine) (F₁ : Fr h₀ L s.heap m) (N : News h₀ L s.heap news)
    (hD : (D, LCg.lst [.ref a, .ref b]) ∈ news) (ha : (a, LCg.lst (strValues xs)) ∈ news) (hb : (b, LCg.lst (strValues ys)) ∈ news) (hlt : gtLs (ys.map (·.1)) (xs.map (·.1)) = true)
    (hQ : ∀ h' tk, Fr h₀ L h' m → News h₀ L h' news → Q (.ref b) { s with heap := h', toks := tk }) : wpAny (model prog w) A (call (.builtin "max") [.ref D]) Q E s :=
  call_max2 hh hu ⟨_, (N _ hD).1, rfl, _, rfl⟩ (N _ ha).1 (N _ hb).1 hlt fun h' tk hk => hQ h' tk (F₁.keeps fun b o e => hk b o e) fun q hq => ⟨hk _ _ (N q hq).1, (N q hq).2⟩
end
end Mine

end
noncomputable section
open PySem PySem.W PyProof.Rows PyProof.Rows.LCg PySem.Calls PySem.Spec Mine
namespace Mine
section
variable {prog : Program} {w : World} {A : Around} {E : Value → Shared → Prop} {s : Shared} {h₀ : Heap} {m : Str → Option Value} {env : Env}
theorem enum_src {xi xc : Str} {body : List Stmt} {Q : Flow → Shared → Prop} {l : Addr} {its : Array Value} {news : List (Addr × Obj)} (J : Nat → (Str → Option Value) → List (Addr × Obj) → Prop) (hh : A.handled = none)
    (F : Fr h₀ env.locals s.heap m) (N : News h₀ env.locals s.heap news) (hl : s.heap.IsList l its) (hlL : l ≠ env.locals) (h0 : J 0 m news)
    (step : ∀ (i : Nat) (v1 : Value) (t : Tok) m₁ news₁ h tk own, its[i]? = some v1 → J i m₁ news₁ → news₁.map (·.1) = news.map (·.1) →
      Fr h₀ env.locals h (fun y => if y = xc then some v1 else if y = xi then some (.int i t) else m₁ y) → News h₀ env.locals h (own ++ news₁) →
      wpAny (model prog w) A (execs body env) (LoopStep3 h₀ env.locals own news₁ (J (i + 1)) { s with heap := h, toks := tk } (fun v s' => Q (.ret v) s') fun s' => Q .next s') E { s with heap := h, toks := tk })
    (done : ∀ m₁ news₁ h tk, J its.size m₁ news₁ → news₁.map (·.1) = news.map (·.1) → Fr h₀ env.locals h m₁ → News h₀ env.locals h news₁ → Q .next { s with heap := h, toks := tk }) :
    wpAny (model prog w) A (call (.type "enumerate") [.ref l]) (fun xv s₁ => wpAny (model prog w) A (pyIter xv) (fun it s₂ => PairAt3 prog w A h₀ env xi xc body Q E it s₂) E s₁) E s := by
  refine call_enumerate_list hl fun h' he hit hsz hk => ?_
  refine wpAny_pyIter_enum he ?_
  have hLs : env.locals < s.heap.objs.size := F.ns.lt
  have hlt : l < s.heap.objs.size := by obtain ⟨_, e, _⟩ := hl; exact Heap.lt_size e
  have hn0 : ∀ c, s.heap.objs.size ≤ c → h₀.get? c = none := fun c hc => Heap.get?_none_of_le (Nat.le_trans (Nat.le_trans F.above (Nat.le_of_lt hLs)) hc)
  refine ⟨s.heap.objs.size + 1, _, _, its.size, _, _, _, (fun i v0 v1 => ∃ t, v0 = .int i t ∧ its[i]? = some v1), m, news, J, rfl, WalksT.enumerateD (Draws.list (A := A.in1) hh s.heap.objs.size l (Nat.ne_of_lt hlt) its) (s.heap.objs.size + 1) (Nat.succ_ne_self _) ?_ List.mem_cons_self, ?_, ?_, ?_, ?_, ⟨⟨_, by simpa using he⟩, hit, hl.at fun o e => hk _ o e⟩, F.keeps hk, fun q hq => ⟨hk _ _ (N q hq).1, (N q hq).2⟩, h0, ?_, ?_⟩
  · intro hm
    rcases List.mem_cons.mp hm with e | hm
    · exact Nat.succ_ne_self _ e
    · exact Nat.ne_of_gt (Nat.lt_succ_of_lt hlt) (List.mem_singleton.mp hm)
  · rintro i vals ⟨t, x, hPx, rfl⟩
    exact ⟨_, _, rfl, t, rfl, hPx⟩
  · intro hm
    rcases List.mem_cons.mp hm with e | hm
    · exact Nat.ne_of_lt (Nat.lt_succ_of_lt hLs) e
    rcases List.mem_cons.mp hm with e | hm
    · exact Nat.ne_of_lt hLs e
    · exact hlL (List.mem_singleton.mp hm).symm
  · intro b hb
    rcases List.mem_cons.mp hb with rfl | hb
    · exact hn0 _ (Nat.le_succ _)
    · rw [List.mem_singleton.mp hb]; exact hn0 _ (Nat.le_refl _)
  · intro p hp hb
    have hq := Heap.lt_size (N p hp).1
    rcases List.mem_cons.mp hb with e | hb
    · exact Nat.ne_of_lt (Nat.lt_succ_of_lt hq) e
    · exact Nat.ne_of_lt hq (List.mem_singleton.mp hb)
  · rintro i v0 v1 m₁ news₁ s₁ own ⟨h, tk, rfl⟩ _ ⟨t, rfl, hPx⟩ hJ ha _ F₁ N₁
    exact step i v1 t m₁ news₁ h tk own hPx hJ ha F₁ N₁
  · intro h tk m₁ news₁ F₁ N₁ ha hJ
    exact done m₁ news₁ h tk hJ ha F₁ N₁
end
end Mine

end
noncomputable section
open PySem PySem.W PyProof.Rows PyProof.Rows.LCg PySem.Calls PySem.Spec Mine
namespace Mine
section
variable {prog : Program} {w : World} {A : Around} {E : Value → Shared → Prop} {s : Shared}
theorem item_at {value slice : PySem.Expr} {l : Addr} {vs : List Value} {v : Value} {i : Nat} {u : Tok} {Q : Value → Shared → Prop} (hl : s.heap.IsList l vs.toArray) (hfit : vs.length ≤ sizeLine) (hv : vs[i]? = some v) (h : Q v s)
    (hs : subscripted slice false (.ref l) (.int (i : Int) u) = operate [.ref l, .int (i : Int) u] (getItem (.ref l) (.int (i : Int) u)) := by with_unfolding_all rfl) :
    wpAny (model prog w) A (subscriptTail value slice (.ref l) (.int (i : Int) u)) Q E s := by
  have hi : i < vs.length := (List.getElem?_eq_some_iff.mp hv).1
  rw [sizeLine_eq] at hfit
  refine tail_any hl.typeIs slot_list_getitem.lookup (wpAny_getItem_list hl (by (first | lia | omega)) (by (first | lia | omega)) ?_ h) hs
  simpa using hv
end
theorem gt_place : ∀ (xs ys : List Str) (i : Nat), gtLs ys xs = true → xs.take i = ys.take i → i < xs.length → i < ys.length
  | [], _, i, _, _, h => absurd h (Nat.not_lt_zero _)
  | x :: xs, [], i, h, e, hi => by simp [gtLs] at h
  | x :: xs, y :: ys, 0, _, _, _ => Nat.succ_pos _
  | x :: xs, y :: ys, i + 1, h, e, hi => by
    simp only [List.take_succ_cons, List.cons.injEq] at e
    obtain ⟨rfl, e⟩ := e
    rw [gtLs, if_pos rfl] at h
    exact Nat.succ_lt_succ (gt_place xs ys i h e (Nat.lt_of_succ_lt_succ hi))
end Mine

end
noncomputable section
open PySem PySem.W PyProof.Rows PyProof.Rows.LCg PySem.Calls PySem.Spec Mine
namespace Mine
section
variable {h₀ h : Heap} {L : Addr}
theorem news_own {own l : List (Addr × Obj)} (N : News h₀ L h (own ++ l)) : News h₀ L h l := news_sub N fun _ hp => List.mem_append_right _ hp
theorem cp_clean {a1 a2 a3 a4 a5 a6 a7 a8 a9 a10 a11 : Addr × Obj} {news : List (Addr × Obj)} (N : News h₀ L h (a1 :: a2 :: a3 :: a4 :: a5 :: a6 :: a7 :: a8 :: a9 :: a10 :: a11 :: news)) : News h₀ L h (a2 :: a3 :: a10 :: a11 :: news) := news_sub N fun p hp => by
  simp only [List.mem_cons] at hp ⊢
  rcases hp with h | h | h | h | h <;> simp [h]
end
end Mine

end
noncomputable section
open PySem PySem.W PyProof.Rows PyProof.Rows.LCg PySem.Calls PySem.Spec Mine
namespace Mine
noncomputable def stepA {α : Type} (K : Frag) (S : Setting) : Sem α → Option (Obj × (Addr → Sem α))
  | .rule _ k => stepA K S (k ())
  | .point _ k => stepA K S (k ())
  | .ask k => stepA K S (k S)
  | .load a _ k => (K.lookup a).bind fun o => stepA K S (k o)
  | .alloc o k => some (o, k)
  | _ => none
theorem wp_of_stepA {α : Type} {K : Frag} {M : Model} {A : Around} {E : Value → Shared → Prop} {Q : α → Shared → Prop} {s : Shared} {h₀ : Heap} {L : Addr} {m : Str → Option Value} {news : List (Addr × Obj)} {o : Obj} {g : Addr → Sem α}
    (F : Fr h₀ L s.heap m) (N : News h₀ L s.heap news) (X : K.In s.heap) (hf : o.isFreed = false)
    (q : ∀ D h', Fr h₀ L h' m → News h₀ L h' ((D, o) :: news) → (∀ p ∈ news, p.1 < D) → K.In h' → wpAny M A (g D) Q E { s with heap := h' }) :
    ∀ (t : Sem α), stepA K ⟨M.prog, M.w.params⟩ t = some (o, g) → wpAny M A t Q E s := by
  intro t
  induction t with
  | rule _ k ih => intro e Γ p hΓ; exact ih () e Γ p hΓ
  | point _ k ih => intro e Γ p hΓ; exact ih () e Γ p hΓ
  | ask k ih => intro e Γ p hΓ; exact ih _ e Γ p hΓ
  | load a _ k ih =>
    intro e Γ p hΓ
    obtain ⟨ob, ho, e⟩ := Option.bind_eq_some_iff.mp (show ((K.lookup a).bind fun o => stepA K ⟨M.prog, M.w.params⟩ (k o)) = some (o, g) from e)
    exact ⟨ob, X _ _ ho, ih ob e Γ p hΓ⟩
  | alloc ob k _ =>
    intro e
    have e : some (ob, k) = some (o, g) := e
    obtain ⟨e1, e2⟩ := Prod.mk.inj (Option.some.inj e)
    subst e1
    subst e2
    show wpAny M A (alloc ob >>= k) Q E s
    exact wpAny_bind (wpAny_alloc (q _ _ (F.push ob) (News.push F N ob hf) (fun p hp => Heap.lt_size (N p hp).1) (X.keeps fun b x hb => Heap.get?_push_of_some _ hb)))
  | _ => intro e; cases e
noncomputable def peekL {α : Type} (K : Frag) (S : Setting) : Sem α → List Addr → Option (List Obj × α)
  | .pure a => fun l => if l.isEmpty then some ([], a) else none
  | .rule _ k => peekL K S (k ())
  | .point _ k => peekL K S (k ())
  | .ask k => peekL K S (k S)
  | .load a _ k => fun l => (K.lookup a).bind fun o => peekL K S (k o) l
  | .alloc o k => fun l => l.head?.bind fun D => (peekL K S (k D) l.tail).map fun r => (o :: r.1, r.2)
  | _ => fun _ => none
noncomputable def ledL : List (Addr × Obj) → List (Addr × Obj) → List (Addr × Obj)
  | [], l => l
  | p :: r, l => ledL r (p :: l)
theorem wp_of_peekL {α : Type} {K : Frag} {M : Model} {A : Around} {E : Value → Shared → Prop} {Q : α → Shared → Prop} {h₀ : Heap} {L : Addr} {m : Str → Option Value} :
    ∀ (t : Sem α) (l : List Addr) (os : List Obj) (a : α) (news : List (Addr × Obj)) (s : Shared), peekL K ⟨M.prog, M.w.params⟩ t l = some (os, a) → (∀ o ∈ os, o.isFreed = false) → l = List.range' s.heap.objs.size l.length → Fr h₀ L s.heap m → News h₀ L s.heap news → K.In s.heap →
      (∀ h', Fr h₀ L h' m → News h₀ L h' (ledL (l.zip os) news) → Q a { s with heap := h' }) → wpAny M A t Q E s := by
  intro t
  induction t with
  | pure b =>
    intro l os a news s e hf hl F N X q
    cases l with
    | nil =>
      have e : some (([] : List Obj), b) = some (os, a) := e
      obtain ⟨e1, e2⟩ := Prod.mk.inj (Option.some.inj e)
      subst e1 e2; exact wpAny_pure (q s.heap F N)
    | cons _ _ => cases e
  | rule _ k ih => intro l os a news s e hf hl F N X q Γ p hΓ; exact ih () l os a news s e hf hl F N X q Γ p hΓ
  | point _ k ih => intro l os a news s e hf hl F N X q Γ p hΓ; exact ih () l os a news s e hf hl F N X q Γ p hΓ
  | ask k ih => intro l os a news s e hf hl F N X q Γ p hΓ; exact ih _ l os a news s e hf hl F N X q Γ p hΓ
  | load b _ k ih =>
    intro l os a news s e hf hl F N X q Γ p hΓ
    obtain ⟨ob, ho, e⟩ := Option.bind_eq_some_iff.mp (show ((K.lookup b).bind fun o => peekL K ⟨M.prog, M.w.params⟩ (k o) l) = some (os, a) from e)
    exact ⟨ob, X _ _ ho, ih ob l os a news s e hf hl F N X q Γ p hΓ⟩
  | alloc ob k ih =>
    intro l os a news s e hf hl F N X q
    cases l with
    | nil => cases e
    | cons D l =>
      have e : (peekL K ⟨M.prog, M.w.params⟩ (k D) l).map (fun r => (ob :: r.1, r.2)) = some (os, a) := e
      obtain ⟨⟨os', a'⟩, he, e⟩ := Option.map_eq_some_iff.mp e
      obtain ⟨e1, e2⟩ := Prod.mk.inj e
      subst e1 e2
      obtain ⟨hD, hl2⟩ := List.cons.inj ((show (D :: l) = s.heap.objs.size :: List.range' (s.heap.objs.size + 1) l.length from hl))
      subst hD
      have hfo := hf ob List.mem_cons_self
      show wpAny M A (alloc ob >>= k) Q E s
      refine wpAny_bind (wpAny_alloc ?_)
      refine ih _ l os' a' _ { s with heap := s.heap.push ob } he (fun o ho => hf o (List.mem_cons_of_mem _ ho)) ?_ (F.push ob) (News.push F N ob hfo) (X.keeps fun b x hb => Heap.get?_push_of_some _ hb) (fun h' F' N' => q h' F' N')
      show l = List.range' (s.heap.push ob).objs.size l.length
      rw [Heap.size_push]; exact hl2
  | _ => intro l os a news s e; cases e
section
variable {α : Type} {K : Frag} {M : Model} {A : Around} {E : Value → Shared → Prop} {Q : α → Shared → Prop} {h₀ : Heap} {L : Addr} {m : Str → Option Value} {news : List (Addr × Obj)} {s : Shared} {t : Sem α}
theorem wp_peek1 {o : Obj} {a : Addr → α} (F : Fr h₀ L s.heap m) (N : News h₀ L s.heap news) (X : K.In s.heap) (e : ∀ D, peekL K ⟨M.prog, M.w.params⟩ t [D] = some ([o], a D)) (hf : o.isFreed = false)
    (q : ∀ D h', Fr h₀ L h' m → News h₀ L h' ((D, o) :: news) → (∀ p ∈ news, p.1 < D) → Q (a D) { s with heap := h' }) : wpAny M A t Q E s :=
  wp_of_peekL t [s.heap.objs.size] [o] _ news s (e _) (by simpa using hf) rfl F N X fun h' F' N' => q _ h' F' N' fun p hp => Heap.lt_size (N p hp).1
theorem wp_peek2 {o₁ : Obj} {o₂ : Addr → Obj} {a : Addr → Addr → α} (F : Fr h₀ L s.heap m) (N : News h₀ L s.heap news) (X : K.In s.heap) (e : ∀ D D2, peekL K ⟨M.prog, M.w.params⟩ t [D, D2] = some ([o₁, o₂ D], a D D2)) (hf : o₁.isFreed = false) (hf2 : ∀ D, (o₂ D).isFreed = false)
    (q : ∀ D D2 h', Fr h₀ L h' m → News h₀ L h' ((D2, o₂ D) :: (D, o₁) :: news) → (∀ p ∈ news, p.1 < D) → D < D2 → Q (a D D2) { s with heap := h' }) : wpAny M A t Q E s :=
  wp_of_peekL t [s.heap.objs.size, s.heap.objs.size + 1] [o₁, o₂ s.heap.objs.size] _ news s (e _ _) (by intro o ho; rcases List.mem_cons.mp ho with rfl | ho; exact hf; rw [List.mem_singleton.mp ho]; exact hf2 _) rfl F N X
    fun h' F' N' => q _ _ h' F' N' (fun p hp => Heap.lt_size (N p hp).1) (Nat.lt_succ_self _)
end
section
variable {prog : Program} {w : World} {A A₀ : Around} {s : Shared} {K : Frag} {L : Addr} {h₀ base : Heap} {m mg mb : Str → Option Value} {news : List (Addr × Obj)} {p : Program} {loose : List Str} {mean : ExcName → Option Value}
theorem kp_both {env : Env} {outer : List Env} {R : Result → Shared → Prop} {name qual : Str} {params : Arguments} {body : List Stmt} {scope : Scope} {dV kV doc pm cdv ct oc : Value} {an od : Option Addr} {osl : Array (Option Value)} {f : Addr} {args : Args} {o₁ o₂ : Obj} {g₁ : Addr → Sem (List (Str × Value))} {g₂ : Addr → Addr → Sem (List (Str × Value))} {binds : Addr → Addr → List (Str × Value)}
    (B : Below A₀ base outer h₀) (F : Fr h₀ L s.heap m) (X₀ : K.In h₀) (N : News h₀ L s.heap news) (T : Top p loose mean mg mb h₀) (hA : A.frames = some (env :: outer)) (hf : env.frame = some L) (hke : env.scope.kind = .function)
    (ho : K.lookup f = some ⟨oc, od, .func (fnOf name qual params body scope dV kV doc pm an cdv ct), osl⟩) (hcd : codeIn K cdv qual = true) (hroom : A.depth < recursionLimit)
    (hp : stepA K ⟨prog, w.params⟩ (bindArgs (fnOf name qual params body scope dV kV doc pm an cdv ct) args) = some (o₁, g₁)) (hp2 : ∀ D, stepA K ⟨prog, w.params⟩ (g₁ D) = some (o₂, g₂ D)) (hp3 : ∀ D D2, peek K ⟨prog, w.params⟩ (g₂ D D2) = some (binds D D2))
    (hf1 : o₁.isFreed = false) (hf2 : o₂.isFreed = false) (hloc : ∀ D D2, ∀ y ∈ binds D D2, scope.names.lookup y.1 = some .local)
    (h : ∀ D D2 g L' h₁, (∀ p ∈ news, p.1 < D) → D < D2 → Fr h₀ L g m → Fr g L' h₁ (fun y => (binds D D2).reverse.lookup y) → News g L' h₁ ((D2, o₂) :: (D, o₁) :: news) → Below A base (env :: outer) g → K.In g → Top p loose mean mg mb g →
      wpAny (model prog w) (A.deeper (envOf qual scope L' f cdv)) (execs body (envOf qual scope L' f cdv))
        (fun fl s' => LeaveK h₀ L m g R (match fl with | .ret v => v | _ => .none) s')
        (fun e s' => wpAny (model prog w) (A.deeper (envOf qual scope L' f cdv)) (leaving (envOf qual scope L' f cdv) e) (fun _ s'' => R (.error e) s'') (fun e' s'' => R (.error e') s'') s')
        { s with heap := h₁, toks := s.toks + (binds D D2).length })
    (hco : scope.isCoroutine = false) (hgen : scope.isGenerator = false) (hk : scope.kind = .function)
    (hcell : ∀ x ∈ scope.names, x.2 ≠ .cell) : codeAny (model prog w) A (.call (.ref f) args) R s := by
  refine codeAny_call_function (fd := fnOf name qual params body scope dV kV doc pm an cdv ct) (body := body) hroom ((X₀.keeps F.keep) _ _ ho) rfl hco hgen rfl (codeRec_of (X₀.keeps F.keep) hcd) ?_
  refine wp_of_stepA F N (X₀.keeps F.keep) hf1 (fun D h' F' N' l X' => ?_) _ hp
  refine wp_of_stepA (s := { s with heap := h' }) F' N' X' hf2 (fun D2 h2 F2 N2 l2 X2 => ?_) _ (hp2 D)
  refine (Looks.of_peek (M := model prog w) X2 (hp3 D D2)).here (s := { s with heap := h2 }) ?_
  exact kp_frame (cl := []) (s := { s with heap := h2 }) B F2 N2 T.nolimit hA hf hke (hloc D D2) (fun g L' h₁ FG FL NG BG st => h D D2 g L' h₁ l (l2 (D, o₁) List.mem_cons_self) FG FL NG BG (X₀.keeps st) (T.keeps st)) hcell hk
end
end Mine
namespace Mine
theorem news_tl2 {h₀ h : Heap} {L : Addr} {a b : Addr × Obj} {l : List (Addr × Obj)} (N : News h₀ L h (a :: b :: l)) : News h₀ L h l := news_sub N fun _ hp => List.mem_cons_of_mem _ (List.mem_cons_of_mem _ hp)
theorem news_tl {h₀ h : Heap} {L : Addr} {a : Addr × Obj} {l : List (Addr × Obj)} (N : News h₀ L h (a :: l)) : News h₀ L h l := news_sub N fun _ hp => List.mem_cons_of_mem _ hp
end Mine

end
noncomputable section
open PySem PySem.W PyProof.Rows PyProof.Rows.LCg PySem.Calls PySem.Spec Mine Builtin
namespace Mine
section
variable {w : World} {h h₀ : Heap} {A : Around} {R : Result → Shared → Prop} {L : Addr} {m : Str → Option Value} {news : List (Addr × Obj)} {s : Shared}
theorem lk_made (X : (kf w.params).In h) : Looks (model pw w) h (Bind.madeBy (.ref 721)) none := Looks.of_peek X (by kernel_rfl)
theorem lk_base (X : (kf w.params).In h) : Looks (model pw w) h (Bind.staticBase (.ref 721)) (.type "object") := Looks.of_peek X (by kernel_rfl)
theorem lk_made2 (X : (kf w.params).In h) : Looks (model pw w) h (Bind.madeBy (.type "object")) (some "object.__new__") := Looks.of_peek X (by kernel_rfl)
theorem lk_here (X : (kf w.params).In h) : Looks (model pw w) h (Bind.madeHere "object.__new__" (.ref 721)) () := (lk_base X).andThen ((lk_made2 X).andThen (Looks.of_pure (by simp only [Option.map_some, bne_self_eq_false, Bool.false_eq_true, if_false])))
theorem lk_isType (X : (kf w.params).In h) : Looks (model pw w) h (isType (.ref 721)) true := Looks.of_peek X (by kernel_rfl)
theorem lk_sub (X : (kf w.params).In h) : Looks (model pw w) h (isSubtype (.ref 721) (.type "object")) true := Looks.of_peek X (by kernel_rfl)
theorem lk_mro (X : (kf w.params).In h) : Looks (model pw w) h (mroOf (.ref 721)) [.ref 721, .ref 244, .ref 217, .type "object"] := Looks.of_peek X (by kernel_rfl)
theorem lk_call (X : (kf w.params).In h) : Looks (model pw w) h (specialOf (.ref 721) "__call__") (some (.builtin "type.__call__")) := Looks.of_peek X (by kernel_rfl)
theorem lk_typ (X : (kf w.params).In h) : Looks (model pw w) h (isInstance (.ref 721) (.type "type")) true := Looks.of_peek X (by kernel_rfl)
theorem lk_check {M : Model} {E : Value → Shared → Prop} {Q : Unit → Shared → Prop} (hM : M = model pw w) (X : (kf w.params).In s.heap) (q : Q () s) : wpAny M A (checkBuiltinCall "object.__new__" ⟨[.ref 721], []⟩) Q E s := by
  subst hM
  have FF := PySem.F.objNew
  simp only [checkBuiltinCall, FF.kind, FF.split, FF.row]
  have t1 := lk_isType X
  have t2 := lk_sub X
  have t3 := lk_base X
  have t4 := lk_made2 X
  have args : Bind.checkArgs "object.__new__" ⟨.hand, "object.__new__", "__new__", .cls, []⟩ ⟨[.ref 721], []⟩ = pure () := by kernel_rfl
  rw [args]
  repeat (first | simp only [bne_self_eq_false, Bool.false_eq_true, if_false] | lk)
  exact q
theorem new_code (X : (kf w.params).In s.heap) (F : Fr h₀ L s.heap m) (N : News h₀ L s.heap news)
    (hq : ∀ x dx h', Fr h₀ L h' m → News h₀ L h' ((x, instObj 721 dx) :: (dx, emptyDict) :: news) → (∀ p ∈ news, p.1 < dx) → dx < x → R (.ok (.ret (.ref x))) { s with heap := h' }) :
    codeAny (model pw w) A (.call (.builtin "object.__new__") ⟨[.ref 721], []⟩) R s := by
  have FF := PySem.F.objNew
  refine codeAny_call_builtin_code (Code.quiet_builtin _ FF.quiet) (lk_check rfl X ?_)
  refine codeAny_builtin FF.entry ?_
  have t1 := lk_isType X
  have t2 := lk_here X
  unfold Builtin.«object.__new__»
  refine wpAny_bind (t1.here ?_)
  refine wpAny_bind (t2.here ?_)
  refine wp_peek2 (K := kf w.params) (o₁ := emptyDict) (o₂ := fun D => instObj 721 D) (a := fun D D2 => Fin.done (.ret (.ref D2))) F N X ?hs rfl (fun _ => rfl) ?_
  case hs => intro D D2; kernel_rfl
  exact fun D D2 h' F' N' l1 l2 => hq D2 D h' F' N' l1 l2
end
end Mine

end
noncomputable section
open PySem PySem.W PyProof.Rows PyProof.Rows.LCg PySem.Calls PySem.Spec Mine
namespace Mine
noncomputable abbrev at1 (P : Params) (n : String) (k : Tok) (v : Value) : DictEntry := { hash := PyData.keyHash P (Str.ofString n), key := .str (Str.ofString n) k, val := v }
noncomputable abbrev sioD (P : Params) (x : Str) (pos : Int) (k1 k2 k3 tn tb tp : Tok) : Obj :=
  dictOf [at1 P "_StringIO__newline" k1 (.str (Str.ofString "\n") tn), at1 P "_StringIO__buf" k2 (.str x tb), at1 P "_StringIO__pos" k3 (.int pos tp)] 3
theorem fr_to {h₀ h : Heap} {L : Addr} {m : Str → Option Value} (m' : Str → Option Value) (F : Fr h₀ L h m) (e : m = m' := by rfl) : Fr h₀ L h m' := e ▸ F
theorem slice_sl (x : Str) (lo hi : Option Int) : Txt.slice x lo hi = sl x lo hi := by
  unfold Txt.slice
  split
  · rename_i h; exact (sl_whole x lo hi (by simpa using h)).symm
  · rfl
theorem slice_list (x : Str) (lo hi : Option Int) : (Txt.slice x lo hi).cps.toList = (x.cps.toList.drop (clipN x.length 0 lo)).take (clipN x.length x.length hi - clipN x.length 0 lo) := by rw [slice_sl, sl_list]
theorem str_eq {x y : Str} (h : x.cps.toList = y.cps.toList) : x = y := Str.ext' (Array.toList_inj.mp h)
theorem clip_nat {n d a : Nat} (h : a ≤ n) : clipN n d (some (a : Int)) = a := by
  show (max 0 (min (if (a : Int) < 0 then (a : Int) + n else (a : Int)) (n : Int))).toNat = a
  rw [if_neg (nat_nlt a), clip_id h]; rfl
theorem one_of (x : Str) (i c : Nat) (h : x.cps[i]? = some c) : Txt.slice (Txt.slice x (some (i : Int)) (some ((i : Int) + 1)) ++ Str.ofString " ") none (some (-1)) = ⟨#[c]⟩ := by
  have h' : x.cps.toList[i]? = some c := by simpa using h
  have hi : i < x.length := (Array.getElem?_eq_some_iff.mp h).1
  have e1 : (Txt.slice x (some (i : Int)) (some ((i : Int) + 1))).cps.toList = [c] := by
    rw [slice_list]
    have a : clipN x.length 0 (some (i : Int)) = i := clip_nat (Nat.le_of_lt hi)
    have b : clipN x.length x.length (some ((i : Int) + 1)) = i + 1 := clip_nat (a := i + 1) hi
    rw [a, b, Nat.add_sub_cancel_left]
    obtain ⟨hl, he⟩ := List.getElem?_eq_some_iff.mp h'
    rw [List.drop_eq_getElem_cons hl, he]; rfl
  have e2 : Txt.slice x (some (i : Int)) (some ((i : Int) + 1)) = ⟨#[c]⟩ := str_eq e1
  rw [e2]
  apply str_eq
  rw [slice_list]
  rfl
theorem empty_at (x : Str) (i : Nat) (h : x.cps[i]? = none) : x.length ≤ i := by
  have := Array.getElem?_eq_none_iff.mp h
  exact this
theorem lt_at {x : Str} {i c : Nat} (h : x.cps[i]? = some c) : i < x.length := (Array.getElem?_eq_some_iff.mp h).1
end Mine
namespace Mine
theorem lk_sub2 {w : World} {h : Heap} (X : (kf w.params).In h) : Looks (model pw w) h (isSubtype (.ref 721) (.ref 721)) true := Looks.of_peek X (by kernel_rfl)
end Mine
namespace Mine
theorem at_none {x : Str} {i : Nat} (h : (x.length : Int) ≤ (i : Int)) : x.cps[i]? = none :=
  have h' : x.length ≤ i := by omega
  Array.getElem?_eq_none_iff.mpr h'
theorem at_some {x : Str} {i : Nat} (h : i < x.length) : ∃ c, x.cps[i]? = some c := ⟨_, Array.getElem?_eq_getElem h⟩
end Mine

end
noncomputable section
open PySem PySem.W PyProof.Rows PyProof.Rows.LCg PySem.Calls PySem.Spec Mine
namespace Mine
noncomputable abbrev dq : String := "collections.deque"
noncomputable abbrev dqObj (st : Int) (xs : List Value) : Obj := { cls := .type "collections.deque", data := .fields (#[Value.none, rawInt st] ++ xs.toArray) }
theorem dq_owner : Manifest.owners.lookup (String.ofList "collections.deque".toList.reverse.reverse) = some Manifest.sig_collections_deque := by kernel_rfl
theorem dq_slot_len : Slot "collections.deque" "__len__" "collections.deque.__len__" :=
  .of (owner := "collections.deque") (n := "__len__") (by rw [typeLookup_type, builtinLookup_eq_fast]; kernel_rfl) (by decide +kernel) (by decide +kernel) (by decide +kernel)
    (by first | exact .inl (by decide +kernel) | exact .inr (by decide +kernel)) (by rw [isSubtype_type]; kernel_rfl)
theorem dq_slot_append : Slot "collections.deque" "append" "collections.deque.append" :=
  .of (owner := "collections.deque") (n := "append") (by rw [typeLookup_type, builtinLookup_eq_fast]; kernel_rfl) (by decide +kernel) (by decide +kernel) (by decide +kernel)
    (by first | exact .inl (by decide +kernel) | exact .inr (by decide +kernel)) (by rw [isSubtype_type]; kernel_rfl)
theorem dq_slot_pop : Slot "collections.deque" "pop" "collections.deque.pop" :=
  .of (owner := "collections.deque") (n := "pop") (by rw [typeLookup_type, builtinLookup_eq_fast]; kernel_rfl) (by decide +kernel) (by decide +kernel) (by decide +kernel)
    (by first | exact .inl (by decide +kernel) | exact .inr (by decide +kernel)) (by rw [isSubtype_type]; kernel_rfl)
theorem dq_slot_init : Slot "collections.deque" "__init__" "collections.deque.__init__" :=
  .of (owner := "collections.deque") (n := "__init__") (by rw [typeLookup_type, builtinLookup_eq_fast]; kernel_rfl) (by decide +kernel) (by decide +kernel) (by decide +kernel)
    (by first | exact .inl (by decide +kernel) | exact .inr (by decide +kernel)) (by rw [isSubtype_type]; kernel_rfl)
theorem dq_type_append : typeOf (.builtin "collections.deque.append") = pure (.type "method_descriptor") := by show builtinType _ = _; rw [builtinType_eq_fast]; kernel_rfl
theorem dq_type_pop : typeOf (.builtin "collections.deque.pop") = pure (.type "method_descriptor") := by show builtinType _ = _; rw [builtinType_eq_fast]; kernel_rfl
theorem dq_e_append : entryFor table "collections.deque.append" = some Builtin.«collections.deque.append» := entryFor_of_tree (by kernel_rfl)
theorem dq_e_pop : entryFor table "collections.deque.pop" = some Builtin.«collections.deque.pop» := entryFor_of_tree (by kernel_rfl)
theorem dq_e_len : entryFor table "collections.deque.__len__" = some Builtin.«collections.deque.__len__» := entryFor_of_tree (by kernel_rfl)
theorem dq_e_init : entryFor table "collections.deque.__init__" = some Builtin.«collections.deque.__init__» := entryFor_of_tree (by kernel_rfl)
theorem dq_e_new : entryFor table "collections.deque.__new__" = some Builtin.«collections.deque.__new__» := entryFor_of_tree (by kernel_rfl)
theorem dq_args_append (a b : Value) : argsOk "collections.deque.append" ⟨[a, b], []⟩ := by
  unfold argsOk; rw [signature?_of (id := "collections.deque.append") (n := "append".toList.reverse) (o := "collections.deque".toList.reverse) (by kernel_rfl) dq_owner]; kernel_rfl
theorem dq_args_pop (a : Value) : argsOk "collections.deque.pop" ⟨[a], []⟩ := by
  unfold argsOk; rw [signature?_of (id := "collections.deque.pop") (n := "pop".toList.reverse) (o := "collections.deque".toList.reverse) (by kernel_rfl) dq_owner]; kernel_rfl
theorem dq_args_len (a : Value) : argsOk "collections.deque.__len__" ⟨[a], []⟩ := by
  unfold argsOk; rw [signature?_of (id := "collections.deque.__len__") (n := "__len__".toList.reverse) (o := "collections.deque".toList.reverse) (by kernel_rfl) dq_owner]; kernel_rfl
theorem dq_args_init (a : Value) : argsOk "collections.deque.__init__" ⟨[a], []⟩ := by
  unfold argsOk; rw [signature?_of (id := "collections.deque.__init__") (n := "__init__".toList.reverse) (o := "collections.deque".toList.reverse) (by kernel_rfl) dq_owner]; kernel_rfl
theorem dq_plain : PlainAttrs "collections.deque" := ⟨⟨"collections.deque.__getattribute__", by rw [typeLookup_type, builtinLookup_eq_fast]; kernel_rfl, by decide +kernel⟩, by rw [typeLookup_type, builtinLookup_eq_fast]; kernel_rfl⟩
theorem dq_noBool : typeLookup (.type "collections.deque") "__bool__" = pure none := by rw [typeLookup_type, builtinLookup_eq_fast]; kernel_rfl
theorem dq_mro : mroOf (.type "collections.deque") = pure [.type "collections.deque", .type "object"] := by rw [mroOf_type]; kernel_rfl
theorem dq_lookup_new : typeLookup (.type "collections.deque") "__new__" = pure (some (.builtin "collections.deque.__new__")) := by rw [typeLookup_type, builtinLookup_eq_fast]; kernel_rfl
theorem dq_sub : isSubtype (.type "collections.deque") (.type "collections.deque") = pure true := by rw [isSubtype_type]; kernel_rfl
theorem dq_called : TypeCalled "collections.deque" "collections.deque.__new__" "collections.deque.__init__" :=
  ⟨by decide +kernel, by decide +kernel, ⟨_, _, dq_mro⟩, madeBy_type dq_mro dq_lookup_new (by decide +kernel), by decide +kernel, dq_sub, dq_slot_init⟩
theorem dq_typeCall : checkTypeCall "collections.deque" ⟨[], []⟩ = pure () := by kernel_rfl
theorem dq_newCall : checkBuiltinCall "collections.deque.__new__" ⟨[.type "collections.deque"], []⟩ = pure () := by kernel_rfl
end Mine

end
noncomputable section
open PySem PySem.W PyProof.Rows PyProof.Rows.LCg PySem.Calls PySem.Spec Mine
namespace Mine
section
variable {prog : Program} {w : World} {A : Around} {E : Value → Shared → Prop} {s : Shared} {h₀ : Heap} {L : Addr} {m : Str → Option Value} {news : List (Addr × Obj)}
theorem in_nil {h : Heap} : Frag.In [] h := fun _ _ e => by cases e
theorem dq_new {Q : Value → Shared → Prop} (F : Fr h₀ L s.heap m) (N : News h₀ L s.heap news)
    (h : ∀ a h', Fr h₀ L h' m → News h₀ L h' ((a, dqObj 0 []) :: news) → (∀ p ∈ news, p.1 < a) → Q (.ref a) { s with heap := h' }) : wpAny (model prog w) A (call (.type "collections.deque") []) Q E s := by
  refine callType_meets (Q₁ := fun v s' => ∃ a h', v = .ref a ∧ s' = { s with heap := h' } ∧ Fr h₀ L h' m ∧ News h₀ L h' ((a, dqObj 0 []) :: news) ∧ ∀ p ∈ news, p.1 < a) dq_called dq_typeCall dq_newCall dq_e_new dq_e_init
    (S := fun _ R s' => s' = s ∧ ∀ a h', Fr h₀ L h' m → News h₀ L h' ((a, dqObj 0 []) :: news) → (∀ p ∈ news, p.1 < a) → R (.ok (.ret (.ref a))) { s with heap := h' }) ?_ ⟨rfl, ?_⟩ ?_
  · refine Meets.of_wp fun prog w A R s' hs => ?_
    obtain ⟨rfl, hq⟩ := hs
    refine wp_peek1 (K := []) (o := dqObj 0 []) (a := fun D => Fin.done (.ret (.ref D))) F N in_nil ?hs rfl fun D h' F' N' l => ⟨_, rfl, hq D h' F' N' l⟩
    case hs => intro D; kernel_rfl
  · exact fun a h' F' N' l => ⟨a, h', rfl, rfl, F', N', l⟩
  · rintro obj s₁ ⟨a, h', rfl, rfl, F', N', l⟩
    have ho := (N' _ List.mem_cons_self).1
    refine ⟨⟨_, ho, rfl⟩, dq_args_init _, fun _ R s' => s' = { s with heap := h' } ∧ ∀ h₂, Fr h₀ L h₂ m → News h₀ L h₂ ((a, dqObj 0 []) :: news) → R (.ok (.ret .none)) { s with heap := h₂ }, ?_, rfl, fun h₂ F₂ N₂ => ⟨rfl, h a h₂ F₂ N₂ l⟩⟩
    refine Meets.of_wp fun prog w A R s' hs => ?_
    obtain ⟨rfl, hq⟩ := hs
    obtain ⟨F₂, N₂⟩ := news_upd (pre := []) (f := Obj.mapFields (·.setIfInBounds 0 .none)) (o' := dqObj 0 []) F' N' (fun p hp => nomatch hp) (fun p hp => Nat.ne_of_lt (l p hp)) rfl rfl
    unfold Builtin.«collections.deque.__init__»
    refine wpAny_bind (m := setField (.ref a) 0 .none) (wpAny_setField ho rfl (by decide) ?_)
    have ho2 := (N₂ _ List.mem_cons_self).1
    refine wpAny_bind (m := Builtin.Deque.clear (.ref a)) ?_
    unfold Builtin.Deque.clear Builtin.Deque.items
    refine wpAny_bind (wpAny_bind (wpAny_fieldsOf ho2 rfl (wpAny_pure (wpAny_pure ?_))))
    exact wpAny_pure ⟨_, rfl, hq _ F₂ N₂⟩
end
end Mine

end
noncomputable section
open PySem PySem.W PyProof.Rows PyProof.Rows.LCg PySem.Calls PySem.Spec Mine
namespace Mine
section
variable {prog : Program} {w : World} {A : Around} {E : Value → Shared → Prop} {s : Shared} {h₀ : Heap} {L : Addr} {m : Str → Option Value} {news news' : List (Addr × Obj)} {a : Addr} {st : Int} {xs : List Value}
theorem upd_mem {d : Addr} {o o' : Obj} {l l' : List (Addr × Obj)} (U : Upd d o o' l l') : (d, o) ∈ l := by
  obtain ⟨pre, post, rfl, _, _, _⟩ := U.split; simp
theorem upd_mem' {d : Addr} {o o' : Obj} {l l' : List (Addr × Obj)} (U : Upd d o o' l l') : (d, o') ∈ l' := by
  obtain ⟨pre, post, _, rfl, _, _⟩ := U.split; simp
theorem dq_isT (N : News h₀ L s.heap news) (hm : (a, dqObj st xs) ∈ news) : s.TypeIs (.ref a) "collections.deque" := ⟨_, (N _ hm).1, rfl⟩
theorem dq_upd {o o' : Obj} {f : Obj → Obj} (F : Fr h₀ L s.heap m) (N : News h₀ L s.heap news) (U : Upd a o o' news news') (e : f o = o') (hf : o'.isFreed = false) : Fr h₀ L (s.heap.update a f) m ∧ News h₀ L (s.heap.update a f) news' := by
  obtain ⟨pre, post, rfl, rfl, h1, h2⟩ := U.split
  exact news_upd F N h1 h2 e hf
theorem dq_getMethod {name : Str} {id : String} {pl : Sem Bool} {Q : Value × List Value → Shared → Prop} (N : News h₀ L s.heap news) (hm : (a, dqObj st xs) ∈ news) (slot : Slot "collections.deque" name id) (hty : typeOf (.builtin id) = pure (.type "method_descriptor"))
    (h : Q (.builtin id, [.ref a]) s) : wpAny (model prog w) A (getMethod (.ref a) name pl) Q E s :=
  getMethod_builtin (dq_isT N hm) dq_plain slot hty (fun b e => by cases e; exact ⟨_, (N _ hm).1, rfl⟩) h
theorem dq_append {v : Value} {Q : Value → Shared → Prop} (F : Fr h₀ L s.heap m) (N : News h₀ L s.heap news) (U : Upd a (dqObj st []) (dqObj (st + 1) [v]) news news')
    (h : ∀ h', Fr h₀ L h' m → News h₀ L h' news' → Q .none { s with heap := h' }) : wpAny (model prog w) A (call (.builtin "collections.deque.append") [.ref a, v]) Q E s := by
  have hm : (a, dqObj st []) ∈ news := upd_mem U
  have ho := (N _ hm).1
  have ho' : s.heap.get? a = some { cls := .type "collections.deque", data := .fields #[Value.none, rawInt st] } := ho
  refine wpAny_call_entry dq_slot_append (dq_isT N hm) dq_e_append ?_ (dq_args_append _ _)
  unfold Builtin.«collections.deque.append» Builtin.Deque.pushRight Builtin.Deque.change Builtin.Deque.state Builtin.Deque.maxlen
  obtain ⟨F₂, N₂⟩ := dq_upd (f := Obj.mapFields fun vs => #[vs.getD 0 .none, rawInt (st + 1)] ++ (vs.extract 2 vs.size).push v) F N U (by rfl) rfl
  have ho2 := (N₂ _ (upd_mem' U)).1
  refine wpAny_bind (m := selfAndOne "deque.append" _) (wpAny_pure ?_)
  refine wpAny_bind (wpAny_bind (wpAny_bind (wpAny_bind (wpAny_field ho' rfl rfl (wpAny_pure ?_)))))
  refine wpAny_updateFields (f := fun vs => #[vs.getD 0 .none, rawInt (st + 1)] ++ (vs.extract 2 vs.size).push v) ho' rfl ?_ (by show 3 ≤ _; rw [sizeLine_eq]; decide)
  refine wpAny_bind (wpAny_bind (wpAny_field ho2 rfl rfl (wpAny_pure ?_)))
  exact wpAny_pure (wpAny_pure ⟨_, rfl, h _ F₂ N₂⟩)
theorem dq_pop {v : Value} {Q : Value → Shared → Prop} (F : Fr h₀ L s.heap m) (N : News h₀ L s.heap news) (U : Upd a (dqObj st [v]) (dqObj (st + 1) []) news news')
    (h : ∀ h', Fr h₀ L h' m → News h₀ L h' news' → Q v { s with heap := h' }) : wpAny (model prog w) A (call (.builtin "collections.deque.pop") [.ref a]) Q E s := by
  have hm : (a, dqObj st [v]) ∈ news := upd_mem U
  have ho := (N _ hm).1
  have ho' : s.heap.get? a = some { cls := .type "collections.deque", data := .fields #[Value.none, rawInt st, v] } := ho
  refine wpAny_call_entry dq_slot_pop (dq_isT N hm) dq_e_pop ?_ (dq_args_pop _)
  unfold Builtin.«collections.deque.pop» Builtin.Deque.change Builtin.Deque.state Builtin.Deque.items
  obtain ⟨F₂, N₂⟩ := dq_upd (f := Obj.mapFields fun vs => #[vs.getD 0 .none, rawInt (st + 1)] ++ (vs.extract 2 vs.size).pop) F N U (by rfl) rfl
  refine wpAny_bind (m := selfOnly "deque.pop" _) (wpAny_pure ?_)
  refine wpAny_bind (wpAny_bind (wpAny_fieldsOf ho' rfl (wpAny_pure ?_)))
  refine wpAny_bind (wpAny_bind (wpAny_bind (wpAny_field ho' rfl rfl (wpAny_pure ?_))))
  refine wpAny_updateFields (f := fun vs => #[vs.getD 0 .none, rawInt (st + 1)] ++ (vs.extract 2 vs.size).pop) ho' rfl ?_ (by show 2 ≤ _; rw [sizeLine_eq]; decide)
  exact wpAny_pure ⟨_, rfl, h _ F₂ N₂⟩
theorem dq_truthy {Q : Bool → Shared → Prop} (N : News h₀ L s.heap news) (hm : (a, dqObj st xs) ∈ news) (hx : xs.length ≤ 1000)
    (h : Q (!xs.isEmpty) { s with toks := s.toks + 1 + 1 }) : wpAny (model prog w) A (truthy (.ref a)) Q E s := by
  have hT := dq_isT N hm
  have ho := (N _ hm).1
  have hsz : (#[Value.none, rawInt st] ++ xs.toArray).size - 2 = xs.length := by simp
  have hne : (((xs.length : Int) != 0) : Bool) = (!xs.isEmpty) := by
    cases xs with
    | nil => rfl
    | cons x r =>
      show ((((r.length + 1 : Nat) : Int) != 0) : Bool) = true
      rw [bne_iff_ne]; (first | lia | omega)
  have key : wpAny (model prog w) A (runValue (.builtin "len" ⟨[.ref a], []⟩)) (fun r s' => r = .int xs.length (s.toks + 1) ∧ Q (!xs.isEmpty) s') E s := by
    refine wpAny_runValue (codeAny_builtin entry_len ?_)
    rw [Around.under_plainId plain_len _]
    refine wpAny_mono (Q := fun fin s' => ∃ r, fin = .done (.ret r) ∧ (r = .int xs.length (s.toks + 1) ∧ Q (!xs.isEmpty) s')) ?_ (fun fin s' h' => by obtain ⟨r, rfl, hq⟩ := h'; exact hq) fun _ _ e => e
    unfold Builtin.«len»
    refine wpAny_bind (m := oneArg "len" _) (wpAny_pure ?_)
    refine wpAny_bind (m := callSpecial? (.ref a) (Str.ofString "__len__")) (wpAny_callSpecial?_slot (name := Str.ofString "__len__") hT dq_slot_len
      (wpAny_call_entry dq_slot_len hT dq_e_len ?_ (dq_args_len _)))
    unfold Builtin.«collections.deque.__len__» Builtin.Deque.size
    refine wpAny_bind (m := slotArgs "__len__" 0 _) (wpAny_pure ?_)
    refine wpAny_bind (wpAny_bind (wpAny_fieldsOf ho rfl (wpAny_pure ?_)))
    rw [hsz]
    refine wpAny_bind (wpAny_mkInt (wpAny_pure ⟨_, rfl, ?_⟩))
    refine wpAny_bind (wpAny_holding (wpAny_pure ?_))
    refine wpAny_bind (wpAny_letGo ?_)
    show wpAny _ _ (if ((xs.length : Nat) : Int) < 0 then _ else _) _ _ _
    rw [if_neg (by (first | lia | omega))]
    show wpAny _ _ (if ((xs.length : Nat) : Int) ≥ 2 ^ 63 then _ else _) _ _ _
    rw [if_neg (by (first | lia | omega))]
    exact wpAny_bind (wpAny_mkInt (wpAny_pure ⟨_, rfl, rfl, h⟩))
  unfold truthy
  first
    | refine wpAny_bind (wpAny_callSpecial?_none (name := Str.ofString "__bool__") hT dq_noBool ?_)
    | refine wpAny_bind (wpAny_pure (wpAny_bind (wpAny_callSpecial?_none (name := Str.ofString "__bool__") hT dq_noBool ?_)))
  first
    | refine wpAny_bind (wpAny_specialOf (name := Str.ofString "__len__") hT dq_slot_len.lookup ?_)
    | refine wpAny_bind (wpAny_pure (wpAny_bind (wpAny_specialOf (name := Str.ofString "__len__") hT dq_slot_len.lookup ?_)))
  first
    | exact wpAny_bind (wpAny_mono key (fun r s' h' => by obtain ⟨rfl, hq⟩ := h'; exact wpAny_pure (hne ▸ hq)) fun _ _ e => e)
    | exact wpAny_bind (wpAny_pure (wpAny_bind (wpAny_mono key (fun r s' h' => by obtain ⟨rfl, hq⟩ := h'; exact wpAny_pure (hne ▸ hq)) fun _ _ e => e)))
end
end Mine

end
noncomputable section
open PySem PySem.W PyProof.Rows PyProof.Rows.LCg PySem.Calls PySem.Spec Mine
namespace Mine
end Mine

end
noncomputable section
open PySem PySem.W PyProof.Rows PyProof.Rows.LCg PySem.Calls PySem.Spec Mine
namespace Mine
theorem mt_lk : typeLookup (.type "str") "maketrans" = pure (some (.builtin "str.maketrans")) := by rw [typeLookup_type, builtinLookup_eq_fast]; kernel_rfl
theorem mt_ty : typeOf (.builtin "str.maketrans") = pure (.type "builtin_function_or_method") := by show builtinType _ = _; rw [builtinType_eq_fast]; kernel_rfl
theorem bf_get : typeLookup (.type "builtin_function_or_method") "__get__" = pure none := by rw [typeLookup_type, builtinLookup_eq_fast]; kernel_rfl
theorem bf_set : typeLookup (.type "builtin_function_or_method") "__set__" = pure none := by rw [typeLookup_type, builtinLookup_eq_fast]; kernel_rfl
theorem bf_del : typeLookup (.type "builtin_function_or_method") "__delete__" = pure none := by rw [typeLookup_type, builtinLookup_eq_fast]; kernel_rfl
section
variable {prog : Program} {w : World} {A : Around} {E : Value → Shared → Prop} {h : Heap} {g : Array GenState} {d : Drawn} {t : Nat} {os : OsState} {x : Str} {u : Tok}
theorem mt_entry {tk : Tok} {Q : Fin → Shared → Prop} (hq : Q (.done (.ret (.builtin "str.maketrans"))) ⟨h, g, d, t, os⟩) :
    wpAny (model prog w) A (Builtin.«object.__getattribute__» ⟨[.str x u, .str "maketrans" tk], []⟩) Q E ⟨h, g, d, t, os⟩ := by
  have hT : (⟨h, g, d, t, os⟩ : Shared).TypeIs (.str x u) "str" := rfl
  have hT5 : (⟨h, g, d, t, os⟩ : Shared).TypeIs (.builtin "str.maketrans") "builtin_function_or_method" := mt_ty
  have f4 := mt_lk
  have f5 := mt_ty
  have f6 := bf_get
  have f7 := bf_set
  have f8 := bf_del
  repeat (any_goals (first | assumption | wp_step))
theorem mt_call {tk : Tok} {R : Result → Shared → Prop} (hq : R (.ok (.ret (.builtin "str.maketrans"))) ⟨h, g, d, t, os⟩) :
    codeAny (model prog w) A (.call (.builtin "object.__getattribute__") ⟨[.str x u, .str "maketrans" tk], []⟩) R ⟨h, g, d, t, os⟩ :=
  codeAny_call_builtin F.slot_str_getattribute.plain F.entry_object_getattribute (F.slot_str_getattribute.check _ _ _ _ _ _ _ _ (show (⟨h, g, d, t, os⟩ : Shared).TypeIs (.str x u) "str" from rfl) (F.args_object_getattribute_2 _ _) (mt_entry hq))
theorem mt_by {Q : Value → Shared → Prop} (hq : Q (.builtin "str.maketrans") ⟨h, g, d, t + 1, os⟩) : wpAny (model prog w) A (getAttr (.str x u) "maketrans") Q E ⟨h, g, d, t, os⟩ := by
  have hT : (⟨h, g, d, t, os⟩ : Shared).TypeIs (.str x u) "str" := rfl
  have f2 := F.slot_str_getattribute.lookup
  have f3 := F.slot_str_getattribute.bind (.str x u)
  unfold getAttr getAttrBy
  repeat (any_goals (first | assumption | wp_step))
  refine mt_call ?_
  repeat (any_goals (first | assumption | wp_step))
end
section
variable {prog : Program} {w : World} {A : Around} {E : Value → Shared → Prop} {s : Shared} {x : Str} {u : Tok}
theorem getMethod_usual {v : Value} {T : String} {name : Str} {id T2 : String} {pl : Sem Bool} {Q : Value × List Value → Shared → Prop} (hT : s.TypeIs v T) (pa : PlainAttrs T)
    (hl : typeLookup (.type T) name = pure (some (.builtin id))) (hty : typeOf (.builtin id) = pure (.type T2)) (hne : (Value.type T2 != .type "function" && Value.type T2 != .type "method_descriptor" && Value.type T2 != .type "wrapper_descriptor") = true)
    (h : wpAny (model prog w) A (getAttr v name) (fun a s' => Q (a, []) s') E s) : wpAny (model prog w) A (getMethod v name pl) Q E s := by
  obtain ⟨g, hg, hcan⟩ := pa.ga
  unfold getMethod
  refine wpAny_bind (wpAny_specialOf hT hg ?_)
  show wpAny _ A (if (Manifest.canonical g != "object.__getattribute__") = true then _ else _) Q E s
  rw [hcan, if_neg Bool.false_ne_true]
  refine wpAny_bind (wpAny_specialOf hT pa.noGetattr ?_)
  refine wpAny_bind (wpAny_specialOf hT hl ?_)
  refine wpAny_bind (wpAny_of_eq hty ?_)
  rw [if_pos hne]
  exact wpAny_bind (wpAny_mono h (fun _ _ z => wpAny_pure z) fun _ _ z => z)
theorem gm_maketrans {pl : Sem Bool} {Q : Value × List Value → Shared → Prop} (hq : Q (.builtin "str.maketrans", []) { s with toks := s.toks + 1 }) : wpAny (model prog w) A (getMethod (.str x u) "maketrans" pl) Q E s := by
  obtain ⟨hp, g, d, tk, os⟩ := s
  have hT : (⟨hp, g, d, tk, os⟩ : Shared).TypeIs (.str x u) "str" := rfl
  have h1 := @getMethod_usual prog w A E ⟨hp, g, d, tk, os⟩ (.str x u) "str" (Str.ofString "maketrans") "str.maketrans" "builtin_function_or_method" pl Q hT F.plainAttrs_str mt_lk mt_ty (by decide +kernel)
  exact h1 (mt_by hq)
end
end Mine

end
noncomputable section
open PySem PySem.W PyProof.Rows PyProof.Rows.LCg PySem.Calls PySem.Spec Mine
namespace Mine
theorem fk_typeCall : checkTypeCall "dict" ⟨[], []⟩ = pure () := by kernel_rfl
theorem fk_newCall : checkBuiltinCall "dict.__new__" ⟨[.type "dict"], []⟩ = pure () := by kernel_rfl
theorem fk_args_init (a : Value) : argsOk "dict.__init__" ⟨[a], []⟩ := by unfold argsOk; kernel_rfl
theorem fk_ty : typeOf (.builtin "dict.fromkeys") = pure (.type "classmethod_descriptor") := by show builtinType _ = _; rw [builtinType_eq_fast]; kernel_rfl
theorem fk_slot_get : Slot "classmethod_descriptor" "__get__" "classmethod_descriptor.__get__" :=
  .of (owner := "classmethod_descriptor") (n := "__get__") (by rw [typeLookup_type, builtinLookup_eq_fast]; kernel_rfl) (by decide +kernel) (by decide +kernel) (by decide +kernel)
    (by first | exact .inl (by decide +kernel) | exact .inr (by decide +kernel)) (by rw [isSubtype_type]; kernel_rfl)
theorem fk_e_get : entryFor table "classmethod_descriptor.__get__" = some Builtin.«classmethod_descriptor.__get__» := entryFor_of_tree (by kernel_rfl)
theorem fk_args_get (a b c : Value) : argsOk "classmethod_descriptor.__get__" ⟨[a, b, c], []⟩ := by unfold argsOk; kernel_rfl
theorem fk_e : entryFor table "dict.fromkeys" = some Builtin.«dict.fromkeys» := entryFor_of_tree (by kernel_rfl)
theorem fk_e_loop : entryFor table "dict.fromkeys.loop" = some Builtin.«dict.fromkeys.loop» := entryFor_of_tree (by kernel_rfl)
theorem fk_bound (a : Value) : checkBoundCall "dict.fromkeys" ⟨[.type "dict", a], []⟩ = pure () := by kernel_rfl
section
variable {prog : Program} {w : World} {A : Around} {E : Value → Shared → Prop} {s : Shared}
theorem call_dict0 {Q : Value → Shared → Prop} (h : Q (.ref s.heap.objs.size) { s with heap := s.heap.push { cls := .type "dict", data := .dict #[] } }) : wpAny (model prog w) A (call (.type "dict") []) Q E s := by
  refine callType_meets (Q₁ := fun v s' => v = .ref s.heap.objs.size ∧ s' = { s with heap := s.heap.push { cls := .type "dict", data := .dict #[] } }) F.kt_called_dict fk_typeCall fk_newCall F.kt_entry_dict_new F.entry_dict_init
    (S := fun _ R s' => R (.ok (.ret (.ref s'.heap.objs.size))) { s' with heap := s'.heap.push { cls := .type "dict", data := .dict #[] } }) ?_ ⟨rfl, rfl⟩ ?_
  · refine Meets.of_wp fun prog w A R s' hs => ?_
    have hsub := F.kt_sub_dict
    have hmro := F.kt_mro_dict
    obtain ⟨hp, g, d, tk, os⟩ := s'
    unfold Builtin.«dict.__new__»
    wp_walk
    exact ⟨_, rfl, hs⟩
  · rintro obj s₁ ⟨rfl, rfl⟩
    have hT : ({ s with heap := s.heap.push { cls := .type "dict", data := .dict #[] } } : Shared).TypeIs (.ref s.heap.objs.size) "dict" := ⟨_, Heap.get?_push_size _ rfl, rfl⟩
    refine ⟨hT, fk_args_init _, fun _ R s' => s' = { s with heap := s.heap.push { cls := .type "dict", data := .dict #[] } } ∧ R (.ok (.ret .none)) s', ?_, rfl, rfl, h⟩
    refine Meets.of_wp fun prog w A R s' hs => ?_
    obtain ⟨rfl, hq⟩ := hs
    unfold Builtin.«dict.__init__»
    refine wpAny_bind ?_
    unfold Builtin.Dict.selfAndRest
    refine wpAny_bind (wpAny_notOrdered_dict hT ?_)
    show wpAny _ _ (pure (s.heap.objs.size, [])) _ _ _
    refine wpAny_pure ?_
    show wpAny _ _ (Builtin.Dict.updateCommon "dict.__init__" "dict" s.heap.objs.size [] []) _ _ _
    unfold Builtin.Dict.updateCommon
    repeat (any_goals (first | assumption | wp_step))
    exact ⟨_, rfl, hq⟩
end
end Mine

end
noncomputable section
open PySem PySem.W PyProof.Rows PyProof.Rows.LCg PySem.Calls PySem.Spec Mine
namespace Mine
noncomputable abbrev bfObj : Obj := { cls := .type "builtin_function_or_method", data := .fields #[.builtin "dict.fromkeys", .type "dict"] }
theorem fk_typ_dict : typeOf (.type "dict") = pure (.type "type") := by show PySem.typeOf _ = _; kernel_rfl
section
variable {prog : Program} {w : World} {A : Around} {E : Value → Shared → Prop} {s : Shared} {h₀ : Heap} {L : Addr} {m : Str → Option Value} {news : List (Addr × Obj)}
theorem method_typeG {K : Frag} {T : String} {r : CFound} {name : Str} {pl : Sem Bool} {Q : Value × List Value → Shared → Prop} (F : Fr h₀ L s.heap m) (X₀ : K.In h₀) (ht : typeOf (.type T) = pure (.type "type")) (hs : Manifest.isStub T = false)
    (e : findCls K (.type T) (.type "type") name = some r)
    (h : wpAny (model prog w) A.in1 r.run (fun fin s' => match fin with | .done (.ret v) => wpAny (model prog w) A (handedOut v) (fun v s'' => Q (v, []) s'') E s' | _ => False) (fun _ _ => False) { s with toks := s.toks + 1 }) : wpAny (model prog w) A (getMethod (.type T) name pl) Q E s := by
  have X := X₀.keeps F.keep
  have hstub : opaqueClassAbove (.type T) = pure none := by unfold opaqueClassAbove; dsimp only; rw [hs]; rfl
  have L0 : Looks (model prog w) s.heap (typeOf (.type T)) (.type "type") := Looks.of_pure ht
  have hg : findIn K (.type "type") "__getattribute__" = some (some (.builtin "type.__getattribute__")) := type_tga
  unfold getMethod specialOf
  refine wpAny_bind (wpAny_bind (L0.here ((looks_findIn X hg).here ?_)))
  dsimp only
  rw [if_pos canon_tga]
  refine wpAny_bind (wpAny_mono (Q := fun v s' => Q (v, []) s') (E := E) ?_ (fun _ _ z => wpAny_pure z) fun _ _ z => z)
  exact cls_open X (Looks.of_pure hstub) L0 hg (looks_hook X (r := none) (by rfl)) (by show subIn K _ _ = _; rfl) e h
theorem fk_get {Q : Value → Shared → Prop} (F : Fr h₀ L s.heap m) (N : News h₀ L s.heap news) (h : ∀ B h', Fr h₀ L h' m → News h₀ L h' ((B, bfObj) :: news) → (∀ p ∈ news, p.1 < B) → Q (.ref B) { s with heap := h' }) :
    wpAny (model prog w) A (call (.builtin "classmethod_descriptor.__get__") [.builtin "dict.fromkeys", .none, .type "dict"]) Q E s := by
  have hT : s.TypeIs (.builtin "dict.fromkeys") "classmethod_descriptor" := fk_ty
  refine wpAny_call_entry fk_slot_get hT fk_e_get ?_ (fk_args_get _ _ _)
  refine wp_peek1 (K := []) (o := bfObj) (a := fun D => Fin.done (.ret (.ref D))) F N in_nil ?hs rfl fun D h' F' N' l => ⟨_, rfl, h D h' F' N' l⟩
  case hs => intro D; kernel_rfl
theorem gm_fromkeys {K : Frag} {pl : Sem Bool} {Q : Value × List Value → Shared → Prop} (F : Fr h₀ L s.heap m) (X₀ : K.In h₀) (N : News h₀ L s.heap news)
    (h : ∀ B h', Fr h₀ L h' m → News h₀ L h' ((B, bfObj) :: news) → (∀ p ∈ news, p.1 < B) → Q (.ref B, []) { s with heap := h', toks := s.toks + 1 }) : wpAny (model prog w) A (getMethod (.type "dict") "fromkeys" pl) Q E s := by
  have hs : Manifest.isStub "dict" = false := by decide +kernel
  have e : findCls K (.type "dict") (.type "type") (Str.ofString "fromkeys") = some (.get (.builtin "classmethod_descriptor.__get__") (.builtin "dict.fromkeys") .none (.type "dict")) := by kernel_rfl
  have h1 := @method_typeG prog w A E s h₀ L m K "dict" _ (Str.ofString "fromkeys") pl Q F X₀ fk_typ_dict hs e
  refine h1 ?_
  refine wpAny_bind (wpAny_holding (fk_get (s := { s with toks := s.toks + 1 }) F N fun B h' F' N' l => wpAny_pure ?_))
  show wpAny _ _ (handedOut (.ref B)) _ _ _
  exact handed_on rfl (h B h' F' N' l)
end
end Mine

end
noncomputable section
open PySem PySem.W PyProof.Rows PyProof.Rows.LCg PySem.Calls PySem.Spec Mine
namespace Mine
section
variable {prog : Program} {w : World} {A : Around} {E : Value → Shared → Prop} {s : Shared} {h₀ : Heap} {L : Addr} {m : Str → Option Value} {news : List (Addr × Obj)} {R : Result → Shared → Prop}
theorem fr_keep {h h' : Heap} (F : Fr h₀ L h m) (hk : ∀ b o, h.get? b = some o → h'.get? b = some o) : Fr h₀ L h' m := ⟨F.ns.at' fun o e => hk _ o e, fun b o e => hk b o (F.keep b o e), F.above⟩
theorem news_keep {h h' : Heap} (N : News h₀ L h news) (hk : ∀ b o, h.get? b = some o → h'.get? b = some o) : News h₀ L h' news := fun p hp => ⟨hk _ _ (N p hp).1, (N p hp).2⟩
theorem news_new {h h' : Heap} {D : Addr} {o : Obj} (F : Fr h₀ L h m) (N : News h₀ L h news) (hk : ∀ b o, h.get? b = some o → h'.get? b = some o) (hD : h.get? D = none) (ho : h'.get? D = some o) : News h₀ L h' ((D, o) :: news) := fun p hp => by
  rcases List.mem_cons.mp hp with rfl | hp
  · refine ⟨ho, fun e => ?_, ?_⟩
    · obtain ⟨oL, _, _, hL, _⟩ := F.ns
      rw [← e, hD] at hL; cases hL
    · cases q : h₀.get? D with
      | none => rfl
      | some x => have := F.keep D x q; rw [hD] at this; cases this
  · exact news_keep N hk p hp
theorem fk_turn {D I : Addr} {x : Str} {St : Nat → Heap → Prop} {kvs : List (Str × Value)} {i : Nat} (W : Walks prog w (A.under (.builtin "dict.fromkeys.loop" ⟨[.ref D, .ref I, .none], []⟩)) I [I] [I] x.cps.size (SignAt x) St) (hi : i < x.cps.size) (hst : St i s.heap) (hd : s.heap.DictOf (strKind prog w) D kvs) (hne : D ≠ I) (hsz : kvs.length ≤ 100)
    (h : ∀ c t h', SignAt x i (.str c t) → St (i + 1) h' → h'.DictOf (strKind prog w) D (stored kvs c .none) → (∀ b o, b ≠ I → b ≠ D → s.heap.get? b = some o → h'.get? b = some o) → ∀ tk'', codeAny (model prog w) A (.builtin "dict.fromkeys.loop" ⟨[.ref D, .ref I, .none], []⟩) R { s with heap := h', toks := tk'' }) :
    codeAny (model prog w) A (.builtin "dict.fromkeys.loop" ⟨[.ref D, .ref I, .none], []⟩) R s := by
  refine codeAny_builtin fk_e_loop ?_
  unfold Builtin.«dict.fromkeys.loop»
  refine wpAny_bind (W.item i _ _ _ hi hst fun v h' tk hP hst' hk => ?_)
  obtain ⟨c, t, _, rfl⟩ := id hP
  have hd' : h'.DictOf (strKind prog w) D kvs := hd.at fun o e => hk D o (by simpa using hne) e
  dsimp only
  refine wpAny_bind (wpAny_typeOf (s := { s with heap := h', toks := tk }) hd'.typeIs ?_)
  rw [if_pos (by decide)]
  refine wpAny_bind (wpAny_pure (wpAny_bind (wpAny_holding ?_)))
  refine wpAny_dictSet_pairs (s := { s with heap := h', toks := tk }) (strKind_is prog w _ t) hd' (fun h₂ hd₂ hs₂ => ?_) (by rw [sizeLine_eq]; omega)
  refine wpAny_pure ⟨Code.quiet_builtin _ (by decide +kernel), ?_⟩
  exact h _ t h₂ hP (W.frame _ _ _ hst' fun b hb o e => (hs₂.2 b (by rw [List.mem_singleton.mp hb]; exact fun e => hne e.symm)).trans e) hd₂ (fun b o h1 h2 e => (hs₂.2 b h2).trans (hk b o (by simpa using h1) e)) _
theorem fk_done {D I : Addr} {x : Str} {St : Nat → Heap → Prop} {kvs : List (Str × Value)} (W : Walks prog w (A.under (.builtin "dict.fromkeys.loop" ⟨[.ref D, .ref I, .none], []⟩)) I [I] [I] x.cps.size (SignAt x) St) (hst : St x.cps.size s.heap) (hd : s.heap.DictOf (strKind prog w) D kvs) (hne : D ≠ I)
    (h : ∀ h' tk', h'.DictOf (strKind prog w) D kvs → (∀ b o, b ≠ I → s.heap.get? b = some o → h'.get? b = some o) → R (.ok (.ret (.ref D))) { s with heap := h', toks := tk' }) :
    codeAny (model prog w) A (.builtin "dict.fromkeys.loop" ⟨[.ref D, .ref I, .none], []⟩) R s := by
  refine codeAny_builtin fk_e_loop ?_
  unfold Builtin.«dict.fromkeys.loop»
  refine wpAny_bind (W.done _ _ _ hst fun h' tk hk => ?_)
  exact wpAny_pure (h h' tk (hd.at fun o e => hk D o (by simpa using hne) e) fun b o h1 e => hk b o (by simpa using h1) e)
noncomputable def IsStrD (prog : Program) (w : World) (kvs : List (Str × Value)) (D : Addr) (o : Obj) : Prop := ∀ h : Heap, h.get? D = some o → h.DictOf (strKind prog w) D kvs
theorem isStrD_of {h : Heap} {D : Addr} {kvs : List (Str × Value)} (hd : h.DictOf (strKind prog w) D kvs) : ∃ o, h.get? D = some o ∧ IsStrD prog w kvs D o := by
  obtain ⟨o, es, ep, ho, r⟩ := hd
  exact ⟨o, ho, fun h' e => ⟨o, es, ep, e, r⟩⟩
theorem fk_code {t : Tok} (hsys : sysModules < s.heap.objs.size) (hh : A.handled = none) (F : Fr h₀ L s.heap m) (N : News h₀ L s.heap news)
    (h : ∀ D o h' tk', IsStrD prog w [(⟨#[40]⟩, .none), (⟨#[41]⟩, .none)] D o → Fr h₀ L h' m → News h₀ L h' ((D, o) :: news) → (∀ p ∈ news, p.1 < D) → (D == sysModules) = false → R (.ok (.ret (.ref D))) { s with heap := h', toks := tk' }) :
    codeAny (model prog w) A (.builtin "dict.fromkeys" ⟨[.type "dict", .str (Str.ofString "()") t], []⟩) R s := by
  refine codeAny_builtin fk_e ?_
  unfold Builtin.«dict.fromkeys»
  have hsub := PySem.F.kt_sub_dict
  refine wpAny_bind (wpAny_pure ?_)
  refine wpAny_bind (wpAny_of_eq hsub ?_)
  refine wpAny_bind (wpAny_rule (wpAny_bind (wpAny_pure ?_)))
  dsimp only
  refine wpAny_bind (call_dict0 ?_)
  refine wpAny_holding ?_
  have hnew := Heap.DictOf.new (knd := strKind prog w) s.heap
  generalize hD : s.heap.objs.size = D at hnew ⊢
  generalize hh1 : s.heap.push { cls := .type "dict", data := .dict #[] } = h1 at hnew ⊢
  have hk1 : ∀ b o, s.heap.get? b = some o → h1.get? b = some o := fun b o e => by rw [← hh1]; exact Heap.get?_push_of_some _ e
  refine wpAny_bind (wpAny_typeOf (v := .str (Str.ofString "()") t) (T := "str") rfl ?_)
  refine wpAny_bind (wpAny_typeOf (s := { s with heap := h1 }) hnew.typeIs ?_)
  rw [if_neg (by decide)]
  refine wpAny_bind (wpAny_typeOf (s := { s with heap := h1 }) hnew.typeIs ?_)
  rw [if_neg (by decide)]
  refine wpAny_bind (wpAny_pyIter_str fun o St W st => ?_)
  generalize hI : h1.objs.size = I at W st ⊢
  have hDlt : D < h1.objs.size := by obtain ⟨_, _, _, ho, _⟩ := id hnew; exact Heap.lt_size ho
  have hDI : D ≠ I := by rw [← hI]; exact Nat.ne_of_lt hDlt
  have old : ∀ b o, s.heap.get? b = some o → b ≠ D ∧ b ≠ I := fun b o e => by
    have hb := Heap.lt_size e
    rw [hD] at hb
    exact ⟨Nat.ne_of_lt hb, by rw [← hI]; exact Nat.ne_of_lt (Nat.lt_trans hb hDlt)⟩
  have hk2 : ∀ b o', s.heap.get? b = some o' → (h1.push o).get? b = some o' := fun b o' e => Heap.get?_push_of_some _ (hk1 b o' e)
  have hd2 : (h1.push o).DictOf (strKind prog w) D [] := hnew.push o
  refine wpAny_pure ⟨Code.quiet_builtin _ (by decide +kernel), ?_⟩
  refine fk_turn (s := { s with heap := h1.push o }) (x := Str.ofString "()") (i := 0) (W _ hh) (by decide +kernel) st hd2 hDI (by decide) ?_
  intro c t3 h3 hP3 st3 hd3 hk3 tk3
  obtain ⟨c', t', hc', e'⟩ := hP3
  obtain rfl : (40 : Nat) = c' := Option.some.inj (hc'.symm.trans (by decide +kernel)) |>.symm
  injection e' with e' _
  subst e'
  refine fk_turn (s := { s with heap := h3, toks := tk3 }) (x := Str.ofString "()") (i := 1) (W _ hh) (by decide +kernel) st3 hd3 hDI (by decide) ?_
  intro c t4 h4 hP4 st4 hd4 hk4 tk4
  obtain ⟨c', t', hc', e'⟩ := hP4
  obtain rfl : (41 : Nat) = c' := Option.some.inj (hc'.symm.trans (by decide +kernel)) |>.symm
  injection e' with e' _
  subst e'
  refine fk_done (s := { s with heap := h4, toks := tk4 }) (x := Str.ofString "()") (W _ hh) st4 hd4 hDI ?_
  intro h5 tk5 hd5 hk5
  have hkk : ∀ b o, s.heap.get? b = some o → h5.get? b = some o := fun b o e => hk5 b o (old b o e).2 (hk4 b o (old b o e).2 (old b o e).1 (hk3 b o (old b o e).2 (old b o e).1 (hk2 b o e)))
  obtain ⟨o5, ho5, hs5⟩ := isStrD_of hd5
  have hDn : s.heap.get? D = none := by
    cases q : s.heap.get? D with
    | none => rfl
    | some x => have := Heap.lt_size q; rw [hD] at this; exact absurd this (Nat.lt_irrefl _)
  exact h D o5 h5 tk5 hs5 (fr_keep F hkk) (news_new F N hkk hDn ho5) (fun p hp => by have := Heap.lt_size (N p hp).1; rw [hD] at this; exact this) (by rw [← hD]; exact beq_false_of_ne (Nat.ne_of_gt hsys))
end
end Mine

end
noncomputable section
open PySem PySem.W PyProof.Rows PyProof.Rows.LCg PySem.Calls PySem.Spec Mine
namespace Mine
theorem mt_check (a : Addr) : checkBuiltinCall "str.maketrans" ⟨[.ref a], []⟩ = pure () := by kernel_rfl
theorem mt_plain : plainId "str.maketrans" = true := by decide +kernel
theorem mt_e : entryFor table "str.maketrans" = some Builtin.«str.maketrans» := entryFor_of_tree (by kernel_rfl)
noncomputable def IsIntD (prog : Program) (w : World) (kvs : List (Int × Value)) (D : Addr) (o : Obj) : Prop := ∀ h : Heap, h.get? D = some o → h.DictOf (intKind prog w) D kvs
section
variable {prog : Program} {w : World} {A : Around} {E : Value → Shared → Prop} {s : Shared} {h₀ : Heap} {L : Addr} {m : Str → Option Value} {news : List (Addr × Obj)}
theorem isInt_is (k : Int) (t : Tok) : (intKind prog w).is k (.int k t) = true := by simp [intKind, Value.isInt]
theorem mt_run {D : Addr} {o : Obj} {Q : Value → Shared → Prop} (hsys : sysModules < s.heap.objs.size) (hS : (D == sysModules) = false) (hD : IsStrD prog w [(⟨#[40]⟩, .none), (⟨#[41]⟩, .none)] D o) (F : Fr h₀ L s.heap m) (N : News h₀ L s.heap news) (hm : (D, o) ∈ news)
    (h : ∀ T o' h' tk', IsIntD prog w [(40, .none), (41, .none)] T o' → Fr h₀ L h' m → News h₀ L h' ((T, o') :: news) → (∀ p ∈ news, p.1 < T) → (T == sysModules) = false → Q (.ref T) { s with heap := h', toks := tk' }) :
    wpAny (model prog w) A (call (.builtin "str.maketrans") [.ref D]) Q E s := by
  refine wpAny_call (codeAny_call_builtin mt_plain mt_e (wpAny_of_eq (mt_check D) ?_))
  obtain ⟨oD, es, ep, ho, hc, hdat, hk, hp, hn⟩ := hD s.heap (N _ hm).1
  have hTD : s.TypeIs (.ref D) "dict" := ⟨oD, ho, hc.1⟩
  unfold Builtin.«str.maketrans»
  refine wpAny_bind (wpAny_pure ?_)
  refine wpAny_bind (wpAny_pure ?_)
  refine wpAny_bind (wpAny_pure ?_)
  refine wpAny_bind (wpAny_pure ?_)
  refine wpAny_bind ?_
  refine wpAny_mono (Q := fun v s' => v = .ref s.heap.objs.size ∧ s' = { s with heap := s.heap.push { cls := .type "dict", data := .dict #[] } }) ?_ (fun v s' hv => ?_) fun _ _ z => z
  · unfold newDict newObj
    obtain ⟨hp, g, d, tk, os⟩ := s
    repeat (any_goals (first | assumption | wp_step))
    exact ⟨rfl, rfl⟩
  obtain ⟨rfl, rfl⟩ := hv
  have hnew := Heap.DictOf.new (knd := intKind prog w) s.heap
  have hkk : ∀ b o, s.heap.get? b = some o → (s.heap.push { cls := .type "dict", data := .dict #[] }).get? b = some o := fun b o e => Heap.get?_push_of_some _ e
  have hTn : s.heap.get? s.heap.objs.size = none := by
    cases q : s.heap.get? s.heap.objs.size with
    | none => rfl
    | some x => exact absurd (Heap.lt_size q) (Nat.lt_irrefl _)
  have hlt : ∀ p ∈ news, p.1 < s.heap.objs.size := fun p hp => Heap.lt_size (N p hp).1
  have hTs : (s.heap.objs.size == sysModules) = false := beq_false_of_ne (Nat.ne_of_gt hsys)
  have hDT : D ≠ s.heap.objs.size := Nat.ne_of_lt (hlt _ hm)
  have ho2 := hkk _ _ ho
  generalize s.heap.objs.size = T at hnew hTn hlt hDT hTs ho2 hkk ⊢
  generalize s.heap.push { cls := .type "dict", data := .dict #[] } = h1 at hnew hkk ho2 ⊢
  dsimp only
  refine wpAny_bind (wpAny_holding ?_)
  have hT2 : ({ s with heap := h1 } : Shared).TypeIs (.ref D) "dict" := ⟨oD, ho2, hc.1⟩
  refine wpAny_bind (wpAny_typeOf (s := { s with heap := h1 }) hT2 ?_)
  refine wpAny_bind (wpAny_pure ?_)
  refine wpAny_bind (wpAny_typeOf (s := { s with heap := h1 }) hT2 ?_)
  rw [if_neg (by decide)]
  unfold notTheModulesDict
  rw [if_neg (by rw [hS]; exact Bool.false_ne_true)]
  refine wpAny_bind (wpAny_pure ?_)
  refine wpAny_bind (wpAny_dictEntries (s := { s with heap := h1 }) ho2 hdat ?_)
  obtain ⟨l⟩ := es
  cases hp with
  | cons a1 b1 r1 => cases r1 with
    | cons a2 b2 r2 => cases r2 with
      | nil =>
        rename_i e1 e2
        obtain ⟨hs1, k1, v1⟩ := e1
        obtain ⟨hs2, k2, v2⟩ := e2
        obtain ⟨t1, q1⟩ := Value.isStrOf_shape (show Value.isStrOf ⟨#[40]⟩ k1 = true from a1)
        obtain ⟨t2, q2⟩ := Value.isStrOf_shape (show Value.isStrOf ⟨#[41]⟩ k2 = true from a2)
        have q3 : v1 = .none := b1
        have q4 : v2 = .none := b2
        subst q1 q2 q3 q4
        have hfor : ∀ (l : List DictEntry) (f : DictEntry → PUnit → Sem (ForInStep PUnit)), forIn (⟨l⟩ : Array DictEntry) PUnit.unit f = forIn l PUnit.unit f := fun l f => List.forIn_toArray ..
        rw [hfor, List.forIn_cons]
        refine wpAny_bind (wpAny_bind ?_)
        refine wpAny_bind (wpAny_pure ?_)
        dsimp only
        refine wpAny_bind (wpAny_mkInt ?_)
        refine wpAny_bind (wpAny_dictSet_pairs (k := (40 : Int)) (s := { s with heap := h1, toks := s.toks + 1 }) (by exact isInt_is 40 _) hnew (fun h2 hd2 hs2 => ?_) (by rw [sizeLine_eq]; decide))
        refine wpAny_pure ?_
        dsimp only
        rw [List.forIn_cons]
        refine wpAny_bind ?_
        refine wpAny_bind (wpAny_pure ?_)
        dsimp only
        refine wpAny_bind (wpAny_mkInt ?_)
        refine wpAny_bind (wpAny_dictSet_pairs (k := (41 : Int)) (s := { s with heap := h2, toks := s.toks + 1 + 1 + 1 }) (by exact isInt_is 41 _) hd2 (fun h3 hd3 hs3 => ?_) (by rw [sizeLine_eq]; decide))
        refine wpAny_pure ?_
        dsimp only
        rw [List.forIn_nil]
        refine wpAny_pure (wpAny_pure (wpAny_pure ?_))
        have hkk3 : ∀ b o, s.heap.get? b = some o → h3.get? b = some o := fun b o e => by
          have hb : b ≠ T := fun q => by rw [q, hTn] at e; cases e
          exact (hs3.2 b hb).trans ((hs2.2 b hb).trans (hkk b o e))
        obtain ⟨o3, es3, ep3, ho3, r3⟩ := hd3
        exact h T o3 h3 _ (fun h' e => ⟨o3, es3, ep3, e, r3⟩) (fr_keep F hkk3) (news_new F N hkk3 hTn ho3) hlt hTs
end
end Mine

end
noncomputable section
open PySem PySem.W PyProof.Rows PyProof.Rows.LCg PySem.Calls PySem.Spec Mine
namespace Mine
theorem sub_KE_LE : isSubtype (.type "KeyError") (.type "LookupError") = pure true := by rw [isSubtype_type]; kernel_rfl
theorem tr_e : entryFor table "str.translate" = some Builtin.«str.translate» := PySem.F.entry_str_translate
section
variable {prog : Program} {w : World} {A : Around} {E : Value → Shared → Prop} {s : Shared} {h₀ : Heap} {L : Addr} {m : Str → Option Value} {news : List (Addr × Obj)}
theorem tl_keep {T : Addr} {c : Nat} {kvs : List (Int × Value)} {Q : Builtin.Str.Mapped → Shared → Prop} (hh : A.handled = none) (hS : (T == sysModules) = false) (hd : s.heap.DictOf (intKind prog w) T kvs) (hv : valueAt kvs (c : Int) = none)
    (h : ∀ h' tk', (∀ b o, s.heap.get? b = some o → h'.get? b = some o) → Q .keep { s with heap := h', toks := tk' }) : wpAny (model prog w) A (Builtin.Str.tableLookup (.ref T) c) Q E s := by
  unfold Builtin.Str.tableLookup
  refine wpAny_bind (wpAny_attempt ?_)
  refine wpAny_bind (wpAny_mkInt ?_)
  refine wpAny_getItem_missing_of (s := { s with toks := s.toks + 1 }) (isInt_is (c : Int) _) hS hh hd.mapOf hv fun h' e X => ?_
  obtain ⟨ob, t, h1, h2, h3⟩ := X.there
  dsimp only
  have hT : ({ s with heap := h', toks := s.toks + 1 + 1 } : Shared).TypeIs (.ref e) "KeyError" := ⟨ob, h1, h2⟩
  refine wpAny_bind (wpAny_isInstance hT sub_KE_LE ?_)
  rw [if_pos rfl]
  exact wpAny_bind (wpAny_rule (wpAny_pure (h h' _ X.keeps)))
noncomputable def one (c : Nat) : Str := ⟨#[c]⟩
theorem fold_one (l : List Nat) : ∀ a : Array Nat, (l.map one).foldl (fun acc p => acc ++ p.cps) a = a ++ l.toArray := by
  induction l with
  | nil => intro a; simp
  | cons c r ih => intro a; rw [List.map_cons, List.foldl_cons, ih]; apply Array.toList_inj.mp; simp [one]
theorem for_tr {P : Nat → Prop} {I : Shared → Prop} {f : Nat → (List Str × Nat × Bool × List (Nat × Option Nat) × Bool) → Sem (ForInStep (List Str × Nat × Bool × List (Nat × Option Nat) × Bool))}
    (hf : ∀ c ps n s' (Q' : ForInStep (List Str × Nat × Bool × List (Nat × Option Nat) × Bool) → Shared → Prop), P c → n ≤ 1000 → I s' → (∀ s'', I s'' → Q' (.yield (one c :: ps, n + 1, false, [], false)) s'') → wpAny (model prog w) A (f c (ps, n, false, [], false)) Q' E s') :
    ∀ (l : List Nat) (ps : List Str) (n : Nat) (s : Shared) (Q : (List Str × Nat × Bool × List (Nat × Option Nat) × Bool) → Shared → Prop), (∀ c ∈ l, P c) → n + l.length ≤ 1000 → I s → (∀ s', I s' → Q ((l.map one).reverse ++ ps, n + l.length, false, [], false) s') → wpAny (model prog w) A (forIn l (ps, n, false, [], false) f) Q E s
  | [], ps, n, s, Q, _, _, hI, hQ => by rw [List.forIn_nil]; exact wpAny_pure (hQ s hI)
  | c :: r, ps, n, s, Q, hl, hn, hI, hQ => by
    rw [List.forIn_cons]
    rw [List.length_cons] at hn
    refine wpAny_bind (hf c ps n s _ (hl c List.mem_cons_self) (by (first | lia | omega)) hI fun s'' hI'' => ?_)
    dsimp only
    refine for_tr hf r _ _ s'' Q (fun c hc => hl c (List.mem_cons_of_mem _ hc)) (by (first | lia | omega)) hI'' fun s' hI' => ?_
    have := hQ s' hI'
    rw [List.map_cons, List.reverse_cons, List.append_assoc, List.singleton_append, List.length_cons] at this
    rw [show n + 1 + r.length = n + (r.length + 1) by (first | lia | omega)]
    exact this
theorem valueAt_par {c : Nat} (h : decide (c ≠ 40 ∧ c ≠ 41) = true) : valueAt [((40 : Int), Value.none), (41, .none)] (c : Int) = none := by
  have h := of_decide_eq_true h
  have e1 : decide ((40 : Int) = (c : Int)) = false := decide_eq_false (by (first | lia | omega))
  have e2 : decide ((41 : Int) = (c : Int)) = false := decide_eq_false (by (first | lia | omega))
  simp only [valueAt, List.find?_cons, e1, e2, List.find?_nil, Option.map_none]
theorem tr_run {T : Addr} {o : Obj} {x : Str} {t : Tok} {Q : Value → Shared → Prop} (hh : A.handled = none) (hS : (T == sysModules) = false) (hT : IsIntD prog w [(40, .none), (41, .none)] T o) (F : Fr h₀ L s.heap m) (N : News h₀ L s.heap news) (hm : (T, o) ∈ news)
    (hx : x.cps.all (fun c => decide (c ≠ 40 ∧ c ≠ 41)) = true) (hlo : x.cps.all (· < 128) = false) (hlen : x.length ≤ 1000)
    (h : ∀ t' h' tk', Fr h₀ L h' m → News h₀ L h' news → Q (.str x t') { s with heap := h', toks := tk' }) :
    wpAny (model prog w) A (call (.builtin "str.translate") [.str x t, .ref T]) Q E s := by
  refine wpAny_call_entry PySem.F.slot_str_translate (show s.TypeIs (.str x t) "str" from rfl) tr_e ?_ (PySem.F.args_str_translate_2 _ _)
  unfold Builtin.«str.translate»
  refine wpAny_bind (m := Builtin.Str.strOneArg "translate" _) (wpAny_pure ?_)
  dsimp only
  have hne : x.length ≠ 0 := fun e => by
    have : x.cps = #[] := Array.eq_empty_of_size_eq_zero e
    rw [this] at hlo; simp at hlo
  rw [if_neg (by simpa using hne), hlo]
  have hfor : ∀ (β : Type) (b : β) (f : Nat → β → Sem (ForInStep β)), forIn x.cps b f = forIn x.cps.toList b f := fun β b f => (Array.forIn_toList ..).symm
  rw [hfor]
  have hd := hT s.heap (N _ hm).1
  refine wpAny_bind (for_tr (P := fun c => decide (c ≠ 40 ∧ c ≠ 41) = true) (I := fun s' => ∃ h' tk', s' = { s with heap := h', toks := tk' } ∧ ∀ b o, s.heap.get? b = some o → h'.get? b = some o) ?_ x.cps.toList [] 0 s _ (fun c hc => (Array.all_eq_true'.mp hx) c (by simpa using hc)) (by simpa [Str.length] using hlen) ⟨s.heap, s.toks, rfl, fun _ _ e => e⟩ ?_)
  · rintro c ps n s' Q' hc hn ⟨h', tk', rfl, hk⟩ hQ'
    rw [if_neg (by simp only [Builtin.Str.tooLong, sizeLine_eq]; simp; (first | lia | omega))]
    simp only [Bool.false_eq_true, if_false]
    refine wpAny_bind (tl_keep (s := { s with heap := h', toks := tk' }) (kvs := [((40 : Int), Value.none), (41, .none)]) hh hS (hd.at fun o e => hk _ o e) (valueAt_par hc) fun h2 tk2 hk2 => ?_)
    exact wpAny_pure (hQ' _ ⟨h2, tk2, rfl, fun b o e => hk2 b o (hk b o e)⟩)
  · rintro s' ⟨h', tk', rfl, hk⟩
    dsimp only
    rw [if_neg (by simp only [Builtin.Str.tooLong, sizeLine_eq]; simp [Str.length] at hlen ⊢; (first | lia | omega))]
    have e : (⟨((x.cps.toList.map one).reverse ++ []).reverse.foldl (fun acc (p : Str) => acc ++ p.cps) #[]⟩ : Str) = x := by
      rw [List.append_nil, List.reverse_reverse, fold_one]
      apply Str.ext'; apply Array.toList_inj.mp; simp
    rw [e]
    unfold retStr
    exact wpAny_bind (wpAny_mkStr (wpAny_pure ⟨_, rfl, h _ _ _ (fr_keep F hk) (news_keep N hk)⟩))
end
end Mine

end
noncomputable section
open PySem PySem.W PyProof.Rows PyProof.Rows.LCg PySem.Calls PySem.Spec Mine
namespace Mine
theorem sys_lt {P : Params} {h : Heap} (X : (kf P).In h) : sysModules < h.objs.size :=
  Nat.lt_trans (show sysModules < 901 by decide) (Heap.lt_size (X 901 (k901 P) (by rfl)))
section
variable {prog : Program} {w : World} {A : Around} {E : Value → Shared → Prop} {s : Shared} {h₀ : Heap} {L : Addr} {m : Str → Option Value} {news : List (Addr × Obj)} {P : Params}
theorem call_bf {B : Addr} {t : Tok} {Q : Value → Shared → Prop} (hh : A.handled = none) (X₀ : (kf P).In h₀) (F : Fr h₀ L s.heap m) (N : News h₀ L s.heap news) (hm : (B, bfObj) ∈ news)
    (h : ∀ D o h' tk', IsStrD prog w [(⟨#[40]⟩, .none), (⟨#[41]⟩, .none)] D o → Fr h₀ L h' m → News h₀ L h' ((D, o) :: news) → (∀ p ∈ news, p.1 < D) → (D == sysModules) = false → Q (.ref D) { s with heap := h', toks := tk' }) :
    wpAny (model prog w) A (call (.ref B) [.str (Str.ofString "()") t]) Q E s := by
  refine wpAny_call (codeAny_of_tree ?_)
  refine nd_load (N _ hm).1 ?_
  show wpAny _ _ (do checkBoundCall "dict.fromkeys" ⟨[.type "dict", .str (Str.ofString "()") t], []⟩; again (.builtin "dict.fromkeys" ⟨[.type "dict", .str (Str.ofString "()") t], []⟩)) _ _ _
  refine wpAny_bind (wpAny_of_eq (fk_bound _) ?_)
  refine wpAny_pure ⟨Code.quiet_builtin _ (by decide +kernel), ?_⟩
  exact fk_code (sys_lt (X₀.keeps F.keep)) hh F N h
theorem keeps_bf {M : Model} {h : Heap} {B : Addr} (e : h.get? B = some bfObj) : ∃ k, (k = Keeper.frame ∨ k = Keeper.machine ∨ k = Keeper.boundFrame) ∧ Looks M h (keeperOf (.ref B)) k := ⟨_, .inr (.inl rfl), (Looks.ld e).andThen .now⟩
theorem bf_there {Pp : Prop} {h : Heap} {B : Addr} (N : News h₀ L h news) (hm : (B, bfObj) ∈ news) (q : Pp) : h.get? B = some bfObj ∧ Pp := ⟨(N _ hm).1, q⟩
theorem callWith_bf {M : Model} {pos : Pos} {env : Env} {B : Addr} {e : PySem.Expr} {rest : List PySem.Expr} {Q : Value → Shared → Prop} (h : wpAny M A (spliced (backTo pos (starEach (e :: rest) env))) (fun vs s₁ => s₁.heap.get? B = some bfObj ∧ wpAny M A (call (.ref B) vs) Q E s₁) E s)
    (he : starEach (e :: rest) env = (false, eval e env) :: starEach rest env := by rfl) (hplain : (backTo pos (starEach rest env)).any (·.1) = false := by rfl) :
    wpAny M A (callWith pos (.ref B) [] (backTo pos (starEach (e :: rest) env)) []) Q E s := by
  rw [he] at h ⊢
  refine callWith_of (P := fun h => h.get? B = some bfObj) (by show ((false || (backTo pos (starEach rest env)).any (·.1)) || false) = false; rw [hplain]; rfl) (fun _ e => keeps_bf e) ?_
  exact evalArgs_plain h
theorem gm_translate {x : Str} {t : Tok} {pl : Sem Bool} {Q : Value × List Value → Shared → Prop} (hq : Q (.builtin "str.translate", [.str x t]) s) : wpAny (model prog w) A (getMethod (.str x t) "translate" pl) Q E s := by
  have hT : s.TypeIs (.str x t) "str" := rfl
  have h1 := @getMethod_builtin (model prog w) A E s (.str x t) "str" (Str.ofString "translate") "str.translate" pl Q hT PySem.F.plainAttrs_str PySem.F.slot_str_translate PySem.F.type_str_translate (fun _ e => by cases e) hq
  exact h1
end
end Mine

end
noncomputable section
open PySem PySem.W PyProof.Rows PyProof.Rows.LCg PySem.Calls PySem.Spec Mine
namespace Mine
set_option genInjectivity false in
set_option genSizeOf false in
structure ShT where
  (k0 k1 k2 k3 k4 k5 k6 k7 k8 k9 k10 k11 k12 k13 k14 k15 k16 k17 k18 k19 : Tok)
  (v0 v1 v2 v3 v4 v5 v6 v7 v8 : Tok)
noncomputable abbrev wcs : Str := Str.ofString "abcdfeghijklmnopqrstuvwxyzABCDEFGHIJKLMNOPQRSTUVWXYZ0123456789_ßàáâãäåæçèéêëìíîïðñòóôõöøùúûüýþÿÀÁÂÃÄÅÆÇÈÉÊËÌÍÎÏÐÑÒÓÔÕÖØÙÚÛÜÝÞ~-./*?="
noncomputable abbrev shD (P : Params) (T : ShT) (SX PB FS PC : Addr) (st tok : Value) : Obj :=
  dictOf [at1 P "instream" T.k0 (.ref SX), at1 P "infile" T.k1 .none, at1 P "posix" T.k2 (.bool true), at1 P "eof" T.k3 .none, at1 P "commenters" T.k4 (.str (Str.ofString "#") T.v0), at1 P "wordchars" T.k5 (.str wcs T.v1),
    at1 P "whitespace" T.k6 (.str (Str.ofString " \t\r\n") T.v2), at1 P "whitespace_split" T.k7 (.bool false), at1 P "quotes" T.k8 (.str (Str.ofString "'\"") T.v3), at1 P "escape" T.k9 (.str (Str.ofString "\\") T.v4), at1 P "escapedquotes" T.k10 (.str (Str.ofString "\"") T.v5),
    at1 P "state" T.k11 st, at1 P "pushback" T.k12 (.ref PB), at1 P "lineno" T.k13 (.int 1 T.v6), at1 P "debug" T.k14 (.int 0 T.v7), at1 P "token" T.k15 tok, at1 P "filestack" T.k16 (.ref FS), at1 P "source" T.k17 .none,
    at1 P "_punctuation_chars" T.k18 (.str (Str.ofString "()") T.v8), at1 P "_pushback_chars" T.k19 (.ref PC)] 20
theorem bf_at {h₀ h : Heap} {L B : Addr} {news : List (Addr × Obj)} (N : News h₀ L h news) (hm : (B, bfObj) ∈ news) : h.get? B = some bfObj := (N _ hm).1
end Mine

end
noncomputable section
open PySem PySem.W PyProof.Rows PyProof.Rows.LCg PySem.Calls PySem.Spec Mine
namespace Mine
set_option genInjectivity false in
set_option genSizeOf false in
structure LxA where
  (X D SX SD PB FS PC : Addr)
noncomputable abbrev lxL (P : Params) (a : LxA) (T : ShT) (x : Str) (i : Nat) (k1 k2 k3 tn tb tp : Tok) (ps : Int) (pcs : List Value) (st tok : Value) (rest : List (Addr × Obj)) : List (Addr × Obj) :=
  (a.PC, dqObj ps pcs) :: (a.FS, dqObj 0 []) :: (a.PB, dqObj 0 []) :: (a.SX, instObj 721 a.SD) :: (a.SD, sioD P x i k1 k2 k3 tn tb tp) :: (a.X, instObj 856 a.D) :: (a.D, shD P T a.SX a.PB a.FS a.PC st tok) :: rest
structure LxO (a : LxA) (rest : List (Addr × Obj)) : Prop where
  o1 : @LT.lt Nat _ a.D a.X
  o2 : @LT.lt Nat _ a.X a.SD
  o3 : @LT.lt Nat _ a.SD a.SX
  o4 : @LT.lt Nat _ a.SX a.PB
  o5 : @LT.lt Nat _ a.PB a.FS
  o6 : @LT.lt Nat _ a.FS a.PC
  r1 : ∀ p ∈ rest, p.1 ≠ a.D
  r2 : ∀ p ∈ rest, p.1 ≠ a.SD
  r3 : ∀ p ∈ rest, p.1 ≠ a.PC
end Mine
namespace Mine
theorem lx_perm {P : Params} {h₀ h : Heap} {L : Addr} {a : LxA} {T : ShT} {x : Str} {i : Nat} {k1 k2 k3 tn tb tp : Tok} {ps : Int} {pcs : List Value} {st tok : Value} {rest : List (Addr × Obj)} :
    News h₀ L h (lxL P a T x i k1 k2 k3 tn tb tp ps pcs st tok rest) ↔
    News h₀ L h ((a.SX, instObj 721 a.SD) :: (a.SD, sioD P x i k1 k2 k3 tn tb tp) :: (a.PC, dqObj ps pcs) :: (a.FS, dqObj 0 []) :: (a.PB, dqObj 0 []) :: (a.X, instObj 856 a.D) :: (a.D, shD P T a.SX a.PB a.FS a.PC st tok) :: rest) := by
  constructor <;> intro N <;> refine news_sub N fun p hp => ?_ <;> simp only [lxL, List.mem_cons] at hp ⊢ <;> rcases hp with e | e | e | e | e | e | e | e <;> simp only [e, true_or, or_true]
theorem lx_apart {a : LxA} {rest : List (Addr × Obj)} (O : LxO a rest) {o1 o2 o3 o4 o5 : Obj} : ∀ p ∈ (a.PC, o1) :: (a.FS, o2) :: (a.PB, o3) :: (a.X, o4) :: (a.D, o5) :: rest, p.1 ≠ a.SD := by
  obtain ⟨q1, q2, q3, q4, q5, q6, r1, r2, r3⟩ := O
  intro p hp
  simp only [List.mem_cons] at hp
  rcases hp with rfl | rfl | rfl | rfl | rfl | hp
  · exact neN (by omega)
  · exact neN (by omega)
  · exact neN (by omega)
  · exact neN (by omega)
  · exact neN (by omega)
  · exact r2 p hp
end Mine

end
noncomputable section
open PySem PySem.W PyProof.Rows PyProof.Rows.LCg PySem.Calls PySem.Spec Mine
namespace Mine
inductive LS
  | sp | q | e | a | c | z
noncomputable def lexGo : LS → List Nat → List Nat → Option (Option (List Nat) × LS × List Nat)
  | .z, _, [] => some (none, .z, [])
  | .c, tok, [] => if tok = [] then none else some (some tok, .z, [])
  | _, _, [] => none
  | .sp, tok, c :: r => if c = 34 then lexGo .q tok r else if c = 40 ∨ c = 41 then lexGo .c [c] r else none
  | .q, tok, c :: r => if c = 34 then lexGo .a tok r else if c = 92 then lexGo .e tok r else if c = 10 then none else lexGo .q (tok ++ [c]) r
  | .e, tok, c :: r => if c = 34 then lexGo .q (tok ++ [34]) r else none
  | .a, tok, c :: r => if c = 40 ∧ tok ≠ [] then some (some tok, .sp, c :: r) else none
  | .c, tok, c :: r => if c = 40 ∨ c = 41 then lexGo .c (tok ++ [c]) r else if c = 34 ∧ tok ≠ [] then some (some tok, .sp, c :: r) else none
  | .z, _, _ :: _ => none
theorem lexGo_z0 (t : List Nat) : lexGo .z t [] = some (none, .z, []) := rfl
theorem lexGo_c0 (t : List Nat) : lexGo .c t [] = if t = [] then none else some (some t, .z, []) := rfl
theorem lexGo_sp (t : List Nat) (c : Nat) (r : List Nat) : lexGo .sp t (c :: r) = if c = 34 then lexGo .q t r else if c = 40 ∨ c = 41 then lexGo .c [c] r else none := rfl
theorem lexGo_q (t : List Nat) (c : Nat) (r : List Nat) : lexGo .q t (c :: r) = if c = 34 then lexGo .a t r else if c = 92 then lexGo .e t r else if c = 10 then none else lexGo .q (t ++ [c]) r := rfl
theorem lexGo_e (t : List Nat) (c : Nat) (r : List Nat) : lexGo .e t (c :: r) = if c = 34 then lexGo .q (t ++ [34]) r else none := rfl
theorem lexGo_a (t : List Nat) (c : Nat) (r : List Nat) : lexGo .a t (c :: r) = if c = 40 ∧ t ≠ [] then some (some t, .sp, c :: r) else none := rfl
theorem lexGo_c (t : List Nat) (c : Nat) (r : List Nat) : lexGo .c t (c :: r) = if c = 40 ∨ c = 41 then lexGo .c (t ++ [c]) r else if c = 34 ∧ t ≠ [] then some (some t, .sp, c :: r) else none := rfl
theorem lexGo_zc (t : List Nat) (c : Nat) (r : List Nat) : lexGo .z t (c :: r) = none := rfl
noncomputable def stS : LS → Str
  | .sp => Str.ofString " "
  | .q => Str.ofString "\""
  | .e => Str.ofString "\\"
  | .a => Str.ofString "a"
  | .c => Str.ofString "c"
  | .z => Str.ofString ""
noncomputable def stV (t : Tok) : LS → Value
  | .z => .none
  | st => .str (stS st) t
noncomputable def LeftR (x : Str) (i : Nat) (pcs : List Value) (r : List Nat) : Prop := i ≤ x.length ∧ ((pcs = [] ∧ r = x.cps.toList.drop i) ∨ ∃ c t, pcs = [.str ⟨#[c]⟩ t] ∧ r = c :: x.cps.toList.drop i)
end Mine
namespace Mine
noncomputable def TokV : Option (List Nat) → Value → Prop
  | some l, v => ∃ t, v = .str ⟨l.toArray⟩ t
  | none, v => v = .none
noncomputable def QB : LS → Bool → Prop
  | .q, _ => True
  | .e, b => b = true
  | .a, b => b = true
  | _, b => b = false
noncomputable def tkJ (P : Params) (a : LxA) (T : ShT) (x : Str) (q1 q2 q3 tn tb : Tok) (rest : List (Addr × Obj)) (out : Option (Option (List Nat) × LS × List Nat)) (mb : Str → Option Value) (n : Nat) (m : Str → Option Value) (nx : List (Addr × Obj)) : Prop :=
  ∃ (st : LS) (tok r : List Nat) (i : Nat) (pcs : List Value) (ps : Int) (tp ts tt : Tok) (b : Bool) (vn ve : Option Value), QB st b ∧ r.length = n ∧ lexGo st tok r = out ∧ LeftR x i pcs r ∧ (pcs = [] ∨ st = .sp) ∧ tok.length ≤ i + 1 ∧ (st = .e → ∃ t, ve = some (.str (Str.ofString "\"") t)) ∧
    nx = lxL P a T x i q1 q2 q3 tn tb tp ps pcs (stV ts st) (.str ⟨tok.toArray⟩ tt) rest ∧
    m = fun z => if z = S "nextchar" then vn else if z = S "escapedstate" then ve else if z = S "quoted" then some (.bool b) else mb z
end Mine
namespace Mine
theorem left_sp {x : Str} {i : Nat} {pcs : List Value} {st : LS} {tok r : List Nat} {out : Option (List Nat) × LS × List Nat} (hr : LeftR x i pcs r) (hq : st = .sp ∨ st = .z) (hgo : lexGo st tok r = some out) : pcs = [] ∨ st = .sp := by
  rcases hr.2 with ⟨h, _⟩ | ⟨c, t, _, rfl⟩
  · exact .inl h
  · rcases hq with rfl | rfl
    · exact .inr rfl
    · cases hgo
theorem one_ne {c d : Nat} (h : c ≠ d) : ((⟨#[c]⟩ : Str) == (⟨#[d]⟩ : Str)) = false := by
  rw [beq_eq_false_iff_ne]; intro e; injection e with e; exact h (by simpa using e)
theorem mem_at {x : Str} {i c : Nat} (h : x.cps[i]? = some c) : c ∈ x.cps.toList := by
  have : x.cps.toList[i]? = some c := by simpa using h
  exact List.mem_of_getElem? this
end Mine
namespace Mine
theorem drop_one {x : Str} {i c : Nat} (h : x.cps[i]? = some c) : x.cps.toList.drop i = c :: x.cps.toList.drop (i + 1) := by
  have h' : x.cps.toList[i]? = some c := by simpa using h
  obtain ⟨hl, he⟩ := List.getElem?_eq_some_iff.mp h'
  rw [List.drop_eq_getElem_cons hl, he]
theorem drop_end {x : Str} {i : Nat} (h : x.cps[i]? = none) : x.cps.toList.drop i = [] := by
  have : x.cps.size ≤ i := Array.getElem?_eq_none_iff.mp h
  exact List.drop_eq_nil_iff.mpr (by simpa using this)
end Mine
namespace Mine
section
variable {prog : Program} {w : World} {A : Around} {E : Value → Shared → Prop} {s : Shared}
theorem in_yes {x y : Str} {t u : Tok} {Q : Value → Shared → Prop} (e : (Builtin.Str.occurrences x y 0 x.length 1).isEmpty = false) (h : Q (.bool true) s) : wpAny (model prog w) A (compareOp .In (.str y u) (.str x t)) Q E s := PySem.P.in_str (by rw [e]; exact h)
theorem in_no {x y : Str} {t u : Tok} {Q : Value → Shared → Prop} (e : (Builtin.Str.occurrences x y 0 x.length 1).isEmpty = true) (h : Q (.bool false) s) : wpAny (model prog w) A (compareOp .In (.str y u) (.str x t)) Q E s := PySem.P.in_str (by rw [e]; exact h)
end
theorem occ_no {x : Str} {c : Nat} (h : c ∉ x.cps.toList) : (Builtin.Str.occurrences x ⟨#[c]⟩ 0 x.length 1).isEmpty = true := by
  have := StrLaws.found_one x c
  rw [decide_eq_false h] at this
  simpa using this
theorem occ_yes {x : Str} {c : Nat} (h : c ∈ x.cps.toList) : (Builtin.Str.occurrences x ⟨#[c]⟩ 0 x.length 1).isEmpty = false := by
  have := StrLaws.found_one x c
  rw [decide_eq_true h] at this
  simpa using this
end Mine
namespace Mine
theorem tk_end {P : Params} {a : LxA} {T : ShT} {x : Str} {i' : Nat} {q1 q2 q3 tn tb tp ts tt : Tok} {ps : Int} {pcs : List Value} {st2 : LS} {tok2 r2 : List Nat} {rest : List (Addr × Obj)} {out : Option (Option (List Nat) × LS × List Nat)} {mb m' : Str → Option Value} {n : Nat} {b : Bool} {G : Array GenState → Prop} {h₀ h' : Heap} {L : Addr} {s₁ : Shared} {tk : Nat} {g' : Array GenState}
    (F : Fr h₀ L h' m') (N : News h₀ L h' (lxL P a T x i' q1 q2 q3 tn tb tp ps pcs (stV ts st2) (.str ⟨tok2.toArray⟩ tt) rest)) (hlt : r2.length < n) (hgo : lexGo st2 tok2 r2 = out) (hl : LeftR x i' pcs r2) (hps : pcs = [] ∨ st2 = .sp) (htk : tok2.length ≤ i' + 1)
    (he : st2 = .e → ∃ t, m' (S "escapedstate") = some (.str (Str.ofString "\"") t)) (hb : QB st2 b) (hq : m' (S "quoted") = some (.bool b)) (hm : ∀ z, z ≠ S "nextchar" → z ≠ S "escapedstate" → z ≠ S "quoted" → m' z = mb z) (hg : G g') :
    EndW G h₀ L (fun m nx => ∃ k, k < n ∧ tkJ P a T x q1 q2 q3 tn tb rest out mb k m nx) s₁ { s₁ with heap := h', toks := tk, gens := g' } :=
  EndW.mk F N ⟨r2.length, hlt, st2, tok2, r2, i', pcs, ps, tp, ts, tt, b, m' (S "nextchar"), m' (S "escapedstate"), hb, rfl, hgo, hl, hps, htk, he, rfl, map3_ext rfl rfl hq hm⟩ hg
theorem tok_snoc (tok : List Nat) (c : Nat) : (({ cps := tok.toArray } : Str) ++ ({ cps := #[c] } : Str)) = { cps := (tok ++ [c]).toArray } := str_eq (by
  show (tok.toArray ++ #[c]).toList = _
  simp)
theorem wc_no (c : Nat) (h : c = 34 ∨ c = 40 ∨ c = 41 ∨ c = 92) : (Builtin.Str.occurrences wcs ⟨#[c]⟩ 0 wcs.length 1).isEmpty = true :=
  occ_no (by rcases h with rfl | rfl | rfl | rfl <;> decide +kernel)
theorem par_occ {c : Nat} (h : c = 40 ∨ c = 41) : (Builtin.Str.occurrences (Str.ofString " \t\r\n") ⟨#[c]⟩ 0 (Str.ofString " \t\r\n").length 1).isEmpty = true ∧ (Builtin.Str.occurrences (Str.ofString "#") ⟨#[c]⟩ 0 (Str.ofString "#").length 1).isEmpty = true ∧
    (Builtin.Str.occurrences (Str.ofString "\\") ⟨#[c]⟩ 0 (Str.ofString "\\").length 1).isEmpty = true ∧ (Builtin.Str.occurrences wcs ⟨#[c]⟩ 0 wcs.length 1).isEmpty = true ∧ (Builtin.Str.occurrences (Str.ofString "()") ⟨#[c]⟩ 0 (Str.ofString "()").length 1).isEmpty = false := by
  refine ⟨occ_no ?_, occ_no ?_, occ_no ?_, wc_no c (h.elim (fun h => .inr (.inl h)) fun h => .inr (.inr (.inl h))), occ_yes ?_⟩ <;> rcases h with rfl | rfl <;> decide +kernel
theorem one_len (c : Nat) : (({ cps := #[c] } : Str).length : Int) ≠ 0 := by show ((1 : Nat) : Int) ≠ 0; decide
end Mine
namespace Mine
theorem tok_len {tok : List Nat} (h : tok ≠ []) : (({ cps := tok.toArray } : Str).length : Int) ≠ 0 ∧ (({ cps := tok.toArray } : Str) == Str.ofString "") = false := by
  constructor
  · cases tok with
    | nil => exact absurd rfl h
    | cons c r => show (((c :: r).toArray.size : Nat) : Int) ≠ 0; rw [List.size_toArray, List.length_cons]; omega
  · rw [beq_eq_false_iff_ne]; intro e
    injection e with e
    exact h (show tok = [] from congrArg Array.toList e)
end Mine
namespace Mine
theorem tr_yes {prog : Program} {w : World} {A : Around} {E : Value → Shared → Prop} {s : Shared} {x : Str} {t : Tok} {Q : Bool → Shared → Prop} (e : (x.length : Int) ≠ 0) (hl : x.length ≤ 2000) (h : ∀ k, Q true { s with toks := k }) : wpAny (model prog w) A (truthy (.str x t)) Q E s :=
  KXt.truthy (b := true) (by rw [bne_iff_ne]; exact e) (by omega) h
end Mine
namespace Mine
end Mine
namespace Mine
theorem notin_yes {prog : Program} {w : World} {A : Around} {E : Value → Shared → Prop} {s : Shared} {x y : Str} {t u : Tok} {Q : Value → Shared → Prop} (e : (Builtin.Str.occurrences x y 0 x.length 1).isEmpty = true) (h : Q (.bool true) s) : wpAny (model prog w) A (compareOp .NotIn (.str y u) (.str x t)) Q E s := PySem.P.notIn_str (by rw [e]; exact h)
end Mine
namespace Mine
theorem dq_truthy2 {prog : Program} {w : World} {A : Around} {E : Value → Shared → Prop} {s : Shared} {h₀ : Heap} {L : Addr} {news : List (Addr × Obj)} {a : Addr} {st : Int} {xs : List Value} {b : Bool} {Q : Bool → Shared → Prop} (N : News h₀ L s.heap news) (hm : (a, dqObj st xs) ∈ news) (hx : xs.length ≤ 1000) (e : (!xs.isEmpty) = b)
    (h : ∀ k, Q b { s with toks := k }) : wpAny (model prog w) A (truthy (.ref a)) Q E s := dq_truthy N hm hx (by rw [e]; exact h _)
end Mine

end
noncomputable section
open PySem PySem.W PyProof.Rows PyProof.Rows.LCg PySem.Calls PySem.Spec Mine
namespace Mine
section
variable {prog : Program} {w : World} {A : Around} {E : Value → Shared → Prop} {h : Heap} {g : Array GenState} {d : Drawn} {t : Nat} {os : OsState}
end
end Mine
namespace Mine
section
variable {prog : Program} {w : World} {A : Around} {E : Value → Shared → Prop} {h : Heap} {g : Array GenState} {d : Drawn} {t : Nat} {os : OsState}
end
end Mine

end
noncomputable section
open PySem PySem.W PyProof.Rows PyProof.Rows.LCg PySem.Calls PySem.Spec Mine
namespace Mine
theorem map_put {m : Str → Option Value} {x y : Str} {v : Option Value} {o : Option Value} (hn : (y == x) = false) (h : m y = o) : (fun z => if z = x then v else m z) y = o := by
  have : y ≠ x := by simpa using hn
  simp only [if_neg this]; exact h
section
variable {prog : Program} {w : World} {A : Around} {E : Value → Shared → Prop} {s : Shared} {h₀ : Heap} {L : Addr} {m : Str → Option Value}
theorem strip_ends {x z y : Str} {t u : Tok} {Q : Value → Shared → Prop} (e : Txt.stripChars x z = y) (hs : x.length ≤ 2000) (h : ∀ t' k, Q (.str y t') { s with toks := k }) : wpAny (model prog w) A (call (.builtin "str.strip") [.str x t, .str z u]) Q E s :=
  KXw.stripChars e (Nat.le_trans hs (by rw [sizeLine_eq]; decide)) h
theorem tr_no {x : Str} {t : Tok} {Q : Bool → Shared → Prop} (e : x = Str.ofString "") (h : ∀ k, Q false { s with toks := k }) : wpAny (model prog w) A (truthy (.str x t)) Q E s := by
  subst e; exact KXt.truthy (b := false) rfl (by decide) h
end
end Mine

end
noncomputable section
open PySem PySem.W PyProof.Rows PyProof.Rows.LCg PySem.Calls PySem.Spec Mine
namespace Mine
noncomputable def EndH (G : Array GenState → Prop) (h₀ : Heap) (L : Addr) (J : (Str → Option Value) → List (Addr × Obj) → Prop) (W : List Addr) (own : List (Addr × Obj)) (s₁ s₂ : Shared) : Prop :=
  EndK (fun nx => ∀ p ∈ nx, p.1 ∉ W) G h₀ L J own s₁ s₂
noncomputable abbrev PostH (G : Array GenState → Prop) (h₀ : Heap) (L : Addr) (J : (Str → Option Value) → List (Addr × Obj) → Prop) (W : List Addr) (own : List (Addr × Obj)) (s₁ : Shared) (Q : Flow → Shared → Prop) (f : Flow) (s₂ : Shared) : Prop :=
  match f with
  | .ret v => Q (.ret v) s₂
  | .brk => Q .next s₂
  | .next => EndH G h₀ L J W own s₁ s₂
  | .cont => EndH G h₀ L J W own s₁ s₂
theorem EndH.mk {G : Array GenState → Prop} {h₀ : Heap} {L : Addr} {J : (Str → Option Value) → List (Addr × Obj) → Prop} {m' : Str → Option Value} {W : List Addr} {own news' nx : List (Addr × Obj)} {s₁ : Shared} {h' : Heap} {tk : Nat} {g' : Array GenState} (hg : G g') (F : Fr h₀ L h' m') (N : News h₀ L h' news')
    (hj : J m' nx) (hn : ∀ p ∈ nx, p ∈ news') (ho : ∀ p ∈ own, p ∈ news') (hw : ∀ p ∈ nx, p.1 ∉ W) : EndH G h₀ L J W own s₁ { s₁ with heap := h', toks := tk, gens := g' } := ⟨h', tk, g', m', news', nx, rfl, hg, F, N, hn, ho, hw, hj⟩
noncomputable def HasW (W : List Addr) (own : List (Addr × Obj)) : Prop := ∀ b ∈ W, ∃ o, (b, o) ∈ own
theorem new_off {W : List Addr} {own all : List (Addr × Obj)} {D : Addr} (h : HasW W own) (hs : ∀ p ∈ own, p ∈ all) (l : ∀ p ∈ all, p.1 < D) : D ∉ W := fun hD => by
  obtain ⟨o, ho⟩ := h D hD
  exact Nat.lt_irrefl _ (l _ (hs _ ho))
section
variable {prog : Program} {w : World} {A : Around} {E : Value → Shared → Prop} {s : Shared} {h₀ : Heap} {Q : Flow → Shared → Prop}
noncomputable def LoopH (prog : Program) (w : World) (A : Around) (h₀ : Heap) (L : Addr) (I : Addr) (fp wr : List Addr) (n : Nat) (P : Nat → Value → Prop) (St : Nat → Heap → Prop) (m₀ : Str → Option Value) (keep : List (Addr × Obj)) (chg : List Addr) (s : Shared) : Prop :=
  LoopG prog w A h₀ L I fp wr n P St m₀ keep chg s ∧ ∀ i h, St i h → ∀ b ∈ wr, ∃ o, h.get? b = some o
theorem own_has {St : Nat → Heap → Prop} {fp wr : List Addr} (hw : ∀ b ∈ wr, b ∈ fp ∧ h₀.get? b = none) (has : ∀ i h, St i h → ∀ b ∈ wr, ∃ o, h.get? b = some o) (i : Nat) (h : Heap) (st : St i h) : HasW wr (ownOf h₀ fp h) := fun b hb => by
  obtain ⟨o, ho⟩ := has _ _ st b hb
  exact ⟨o, mem_ownOf (hw b hb).1 (hw b hb).2 ho⟩
theorem For_HE {env : Env} {G : Array GenState → Prop} {x : Str} {px pos : Pos} {iter : PySem.Expr} {body : List Stmt} {m₀ : Str → Option Value} {keep : List (Addr × Obj)} {chg : List Addr} (n : Nat) (P : Nat → Value → Prop)
    (J : Nat → (Str → Option Value) → List (Addr × Obj) → Prop)
    (h : wpAny (model prog w) A (eval iter env) (fun xv s₁ => wpAny (model prog w) A (pyIter xv) (fun it s₂ => ∃ I fp wr St, it = .ref I ∧ LoopH prog w A h₀ env.locals I fp wr n P St m₀ keep chg s₂ ∧ ∃ h tk, s₂ = { s with heap := h, toks := tk }) E s₁) E s)
    (hj : J 0 m₀ keep) (hAB : G s.gens) (hx : env.kindOf x = some .local) (hp : (env.scope.kind == .class || (env.scope.kind == .module && env.locals != env.globals)) = false)
    (turn : ∀ i v m₁ news₁ h tk g W own, i < n → P i v → HasW W own → OwnOff own chg → (∀ p ∈ news₁, p.1 ∉ W) → J i m₁ news₁ → G g → Fr h₀ env.locals h (fun z => if z = x then some v else m₁ z) → News h₀ env.locals h (news₁ ++ own) →
      wpAny (model prog w) A (execs body env) (PostH G h₀ env.locals (J (i + 1)) W own { s with heap := h, toks := tk, gens := g } Q) E { s with heap := h, toks := tk, gens := g })
    (done : ∀ m₁ news₁ h tk g, J n m₁ news₁ → G g → Fr h₀ env.locals h m₁ → News h₀ env.locals h news₁ → Q .next { s with heap := h, toks := tk, gens := g })
    (hs : ∀ x, foldedSetIterable iter env x = pure x) (hE : PassesOwn (model prog w) A env E) :
    wpAny (model prog w) A (exec (.For (.Name x px) iter body [] pos) env) Q E s := by
  refine wpAny_For (wpAny_mono h (fun xv s₁ h₁ => wpAny_mono h₁ (fun it s₂ h₂ => ?_) fun _ _ e => e) fun _ _ e => e) hs
  obtain ⟨I, fp, wr, St, rfl, ⟨X, has⟩, h₂, tk₂, rfl⟩ := h₂
  have hw : ∀ b ∈ wr, b ∈ fp ∧ h₀.get? b = none := fun b hb => ⟨X.W.sub b hb, X.new b hb⟩
  exact forLoop_K J (fun nx => ∀ p ∈ nx, p.1 ∉ wr) (fun own => OwnOff own chg ∧ HasW wr own) X.W.frame (steps_name X.W X.off X.new hx hp) X.W.done X.off hw (fun i h st => ⟨own_off X.coff, own_has hw has i h st⟩) (fun nw h => h) X.koff X.st X.F X.N hj hAB
    (fun i v m₁ news₁ h tk g own e1 e2 e3 e4 e5 e6 e7 e8 => wpAny_mono (turn i v m₁ news₁ h tk g wr own e1 e2 e3.2 e3.1 e4 e5 e6 e7 e8) (fun f s' z => by cases f <;> exact z) fun _ _ z => z) (fun m₁ news₁ h tk g e1 e2 e3 e4 e5 => done m₁ news₁ h tk g e2 e3 e4 e5) hE
theorem For_H {name : Str} {scope : Scope} {L a : Addr} {cd : Value} {G : Array GenState → Prop} {x : Str} {px pos : Pos} {iter : PySem.Expr} {body : List Stmt} {m₀ : Str → Option Value} {keep : List (Addr × Obj)} {chg : List Addr} (n : Nat) (P : Nat → Value → Prop)
    (J : Nat → (Str → Option Value) → List (Addr × Obj) → Prop)
    (h : wpAny (model prog w) A (eval iter (envOf name scope L a cd)) (fun xv s₁ => wpAny (model prog w) A (pyIter xv) (fun it s₂ => ∃ I fp wr St, it = .ref I ∧ LoopH prog w A h₀ L I fp wr n P St m₀ keep chg s₂ ∧ ∃ h tk, s₂ = { s with heap := h, toks := tk }) E s₁) E s)
    (hj : J 0 m₀ keep) (hAB : G s.gens) (hx : scope.names.lookup x = some .local) (hks : scope.kind = .function)
    (turn : ∀ i v m₁ news₁ h tk g W own, i < n → P i v → HasW W own → OwnOff own chg → (∀ p ∈ news₁, p.1 ∉ W) → J i m₁ news₁ → G g → Fr h₀ L h (fun z => if z = x then some v else m₁ z) → News h₀ L h (news₁ ++ own) →
      wpAny (model prog w) A (execs body (envOf name scope L a cd)) (PostH G h₀ L (J (i + 1)) W own { s with heap := h, toks := tk, gens := g } Q) E { s with heap := h, toks := tk, gens := g })
    (done : ∀ m₁ news₁ h tk g, J n m₁ news₁ → G g → Fr h₀ L h m₁ → News h₀ L h news₁ → Q .next { s with heap := h, toks := tk, gens := g })
    (hs : ∀ x, foldedSetIterable iter (envOf name scope L a cd) x = pure x) (hE : PassesOwn (model prog w) A (envOf name scope L a cd) E) :
    wpAny (model prog w) A (exec (.For (.Name x px) iter body [] pos) (envOf name scope L a cd)) Q E s :=
  For_HE (h₀ := h₀) n P J h hj hAB hx (by show (scope.kind == .class || (scope.kind == .module && L != mainGlobals)) = false; rw [hks]; rfl) turn done hs hE
end
end Mine

end
noncomputable section
open PySem PySem.W PyProof.Rows PyProof.Rows.LCg PySem.Calls PySem.Spec Mine
namespace Mine
section
variable {prog : Program} {w : World} {A : Around} {E : Value → Shared → Prop} {s : Shared} {h₀ : Heap} {L : Addr} {env : Env} {Q : Flow → Shared → Prop}
structure LoopP (prog : Program) (w : World) (A : Around) (h₀ : Heap) (L : Addr) (I : Addr) (fp wr : List Addr) (n : Nat) (P2 : Nat → Value → Value → Prop) (Pt : Nat → Array Value → Prop) (St : Nat → Heap → Prop) (Mid : Nat → Addr → Heap → Prop) (m₀ : Str → Option Value) (keep : List (Addr × Obj)) (chg : List Addr) (s : Shared) : Prop where
  W : WalksT prog w A I fp wr n Pt St Mid
  two : ∀ i vals, Pt i vals → ∃ v0 v1, vals = #[v0, v1] ∧ P2 i v0 v1
  has : ∀ i h, St i h → ∀ b ∈ wr, ∃ o, h.get? b = some o
  off : L ∉ fp
  new : ∀ b ∈ wr, h₀.get? b = none
  koff : ∀ q ∈ keep, q.1 ∉ wr
  coff : ∀ b ∈ chg, b ∉ fp
  st : St 0 s.heap
  F : Fr h₀ L s.heap m₀
  N : News h₀ L s.heap keep
theorem steps_pair {xi xc : Str} {pk pv pt : Pos} {x1 : Nat} {I : Addr} {fp wr : List Addr} {n : Nat} {P2 : Nat → Value → Value → Prop} {Pt : Nat → Array Value → Prop} {St : Nat → Heap → Prop} {Mid : Nat → Addr → Heap → Prop} (W : WalksT prog w A I fp wr n Pt St Mid)
    (h2 : ∀ i vals, Pt i vals → ∃ v0 v1, vals = #[v0, v1] ∧ P2 i v0 v1) (hLf : env.locals ∉ fp) (hwr : ∀ b ∈ wr, h₀.get? b = none) (hh : A.handled = none)
    (hxi : env.kindOf xi = some .local) (hxc : env.kindOf xc = some .local)
    (hp : (env.scope.kind == .class || (env.scope.kind == .module && env.locals != env.globals)) = false) :
    Steps prog w A h₀ env (.Tuple [.Name xi pk, .Name xc pv] x1 pt) (fun (v : Value × Value) m y => if y = xc then some v.2 else if y = xi then some v.1 else m y) I wr n (fun i v => P2 i v.1 v.2) St := by
  intro i s m nw K E R hlt hst hnw F N hR hK
  have hLw : env.locals ∉ wr := fun h => hLf (W.sub _ h)
  refine W.item i _ _ _ hlt hst fun T vals h₁ tk₁ hPt _ hT hMid hk₁ => hR _ _ ?_
  obtain ⟨v0, v1, rfl, hP2⟩ := h2 i vals hPt
  refine W.go _ x1 pt i T _ _ _ hMid fun h₂ hst₂ hk₂ => ?_
  have ht₂ : h₂.IsTuple T #[v0, v1] := hT.at fun o e => hk₂ T o (W.apart i T h₁ hMid) e
  refine wpAny_assign_Tuple hh ht₂ rfl rfl fun h₃ hx₃ => ?_
  replace hx₃ : Heap.ExtBut h₂.objs.size h₂ h₃ := hx₃
  have up₃ : ∀ b o, h₂.get? b = some o → h₃.get? b = some o := fun b o x => hx₃ b o (Nat.ne_of_lt (Heap.lt_size x)) x
  obtain ⟨F₃, N₃⟩ := fr_next hLw hwr hnw F N fun b o hb x => up₃ b o (hk₂ b o hb (hk₁ b o hb x))
  show wpAny _ A (do holding [v1] (assign (.Name xi pk) env v0); do holding [] (assign (.Name xc pv) env v1); pure ()) _ _ _
  refine wpAny_bind (wpAny_holding (wpAny_assign_Name (wpAny_storeName_local hxi F₃.ns (fun h₄ hn₄ hs₄ => ?_) hp)))
  replace hs₄ : Heap.SameBut env.locals h₃ h₄ := hs₄
  have F₄ := F₃.set hn₄ hs₄
  refine wpAny_bind (wpAny_holding (wpAny_assign_Name (wpAny_storeName_local hxc F₄.ns (fun h₅ hn₅ hs₅ => wpAny_pure ?_) hp)))
  replace hs₅ : Heap.SameBut env.locals h₄ h₅ := hs₅
  exact hK (v0, v1) h₅ _ hP2 (W.frame _ _ _ hst₂ fun b hb o e => hs₅.extBut b o (fun q => hLf (q ▸ hb)) (hs₄.extBut b o (fun q => hLf (q ▸ hb)) (up₃ b o e))) (F₄.set hn₅ hs₅) ((N₃.set hs₄).set hs₅)
theorem For_P {G : Array GenState → Prop} {xi xc : Str} {pk pv pt pos : Pos} {x1 : Nat} {iter : PySem.Expr} {body : List Stmt} {m₀ : Str → Option Value} {keep : List (Addr × Obj)} {chg : List Addr} (n : Nat) (P2 : Nat → Value → Value → Prop)
    (J : Nat → (Str → Option Value) → List (Addr × Obj) → Prop) (hh : A.handled = none)
    (h : wpAny (model prog w) A (eval iter env) (fun xv s₁ => wpAny (model prog w) A (pyIter xv) (fun it s₂ => ∃ I fp wr Pt St Mid, it = .ref I ∧ LoopP prog w A h₀ env.locals I fp wr n P2 Pt St Mid m₀ keep chg s₂ ∧ ∃ h tk, s₂ = { s with heap := h, toks := tk }) E s₁) E s)
    (hj : J 0 m₀ keep) (hAB : G s.gens) (hxi : env.kindOf xi = some .local) (hxc : env.kindOf xc = some .local)
    (hp : (env.scope.kind == .class || (env.scope.kind == .module && env.locals != env.globals)) = false)
    (turn : ∀ i v0 v1 m₁ news₁ h tk g W own, i < n → P2 i v0 v1 → HasW W own → OwnOff own chg → (∀ p ∈ news₁, p.1 ∉ W) → J i m₁ news₁ → G g → Fr h₀ env.locals h (fun y => if y = xc then some v1 else if y = xi then some v0 else m₁ y) → News h₀ env.locals h (news₁ ++ own) →
      wpAny (model prog w) A (execs body env) (PostH G h₀ env.locals (J (i + 1)) W own { s with heap := h, toks := tk, gens := g } Q) E { s with heap := h, toks := tk, gens := g })
    (done : ∀ m₁ news₁ h tk g, J n m₁ news₁ → G g → Fr h₀ env.locals h m₁ → News h₀ env.locals h news₁ → Q .next { s with heap := h, toks := tk, gens := g })
    (hs : ∀ x, foldedSetIterable iter env x = pure x) (hE : PassesOwn (model prog w) A env E) :
    wpAny (model prog w) A (exec (.For (.Tuple [.Name xi pk, .Name xc pv] x1 pt) iter body [] pos) env) Q E s := by
  refine wpAny_For (wpAny_mono h (fun xv s₁ h₁ => wpAny_mono h₁ (fun it s₂ h₂ => ?_) fun _ _ e => e) fun _ _ e => e) hs
  obtain ⟨I, fp, wr, Pt, St, Mid, rfl, X, h₂, tk₂, rfl⟩ := h₂
  have hw : ∀ b ∈ wr, b ∈ fp ∧ h₀.get? b = none := fun b hb => ⟨X.W.sub b hb, X.new b hb⟩
  exact forLoop_K J (fun nx => ∀ p ∈ nx, p.1 ∉ wr) (fun own => OwnOff own chg ∧ HasW wr own) X.W.frame (steps_pair X.W X.two X.off X.new hh hxi hxc hp) X.W.done X.off hw (fun i h st => ⟨own_off X.coff, own_has hw X.has i h st⟩) (fun nw h => h) X.koff X.st X.F X.N hj hAB
    (fun i v m₁ news₁ h tk g own e1 e2 e3 e4 e5 e6 e7 e8 => wpAny_mono (turn i v.1 v.2 m₁ news₁ h tk g wr own e1 e2 e3.2 e3.1 e4 e5 e6 e7 e8) (fun f s' z => by cases f <;> exact z) fun _ _ z => z) (fun m₁ news₁ h tk g e1 e2 e3 e4 e5 => done m₁ news₁ h tk g e2 e3 e4 e5) hE
theorem src_enum {l : Addr} {its : Array Value} {m₀ : Str → Option Value} {news keep : List (Addr × Obj)} {chg : List Addr} (hh : A.handled = none) (F : Fr h₀ L s.heap m₀) (N : News h₀ L s.heap news) (hl : s.heap.IsList l its) (hlL : l ≠ L) (hk : ∀ q ∈ keep, q ∈ news) (hc : ∀ b ∈ chg, b ≠ l) (hcn : ∀ b ∈ chg, ∃ o, (b, o) ∈ news) :
    wpAny (model prog w) A (call (.type "enumerate") [.ref l]) (fun xv s₁ => wpAny (model prog w) A (pyIter xv) (fun it s₂ => ∃ I fp wr Pt St Mid, it = .ref I ∧ LoopP prog w A h₀ L I fp wr its.size (fun i v0 v1 => ∃ t, v0 = .int i t ∧ its[i]? = some v1) Pt St Mid m₀ keep chg s₂ ∧ ∃ h tk, s₂ = { s with heap := h, toks := tk }) E s₁) E s := by
  refine call_enumerate_list hl fun h' he hit hsz hk' => ?_
  refine wpAny_pyIter_enum he ?_
  have hLs : L < s.heap.objs.size := F.ns.lt
  have hlt : l < s.heap.objs.size := by obtain ⟨_, e, _⟩ := hl; exact Heap.lt_size e
  have hn0 : ∀ c, s.heap.objs.size ≤ c → h₀.get? c = none := fun c hc => Heap.get?_none_of_le (Nat.le_trans (Nat.le_trans F.above (Nat.le_of_lt hLs)) hc)
  have hcl : ∀ b ∈ chg, b < s.heap.objs.size := chg_lt N hcn
  refine ⟨s.heap.objs.size + 1, _, _, _, _, _, rfl, ⟨WalksT.enumerateD (Draws.list (A := A.in1) hh s.heap.objs.size l (Nat.ne_of_lt hlt) its) (s.heap.objs.size + 1) (Nat.succ_ne_self _) ?_ List.mem_cons_self, ?_, ?_, ?_, ?_, ?_, ?_, ⟨⟨_, by simpa using he⟩, hit, hl.at fun o e => hk' _ o e⟩, F.keeps hk', fun q hq => ⟨hk' _ _ (N q (hk q hq)).1, (N q (hk q hq)).2⟩⟩, h', s.toks, rfl⟩
  · intro hm
    rcases List.mem_cons.mp hm with e | hm
    · exact Nat.succ_ne_self _ e
    · exact Nat.ne_of_gt (Nat.lt_succ_of_lt hlt) (List.mem_singleton.mp hm)
  · rintro i vals ⟨t, x, hPx, rfl⟩
    exact ⟨_, _, rfl, t, rfl, hPx⟩
  · intro i h st b hb
    rcases List.mem_cons.mp hb with rfl | hb
    · obtain ⟨⟨_, e⟩, _⟩ := st; exact ⟨_, e⟩
    · rw [List.mem_singleton.mp hb]; obtain ⟨_, ⟨o, e, _⟩, _⟩ := st; exact ⟨o, e⟩
  · intro hm
    rcases List.mem_cons.mp hm with e | hm
    · exact Nat.ne_of_lt (Nat.lt_succ_of_lt hLs) e
    rcases List.mem_cons.mp hm with e | hm
    · exact Nat.ne_of_lt hLs e
    · exact hlL (List.mem_singleton.mp hm).symm
  · intro b hb
    rcases List.mem_cons.mp hb with rfl | hb
    · exact hn0 _ (Nat.le_succ _)
    · rw [List.mem_singleton.mp hb]; exact hn0 _ (Nat.le_refl _)
  · intro p hp hb
    have hq := Heap.lt_size (N p (hk p hp)).1
    rcases List.mem_cons.mp hb with e | hb
    · exact Nat.ne_of_lt (Nat.lt_succ_of_lt hq) e
    · exact Nat.ne_of_lt hq (List.mem_singleton.mp hb)
  · intro b hb hm
    have hq := hcl b hb
    rcases List.mem_cons.mp hm with e | hm
    · exact Nat.ne_of_lt (Nat.lt_succ_of_lt hq) e
    rcases List.mem_cons.mp hm with e | hm
    · exact Nat.ne_of_lt hq e
    · exact hc b hb (List.mem_singleton.mp hm)
end
end Mine

end
noncomputable section
open PySem PySem.W PyProof.Rows PyProof.Rows.LCg PySem.Calls PySem.Spec Mine
namespace Mine
section
variable {prog : Program} {w : World} {A : Around} {E : Value → Shared → Prop} {s : Shared} {h₀ : Heap} {name : Str} {scope : Scope} {L a : Addr} {cd : Value} {m₀ : Str → Option Value} {news keep : List (Addr × Obj)} {chg : List Addr}
theorem For_str {G : Array GenState → Prop} {x y : Str} {px py pos : Pos} {body : List Stmt} {u : Str} {tu : Tok} {Q : Flow → Shared → Prop} (J : Nat → (Str → Option Value) → List (Addr × Obj) → Prop) (hh : A.handled = none) (F : Fr h₀ L s.heap m₀) (N : News h₀ L s.heap news) (hm : m₀ y = some (.str u tu))
    (chg : List Addr) (hk : ∀ q ∈ keep, q ∈ news) (hcn : ∀ b ∈ chg, ∃ o, (b, o) ∈ news) (hj : J 0 m₀ keep) (hAB : G s.gens) (hx : scope.names.lookup x = some .local) (hy : scope.names.lookup y = some .local) (hks : scope.kind = .function) (hd : (y == ("__debug__" : Str)) = false)
    (turn : ∀ i v m₁ news₁ h tk g own, SignAt u i v → OwnOff own chg → J i m₁ news₁ → news₁.map (·.1) = keep.map (·.1) → G g → Fr h₀ L h (fun z => if z = x then some v else m₁ z) → News h₀ L h (news₁ ++ own) →
      wpAny (model prog w) A (execs body (envOf name scope L a cd)) (PostG G h₀ L (J (i + 1)) own (keep.map (·.1)) { s with heap := h, toks := tk, gens := g } Q) E { s with heap := h, toks := tk, gens := g })
    (done : ∀ m₁ news₁ h tk g, J u.cps.size m₁ news₁ → news₁.map (·.1) = keep.map (·.1) → G g → Fr h₀ L h m₁ → News h₀ L h news₁ → Q .next { s with heap := h, toks := tk, gens := g })
    (hE : PassesOwn (model prog w) A (envOf name scope L a cd) E) :
    wpAny (model prog w) A (exec (.For (.Name x px) (.Name y py) body [] pos) (envOf name scope L a cd)) Q E s := by
  refine For_G (G := G) (h₀ := h₀) (m₀ := m₀) (keep := keep) (chg := chg) u.cps.size (SignAt u) J ?_ hj hAB hx hks ?_ done (by intro _; rfl) hE
  · exact gld hks hy F.ns hm (src_str hh F N hk hcn) hd
  · intro i v m₁ news₁ h tk g own _ e2 e3 e4 e5 e6 e7 e8
    exact turn i v m₁ news₁ h tk g own e2 e3 e4 e5 e6 e7 e8
end
end Mine

end
noncomputable section
open PySem PySem.W PyProof.Rows PyProof.Rows.LCg PySem.Calls PySem.Spec Mine
namespace Mine
theorem rstrip_le (x y : Str) : (Txt.rstripChars x y).length ≤ x.length := by
  obtain ⟨j, hj, e⟩ := rstripChars_is_prefix x y
  rw [e, strSub_mk]
  show (List.toArray _).size ≤ x.cps.size
  rw [List.size_toArray, List.length_take, List.length_drop, Array.length_toList]
  exact Nat.le_trans (Nat.min_le_right _ _) (Nat.sub_le _ _)
section
variable {prog : Program} {w : World} {A : Around} {E : Value → Shared → Prop} {s : Shared}
theorem rstrip_ends {x z : Str} {t u : Tok} {Q : Value → Shared → Prop} (hs : x.length ≤ 16000000) (h : ∀ t' k, Q (.str (Txt.rstripChars x z) t') { s with toks := k }) : wpAny (model prog w) A (call (.builtin "str.rstrip") [.str x t, .str z u]) Q E s :=
  KXw.rstripChars rfl (Nat.le_trans hs (by rw [sizeLine_eq]; decide)) h
end
end Mine

end
noncomputable section
open PySem PySem.W PyProof.Rows PyProof.Rows.LCg PySem.Calls PySem.Spec Mine
namespace Mine
section
variable {prog : Program} {w : World} {A : Around} {E : Value → Shared → Prop} {s : Shared} {h₀ : Heap} {L : Addr} {m : Str → Option Value} {env : Env}
theorem ListComp_T {elt iter : PySem.Expr} {x : Str} {px : Pos} {scope : Scope} {cl : List (Str × Addr)} {pos : Pos} {Q : Value → Shared → Prop} (_F : Fr h₀ L s.heap m)
    (hclos : closureFor scope env = pure cl) (hcell : ∀ z ∈ scope.names, z.2 ≠ .cell) (hkind : scope.kind = .function)
    (hnames : ∀ z ∈ scope.names, z.2 = .local → scope.names.lookup z.1 = some .local) (hx : scope.names.lookup x = some .local)
    (h : wpAny (model prog w) A (eval iter env) (SrcTAt prog w A h₀ L m env elt x scope cl (fun s₂ => FinE h₀ L m s₂ Q)) E s)
    (hs : ∀ x, foldedSetIterable iter env x = pure x := by intro _; rfl) :
    wpAny (model prog w) A (eval (.ListComp elt [⟨.Name x px, iter, [], 0⟩] scope pos) env) Q E s := by
  rw [eval_ListComp]
  refine wpAny_comprehension_free (use := none) rfl hs hclos hkind hnames (wpAny_mono h (fun xv s₁ h₁ => ?_) fun _ _ e => e)
  obtain ⟨ax, its, news, rfl, hh, F, N, S, hsz, R⟩ := h₁
  have hl := S.tup F.keep N
  have hlt : ax < s₁.heap.objs.size := by obtain ⟨_, e, _⟩ := hl; exact Heap.lt_size e
  refine wpAny_pyIter_tuple hl ?_
  have up : ∀ b o, s₁.heap.get? b = some o → (s₁.heap.push { cls := .type "tuple_iterator", data := .fields #[.ref ax, .int 0 0] }).get? b = some o := fun b o e => Heap.get?_push_of_some _ e
  refine block_U (Walks.tuple hh s₁.heap.objs.size ax (Nat.ne_of_lt hlt) its) hsz (fun i h st => by obtain ⟨o, e, _⟩ := st.1; exact ⟨o, e⟩) tup_st hcell hkind hx ⟨⟨_, Heap.get?_push_size _ rfl, rfl, rfl⟩, hl.at fun o e => Heap.get?_push_of_some _ e⟩ (fun b hb => ?_)
    (F.keeps up) (N.grown up) (Nat.ne_of_lt F.ns.lt) (next_is_new F) (fun p hp => Nat.ne_of_lt (Heap.lt_size (N p hp).1)) S (R _ ⟨_, rfl⟩) ?_
  · show b < (s₁.heap.push _).objs.size
    rw [Heap.size_push]
    rcases List.mem_cons.mp hb with rfl | hb
    · exact Nat.lt_succ_self _
    · rw [List.mem_singleton.mp hb]; exact Nat.lt_succ_of_lt hlt
  · intro D C h' tk m' ys news' F' N' o1 hn hC₀ hD₀ hCL hDL hCD offC fin
    refine ⟨m', hn, fun h'' hs'' => fin D h'' tk (F'.change hs'' hCL hC₀) (fun p hp => ⟨hs''.extBut _ _ ?_ (N' p hp).1, (N' p hp).2⟩) o1⟩
    rcases List.mem_cons.mp hp with rfl | hp
    · exact Ne.symm hCD
    · exact offC p hp
end
end Mine

end
noncomputable section
open PySem PySem.W PyProof.Rows PyProof.Rows.LCg PySem.Calls PySem.Spec Mine
namespace Mine
theorem valueAt_cons (k : Str) (v : Value) (r : List (Str × Value)) (x : Str) : valueAt ((k, v) :: r) x = if k = x then some v else valueAt r x := by
  unfold valueAt
  by_cases h : k = x <;> simp [List.find?_cons, h]
theorem valueAt_append (l r : List (Str × Value)) (x : Str) : valueAt (l ++ r) x = (valueAt l x).or (valueAt r x) := by
  unfold valueAt
  rw [List.find?_append]
  cases h : List.find? (fun kv => decide (kv.1 = x)) l <;> simp [h]
theorem valueAt_none {l : List (Str × Value)} {x : Str} (h : x ∉ l.map (·.1)) : valueAt l x = none := by
  unfold valueAt
  rw [List.find?_eq_none.mpr]
  · rfl
  · intro kv hkv e
    exact h (List.mem_map.mpr ⟨kv, hkv, by simpa using e⟩)
theorem valueAt_mem {l : List (Str × Value)} {x : Str} {v : Value} (h : valueAt l x = some v) : x ∈ l.map (·.1) := by
  apply Classical.byContradiction
  intro hn
  rw [valueAt_none hn] at h
  cases h
theorem valueAt_map (l : List (Str × Value)) (k : Str) (v : Value) (x : Str) : valueAt (l.map fun kv => if kv.1 = k then (kv.1, v) else kv) x = if x = k then (valueAt l x).map (fun _ => v) else valueAt l x := by
  induction l with
  | nil => unfold valueAt; simp
  | cons a r ih =>
    obtain ⟨a, u⟩ := a
    rw [List.map_cons]
    by_cases h : a = k
    · simp only [h, if_true]
      rw [valueAt_cons, valueAt_cons, ih]
      by_cases h2 : k = x
      · simp [h2]
      · have h3 : ¬ x = k := fun e => h2 e.symm
        simp [h2, h3]
    · simp only [h, if_false]
      rw [valueAt_cons, valueAt_cons, ih]
      by_cases h2 : a = x
      · have h3 : ¬ x = k := fun e => h (h2.trans e)
        simp [h2, h3]
      · simp [h2]
theorem any_key {l : List (Str × Value)} {k : Str} : (l.any fun kv => decide (kv.1 = k)) = true ↔ k ∈ l.map (·.1) := by
  rw [List.any_eq_true]
  constructor
  · rintro ⟨kv, h1, h2⟩; exact List.mem_map.mpr ⟨kv, h1, of_decide_eq_true h2⟩
  · intro h; obtain ⟨kv, h1, h2⟩ := List.mem_map.mp h; exact ⟨kv, h1, decide_eq_true h2⟩
theorem valueAt_key {l : List (Str × Value)} {x : Str} (h : x ∈ l.map (·.1)) : ∃ v, valueAt l x = some v := by
  cases e : valueAt l x with
  | some v => exact ⟨v, rfl⟩
  | none =>
    obtain ⟨kv, h1, h2⟩ := List.mem_map.mp h
    unfold valueAt at e
    rw [Option.map_eq_none_iff, List.find?_eq_none] at e
    exact absurd (decide_eq_true h2) (e kv h1)
theorem valueAt_stored (l : List (Str × Value)) (k : Str) (v : Value) (x : Str) : valueAt (stored l k v) x = if x = k then some v else valueAt l x := by
  unfold stored
  by_cases h : k ∈ l.map (·.1)
  · rw [if_pos (any_key.mpr h), valueAt_map]
    by_cases h2 : x = k
    · subst h2
      obtain ⟨u, e⟩ := valueAt_key h
      simp [e]
    · simp [h2]
  · rw [if_neg (fun e => h (any_key.mp e)), valueAt_append, valueAt_cons]
    by_cases h2 : x = k
    · subst h2; rw [valueAt_none h]; simp
    · have h3 : ¬ k = x := fun e => h2 e.symm
      rw [if_neg h3, if_neg h2]
      have : valueAt ([] : List (Str × Value)) x = none := rfl
      rw [this, Option.or_none]
theorem keys_stored (l : List (Str × Value)) (k : Str) (v : Value) : (stored l k v).map (·.1) = if k ∈ l.map (·.1) then l.map (·.1) else l.map (·.1) ++ [k] := by
  unfold stored
  by_cases h : k ∈ l.map (·.1)
  · rw [if_pos (any_key.mpr h), if_pos h, keys_map_store]
  · rw [if_neg (fun e => h (any_key.mp e)), if_neg h, List.map_append]; rfl
noncomputable def uniq (xs : List Str) : List Str := xs.foldl (fun a x => if x ∈ a then a else a ++ [x]) []
theorem uniq_snoc (xs : List Str) (x : Str) : uniq (xs ++ [x]) = if x ∈ uniq xs then uniq xs else uniq xs ++ [x] := by
  unfold uniq; rw [List.foldl_append]; rfl
theorem mem_uniqGo (x : Str) : ∀ (xs a : List Str), x ∈ xs.foldl (fun a x => if x ∈ a then a else a ++ [x]) a ↔ x ∈ a ∨ x ∈ xs
  | [], a => by simp
  | y :: r, a => by
    rw [List.foldl_cons, mem_uniqGo x r]
    by_cases h : y ∈ a
    · rw [if_pos h]; constructor
      · rintro (h1 | h1); exact .inl h1; exact .inr (.tail _ h1)
      · rintro (h1 | h1); exact .inl h1
        rcases List.mem_cons.mp h1 with rfl | h1; exact .inl h; exact .inr h1
    · rw [if_neg h]; simp only [List.mem_append, List.mem_cons, List.not_mem_nil, or_false, or_assoc]
theorem mem_uniq {x : Str} {xs : List Str} : x ∈ uniq xs ↔ x ∈ xs := by
  unfold uniq; rw [mem_uniqGo]; simp
structure RowsAt (prog : Program) (w : World) (xs : List Str) (kvs : List (Str × Value)) (nw : List (Addr × Obj)) : Prop where
  keys : kvs.map (·.1) = uniq xs
  row : ∀ x ∈ xs, ∃ R o t, valueAt kvs x = some (.ref R) ∧ (R, o) ∈ nw ∧ o.IsDictOf (strKind prog w) [(x, .int 0 t)]
  inj : ∀ x y R, valueAt kvs x = some (.ref R) → valueAt kvs y = some (.ref R) → x = y
theorem RowsAt.nil {prog : Program} {w : World} : RowsAt prog w [] [] [] := ⟨rfl, fun _ h => by simp at h, fun _ _ _ h => by cases h⟩
theorem RowsAt.step {prog : Program} {w : World} {xs : List Str} {kvs : List (Str × Value)} {nw : List (Addr × Obj)} {x : Str} {R : Addr} {o : Obj} {t : Tok} (h : RowsAt prog w xs kvs nw) (hR : ∀ q ∈ nw, q.1 ≠ R) (ho : o.IsDictOf (strKind prog w) [(x, .int 0 t)]) :
    RowsAt prog w (xs ++ [x]) (stored kvs x (.ref R)) ((R, o) :: nw) := by
  have hno : ∀ y, valueAt kvs y = some (.ref R) → False := fun y hy => by
    have := valueAt_mem hy
    rw [h.keys, mem_uniq] at this
    obtain ⟨R', o', t', e1, e2, _⟩ := h.row y this
    rw [hy] at e1
    injection e1 with e1; injection e1 with e1
    exact hR _ e2 e1.symm
  refine ⟨?_, fun y hy => ?_, fun a b S ha hb => ?_⟩
  · rw [keys_stored, h.keys, uniq_snoc]
  · rw [valueAt_stored]
    by_cases e : y = x
    · subst e; rw [if_pos rfl]; exact ⟨R, o, t, rfl, List.mem_cons_self, ho⟩
    · rw [if_neg e]
      rcases List.mem_append.mp hy with hy | hy
      · obtain ⟨R', o', t', e1, e2, e3⟩ := h.row y hy
        exact ⟨R', o', t', e1, List.mem_cons_of_mem _ e2, e3⟩
      · exact absurd (List.mem_singleton.mp hy) e
  · rw [valueAt_stored] at ha hb
    by_cases e1 : a = x <;> by_cases e2 : b = x
    · rw [e1, e2]
    · rw [if_pos e1] at ha; rw [if_neg e2] at hb
      injection ha with ha; injection ha with ha
      exact absurd hb (fun z => hno b (ha ▸ z))
    · rw [if_neg e1] at ha; rw [if_pos e2] at hb
      injection hb with hb; injection hb with hb
      exact absurd ha (fun z => hno a (hb ▸ z))
    · rw [if_neg e1] at ha; rw [if_neg e2] at hb
      exact h.inj a b S ha hb
end Mine
namespace Mine
theorem uniq_len (xs : List Str) : (uniq xs).length ≤ xs.length := by
  have h : ∀ (l a : List Str), (l.foldl (fun a x => if x ∈ a then a else a ++ [x]) a).length ≤ a.length + l.length := by
    intro l
    induction l with
    | nil => intro a; simp
    | cons x r ih =>
      intro a
      rw [List.foldl_cons]
      refine Nat.le_trans (ih _) ?_
      split <;> simp only [List.length_append, List.length_cons, List.length_nil] <;> (first | lia | omega)
  have := h xs []
  simpa [uniq] using this
end Mine

end
noncomputable section
open PySem PySem.W PyProof.Rows PyProof.Rows.LCg PySem.Calls PySem.Spec Mine
namespace Mine
section
variable {prog : Program} {w : World} {A : Around} {E : Value → Shared → Prop} {s : Shared} {h₀ : Heap} {L : Addr} {m : Str → Option Value} {env : Env}
theorem Dict_one {x : Str} {px pc pd : Pos} {k : Nat} {xv : Str} {xt : Tok} {m₂ : Str → Option Value} {Q : Value → Shared → Prop} (hkind : env.scope.kind = .function) (hx : env.kindOf x = some .local) (hn : s.heap.Ns env.locals m₂) (hm : m₂ x = some (.str xv xt)) (hd : (x == ("__debug__" : Str)) = false)
    (hQ : ∀ h' o t tk, h'.get? s.heap.objs.size = some o → o.IsDictOf (strKind prog w) [(xv, .int 0 t)] → (∀ b o, s.heap.get? b = some o → h'.get? b = some o) → h'.objs.size = s.heap.objs.size + 1 → Q (.ref s.heap.objs.size) { s with heap := h', toks := tk }) :
    wpAny (model prog w) A (eval (.Dict [some (.Name x px)] [.Constant (.int 0) k pc] pd) env) Q E s := by
  refine wpAny_Dict_walk (knd := strKind prog w) rfl rfl (by simp) (by show 1 ≤ 15; decide) ?_
  have up : ∀ b o, s.heap.get? b = some o → (s.heap.push { cls := .type "dict", data := .dict #[] }).get? b = some o := fun b o e => Heap.get?_push_of_some _ e
  refine pairTrees_cons_walk (gld hkind hx (hn.at' fun o e => up _ o e) hm ?_ hd)
  refine wpAny_Constant_int (pairTrees_nil_walk ?_)
  refine ⟨[(xv, .int 0 _)], ⟨strKind_is _ _ _ _, rfl, trivial⟩, Heap.DictOf.new s.heap, fun h' hD hs => ?_⟩
  obtain ⟨o, ho, hod⟩ := Heap.dictOf_iff.mp hD
  exact hQ h' o _ _ ho hod (fun b o e => hs.extBut b o (Nat.ne_of_lt (Heap.lt_size e)) (up b o e)) (by rw [hs.1]; exact Heap.size_push ..)
theorem cut_dict {R : Result → Shared → Prop} {kx vx target iter : PySem.Expr} {ifs : List PySem.Expr} {scope : Scope} {pos : Pos} {it : Value} {Da : Addr} {env : Env} (I : Nat → Shared → Prop)
    (turn : ∀ n s, I n s → ∀ (E : Value → Shared → Prop) (D : Shared → Prop) (B : Value → Value → Shared → Prop), (∀ s₁, R (.ok .next) s₁ → D s₁) → (∀ kv vv s₅, wpAny (model prog w) A (dictSet Da kv vv) (fun _ s₆ => ∃ m, m < n ∧ I m s₆) E s₅ → B kv vv s₅) →
      wpAny (model prog w) A (pyNext it) (fun r s₁ => match r with
        | none => D s₁
        | some v => wpAny (model prog w) A (assign target env v) (fun _ s₂ => wpAny (model prog w) A (forIn ifs true fun c r => if r = true then do let ok ← isTrue c env (eval c env); pure (ForInStep.yield ok) else pure (ForInStep.yield r)) (fun ok s₃ => if ok = true then wpAny (model prog w) A (eval kx env) (fun kv s₄ => wpAny (model prog w) A (eval vx env) (fun vv s₅ => B kv vv s₅) E s₄) E s₃ else ∃ m, m < n ∧ I m s₃) E s₂) E s₁) E s)
    (n : Nat) (h : I n s) (ht : ∀ v, letOwnedTupleGo target it v = pure ()) : codeAny (model prog w) A (.compLoop (.DictComp kx vx [⟨target, iter, ifs, 0⟩] scope pos) 0 it (.ref Da) env) R s :=
  codeAny_compLoop_testsD I (fun n s hI => turn n s hI _ _ _ (fun _ h => h) fun _ _ _ h => h) n h ht
theorem Assign_rows {iter : PySem.Expr} {x y : Str} {px pk pj pc pd py : Pos} {kk : Nat} {scope : Scope} {cl : List (Str × Addr)} {pos spos : Pos} {l : Addr} {al : List (Str × Tok)} {k : Nat} {news : List (Addr × Obj)} {Q : Flow → Shared → Prop} (_F : Fr h₀ L s.heap m) (hLe : env.locals = L)
    (hsw : swapsWith (.DictComp (.Name x pk) (.Dict [some (.Name x pj)] [.Constant (.int 0) kk pc] pd) [⟨.Name x px, iter, [], 0⟩] scope pos) (some (.Name y py)) spos.line env = pure true)
    (hh : A.handled = none) (hl : (l, W.listOf (strValues al).toArray k) ∈ news) (hn : al.length ≤ 1000)
    (hclos : closureFor scope env = pure cl) (hcell : ∀ y ∈ scope.names, y.2 ≠ .cell) (hkind : scope.kind = .function) (hnames : ∀ x ∈ scope.names, x.2 = .local → scope.names.lookup x.1 = some .local)
    (hx : scope.names.lookup x = some .local) (hs : ∀ x, foldedSetIterable iter env x = pure x) (hd : (x == ("__debug__" : Str)) = false)
    (hy : env.kindOf y = some .local) (hp : (env.scope.kind == .class || (env.scope.kind == .module && env.locals != env.globals)) = false)
    (src : wpAny (model prog w) A (eval iter env) (fun xv s₁ => xv = .ref l ∧ ∃ h tk, s₁ = { s with heap := h, toks := tk } ∧ Fr h₀ L h m ∧ News h₀ L h news) E s)
    (hQ : ∀ D oD kvs nw h tk, oD.IsDictOf (strKind prog w) kvs → RowsAt prog w (al.map (·.1)) kvs nw → @LT.lt Nat _ L D → (∀ p ∈ news, @LT.lt Nat _ p.1 D) → (∀ q ∈ nw, @LT.lt Nat _ D q.1) → Fr h₀ L h (fun z => if z = y then some (.ref D) else m z) → News h₀ L h (nw ++ (D, oD) :: news) → Q .next { s with heap := h, toks := tk }) :
    wpAny (model prog w) A (exec (.Assign [.Name y py] (.DictComp (.Name x pk) (.Dict [some (.Name x pj)] [.Constant (.int 0) kk pc] pd) [⟨.Name x px, iter, [], 0⟩] scope pos) spos) env) Q E s := by
  subst hLe
  rw [exec_Assign_Name_used _ _ _ _ hsw]
  refine wpAny_bind (wpAny_standAt (wpAny_bind ?_))
  show wpAny _ A (do let _ ← comprehension (.DictComp (.Name x pk) (.Dict [some (.Name x pj)] [.Constant (.int 0) kk pc] pd) [⟨.Name x px, iter, [], 0⟩] scope pos) scope env _ newDict false (eval iter env) (some (assign (.Name y py) env))) _ _ s
  refine wpAny_bind (wpAny_mono (wpAny_comprehension_free (use := some (assign (.Name y py) env)) (Q := fun _ s' => Q .next s') rfl hs hclos hkind hnames
    (wpAny_mono src (fun xv s₁ h₁ => ?_) fun _ _ e => e)) (fun _ s' hq => wpAny_pure (wpAny_pure hq)) fun _ _ e => e)
  obtain ⟨rfl, hp₁, tk₁, rfl, F, N⟩ := h₁
  have hls : hp₁.IsList l (strValues al).toArray := ⟨_, (N _ hl).1, rfl, _, rfl⟩
  have hDlt : l < hp₁.objs.size := Heap.lt_size (N _ hl).1
  refine wpAny_pyIter_list hls ?_
  refine wpAny_newObj_type (wpAny_newFunctionEnv hcell (by intro y hy; simp at hy) (fun h₁ hns₁ hsb₁ => ?_) hkind)
  dsimp only at hns₁ hsb₁ ⊢
  have hnew := Heap.DictOf.new (knd := strKind prog w) (hp₁.push { cls := .type "list_iterator", data := .fields #[.ref l, .int 0 0] })
  let h₂ : Heap := hp₁.push { cls := .type "list_iterator", data := .fields #[.ref l, .int 0 0] }
  let H2 : Heap := h₂.push { cls := .type "dict", dict := none, data := .dict #[] }
  replace hns₁ : h₁.Ns H2.objs.size _ := hns₁
  replace hsb₁ : Heap.SameBut H2.objs.size _ h₁ := hsb₁
  have g1 : ∀ c o, hp₁.get? c = some o → h₂.get? c = some o := fun c o e => Heap.get?_push_of_some _ e
  have g2 : ∀ c o, h₂.get? c = some o → H2.get? c = some o := fun c o e => Heap.get?_push_of_some _ e
  have g3 : h₂.get? hp₁.objs.size = some ({ cls := .type "list_iterator", data := .fields #[.ref l, .int 0 0] }) := Heap.get?_push_size _ rfl
  have g4 : H2.get? h₂.objs.size = some ({ cls := .type "dict", dict := none, data := .dict #[] }) := Heap.get?_push_size _ rfl
  have e1 : h₂.objs.size = hp₁.objs.size + 1 := Heap.size_push _ _
  have e2 : H2.objs.size = hp₁.objs.size + 2 := (Heap.size_push _ _).trans (by rw [e1])
  have below : ∀ c, c < hp₁.objs.size → c ≠ H2.objs.size ∧ c ≠ h₂.objs.size ∧ c ≠ hp₁.objs.size := fun c hc => ⟨by rw [e2]; exact Nat.ne_of_lt (Nat.lt_trans hc (Nat.lt_add_of_pos_right (by decide))), by rw [e1]; exact Nat.ne_of_lt (Nat.lt_succ_of_lt hc), Nat.ne_of_lt hc⟩
  have hSC : h₂.objs.size ≠ H2.objs.size := by rw [e1, e2]; exact Nat.ne_of_lt (Nat.lt_succ_self _)
  have hIC : hp₁.objs.size ≠ H2.objs.size := by rw [e2]; exact Nat.ne_of_lt (Nat.lt_add_of_pos_right (by decide))
  have hIS : hp₁.objs.size ≠ h₂.objs.size := by rw [e1]; exact Nat.ne_of_lt (Nat.lt_succ_self _)
  have old : ∀ c o, hp₁.get? c = some o → h₁.get? c = some o := fun c o e => hsb₁.extBut c o (below c (Heap.lt_size e)).1 (Heap.get?_push_of_some _ (g2 _ _ (g1 _ _ e)))
  have hacc : h₁.DictOf (strKind prog w) h₂.objs.size [] := hnew.at fun o e => hsb₁.extBut _ _ hSC (Heap.get?_push_of_some _ e)
  have hit : h₁.get? hp₁.objs.size = some { cls := .type "list_iterator", data := .fields #[.ref l, .int 0 0] } := hsb₁.extBut _ _ hIC (Heap.get?_push_of_some _ (g2 _ _ g3))
  have hLlt : env.locals < hp₁.objs.size := F.ns.lt
  have hn0 : ∀ c, hp₁.objs.size ≤ c → h₀.get? c = none := fun c hc => Heap.get?_none_of_le (Nat.le_trans (Nat.le_trans F.above (Nat.le_of_lt hLlt)) hc)
  have hS₀ : h₀.get? h₂.objs.size = none := hn0 _ (by rw [e1]; exact Nat.le_succ _)
  have hC₀ : h₀.get? H2.objs.size = none := hn0 _ (by rw [e2]; exact Nat.le_add_right _ _)
  have hI₀ : h₀.get? hp₁.objs.size = none := hn0 _ (Nat.le_refl _)
  have hSL : h₂.objs.size ≠ env.locals := Ne.symm (below _ hLlt).2.1
  have hCL : H2.objs.size ≠ env.locals := Ne.symm (below _ hLlt).1
  have W : Walks prog w A hp₁.objs.size [hp₁.objs.size, l] [hp₁.objs.size] (strValues al).toArray.size (fun i v => (strValues al).toArray[i]? = some v) (fun i h => h.IsListIter hp₁.objs.size l i ∧ h.IsList l (strValues al).toArray) := Walks.list hh hp₁.objs.size l (Nat.ne_of_lt hDlt) (strValues al).toArray
  have hDC : l ≠ H2.objs.size := (below l hDlt).1
  have hDS : l ≠ h₂.objs.size := (below l hDlt).2.1
  have hsz : (strValues al).toArray.size = al.length := by simp [strValues]
  have offN : ∀ q ∈ news, q.1 ≠ H2.objs.size ∧ q.1 ≠ h₂.objs.size ∧ q.1 ≠ hp₁.objs.size := fun q hq => below _ (Heap.lt_size (N q hq).1)
  have keepF : ∀ (h' hx : Heap) (nw : List (Addr × Obj)), (∀ q ∈ nw, @LT.lt Nat _ H2.objs.size q.1) → Fr h₀ env.locals h' m → News h₀ env.locals h' (nw ++ news) → (∀ c o, c ≠ hp₁.objs.size → c ≠ H2.objs.size → c ≠ h₂.objs.size → h'.get? c = some o → hx.get? c = some o) → Fr h₀ env.locals hx m ∧ News h₀ env.locals hx (nw ++ news) := fun h' hx nw hnw F' N' hk =>
    ⟨⟨F'.ns.at' fun o e => hk _ o (below _ hLlt).2.2 (below _ hLlt).1 (below _ hLlt).2.1 e, fun c o e => hk c o (fun q => by rw [q, hI₀] at e; cases e) (fun q => by rw [q, hC₀] at e; cases e) (fun q => by rw [q, hS₀] at e; cases e) (F'.keep c o e), F'.above⟩,
      fun q hq => by
        have hb : q.1 ≠ H2.objs.size ∧ q.1 ≠ h₂.objs.size ∧ q.1 ≠ hp₁.objs.size := by
          rcases List.mem_append.mp hq with hq | hq
          · have := hnw q hq
            exact ⟨Nat.ne_of_gt this, Nat.ne_of_gt (by rw [e1]; rw [e2] at this; exact Nat.lt_trans (Nat.lt_succ_self _) this), Nat.ne_of_gt (by rw [e2] at this; exact Nat.lt_trans (Nat.lt_add_of_pos_right (by decide)) this)⟩
          · exact offN q hq
        exact ⟨hk _ _ hb.2.2 hb.1 hb.2.1 (N' q hq).1, (N' q hq).2⟩⟩
  have hkC : (compEnvC scope cl H2.objs.size env).kindOf x = some .local := lookup_relabel_local hx
  have loop : ∀ s₃ : Shared, s₃ = { s with heap := h₁, toks := tk₁ + ([] : List (Str × Value)).length } → codeAny (model prog w) A (.compLoop (.DictComp (.Name x pk) (.Dict [some (.Name x pj)] [.Constant (.int 0) kk pc] pd) [⟨.Name x px, iter, [], 0⟩] scope pos) 0 (.ref hp₁.objs.size) (.ref h₂.objs.size) (compEnvC scope cl H2.objs.size env))
      (compPost (model prog w) A E (some (assign (.Name y py) env)) (fun _ s' => Q .next s') (.ref h₂.objs.size) H2.objs.size) s₃ := by
    rintro s₃ rfl
    obtain ⟨Inv, hInv⟩ : ∃ Inv : Nat → Shared → Prop, ∀ k s', Inv k s' ↔ (∃ h' tk i m' kvs nw, s' = { s with heap := h', toks := tk } ∧ i ≤ al.length ∧ k = al.length + 1 - i ∧ (h'.IsListIter hp₁.objs.size l i ∧ h'.IsList l (strValues al).toArray) ∧ Fr h₀ env.locals h' m ∧ h'.Ns H2.objs.size m' ∧ News h₀ env.locals h' (nw ++ news) ∧ h'.DictOf (strKind prog w) h₂.objs.size kvs ∧
        RowsAt prog w ((al.map (·.1)).take i) kvs nw ∧ (∀ q ∈ nw, @LT.lt Nat _ H2.objs.size q.1) ∧ H2.objs.size < h'.objs.size) := ⟨_, fun _ _ => Iff.rfl⟩
    refine cut_dict Inv ?_ (al.length + 1)
      ((hInv _ _).mpr ⟨h₁, _, 0, _, [], [], rfl, Nat.zero_le _, rfl, ⟨⟨_, hit, rfl, rfl⟩, hls.at fun o e => old _ o e⟩, F.keeps old, hns₁, fun q hq => ⟨old _ _ (N q hq).1, (N q hq).2⟩, hacc, RowsAt.nil, fun q hq => by simp at hq, hns₁.lt⟩) (by intro _; rfl)
    intro kn s' hI0 E9 D9 B9 hD9 hB9
    replace hI0 := (hInv _ _).mp hI0
    refine pvar fun G9 hG9 => ?_
    obtain ⟨h', tk, i, m', kvs, nw, rfl, hi, rfl, hst, F', hn', N', hS', hR, hnw, hbig⟩ := hI0
    refine hG9 ?_
    by_cases hlt : i < al.length
    · refine W.item i _ _ _ (by rw [hsz]; exact hlt) hst fun v h₃ tk₃ hv hst₃ hk₃ => ?_
      obtain ⟨xv, xt, hxv, rfl⟩ := strV_at hv
      have htk : (al.map (·.1)).take (i + 1) = (al.map (·.1)).take i ++ [xv] := by rw [List.take_add_one, hxv]; rfl
      have k₃ : ∀ c o, c ≠ hp₁.objs.size → h'.get? c = some o → h₃.get? c = some o := fun c o hc e => hk₃ c o (by simpa using hc) e
      refine wpAny_assign_Name (wpAny_storeName_local hkC (hn'.at' fun o e => k₃ _ o (Ne.symm hIC) e) (fun h₄ hn₄ hs₄ => ?_) (by simp [compEnvC, relabel, hkind]))
      replace hs₄ : Heap.SameBut H2.objs.size h₃ h₄ := hs₄
      have k₄ : ∀ c o, c ≠ hp₁.objs.size → c ≠ H2.objs.size → h'.get? c = some o → h₄.get? c = some o := fun c o c1 c2 e => hs₄.extBut c o c2 (k₃ c o c1 e)
      obtain ⟨F₄, N₄⟩ := keepF h' h₄ nw hnw F' N' fun c o c1 c2 _ e => k₄ c o c1 c2 e
      have hS₄ : h₄.DictOf (strKind prog w) h₂.objs.size kvs := hS'.at fun o e => k₄ _ o (Ne.symm hIS) hSC e
      have hst₄ : h₄.IsListIter hp₁.objs.size l (i + 1) ∧ h₄.IsList l (strValues al).toArray := W.frame _ _ _ hst₃ fun c hc o e => hs₄.extBut c o (by
        intro q; subst q; simp only [List.mem_cons, List.not_mem_nil, or_false] at hc; rcases hc with q | q; exact hIC q.symm; exact hDC q.symm) e
      refine wpAny_pure ?_
      simp only [if_true]
      refine gld (env := compEnvC scope cl H2.objs.size env) hkind hkC hn₄ (v := .str xv xt) (by simp) ?_ hd
      refine Dict_one (env := compEnvC scope cl H2.objs.size env) hkind hkC hn₄ (xv := xv) (xt := xt) (by simp) hd ?_
      intro h₅ o₅ t₅ tk₅ ho₅ hd₅ hk₅ hz₅
      dsimp only at ho₅ hk₅ hz₅ ⊢
      have hlt4 : H2.objs.size < h₄.objs.size := hn₄.lt
      have hkl : kvs.length ≤ sizeLine := by
        have h1 : kvs.length = (uniq ((al.map (·.1)).take i)).length := by rw [← hR.keys, List.length_map]
        have h2 := uniq_len ((al.map (·.1)).take i)
        have h3 : ((al.map (·.1)).take i).length ≤ al.length := Nat.le_trans (List.length_take_le _ _) (Nat.le_trans (Nat.le_of_lt hlt) (Nat.le_refl _))
        rw [sizeLine_eq, h1]; exact Nat.le_trans h2 (Nat.le_trans h3 (Nat.le_trans hn (by decide)))
      refine hB9 _ _ _ (wpAny_dictSet_pairs (hsz := hkl) (strKind_is _ _ _ _) (hS₄.at fun o e => hk₅ _ o e) fun h₆ hl₆ hs₆ => ?_)
      replace hs₆ : Heap.SameBut h₂.objs.size h₅ h₆ := hs₆
      have ne4 : h₄.objs.size ≠ h₂.objs.size := Nat.ne_of_gt (Nat.lt_trans (by rw [e1, e2]; exact Nat.lt_succ_self _) hlt4)
      have F₅ : Fr h₀ env.locals h₅ m := F₄.keeps hk₅
      have N₅ : News h₀ env.locals h₅ ((h₄.objs.size, o₅) :: (nw ++ news)) := fun q hq => by
        rcases List.mem_cons.mp hq with rfl | hq
        · exact ⟨ho₅, Nat.ne_of_gt F₄.ns.lt, Heap.get?_none_of_le (Nat.le_trans F₄.above (Nat.le_of_lt F₄.ns.lt))⟩
        · exact ⟨hk₅ _ _ (N₄ q hq).1, (N₄ q hq).2⟩
      have hnw6 : ∀ q ∈ (h₄.objs.size, o₅) :: nw, @LT.lt Nat _ H2.objs.size q.1 := fun q hq => by
        rcases List.mem_cons.mp hq with rfl | hq
        · exact hlt4
        · exact hnw q hq
      obtain ⟨F₆, N₆⟩ := keepF h₅ h₆ ((h₄.objs.size, o₅) :: nw) hnw6 F₅ N₅ fun c o _ _ c3 e => hs₆.extBut c o c3 e
      refine ⟨al.length + 1 - (i + 1), meas_lt hlt, (hInv _ _).mpr ⟨h₆, _, i + 1, _, _, (h₄.objs.size, o₅) :: nw, rfl, hlt, rfl, ?_, F₆, (hn₄.keeps hk₅).sameBut hs₆ (Ne.symm hSC), N₆, hl₆, ?_, hnw6, ?_⟩⟩
      · refine W.frame _ _ _ hst₄ fun c hc o e => hs₆.extBut c o ?_ (hk₅ _ _ e)
        intro q; subst q; simp only [List.mem_cons, List.not_mem_nil, or_false] at hc; rcases hc with q | q; exact hIS q.symm; exact hDS q.symm
      · rw [htk]
        exact hR.step (fun q hq => Nat.ne_of_lt (Heap.lt_size (N₄ q (List.mem_append_left _ hq)).1)) hd₅
      · rw [hs₆.1, hz₅]; exact Nat.lt_succ_of_lt hlt4
    · have hin : i = al.length := Nat.le_antisymm hi (Nat.not_lt.mp hlt)
      subst hin
      refine W.done _ _ _ (hsz.symm ▸ hst) fun h₃ tk₃ hk₃ => ?_
      have k₃ : ∀ c o, c ≠ hp₁.objs.size → h'.get? c = some o → h₃.get? c = some o := fun c o hc e => hk₃ c o (by simpa using hc) e
      obtain ⟨F₃, N₃⟩ := keepF h' h₃ nw hnw F' N' fun c o c1 _ _ e => k₃ c o c1 e
      have hS₃ : h₃.DictOf (strKind prog w) h₂.objs.size kvs := hS'.at fun o e => k₃ _ o (Ne.symm hIS) e
      refine hD9 _ ?_
      show wpAny _ A (assign (.Name y py) env (.ref h₂.objs.size)) _ _ _
      refine wpAny_assign_Name (wpAny_storeName_local hy F₃.ns (fun h₄ hn₄ hs₄ => ?_) hp)
      replace hs₄ : Heap.SameBut env.locals h₃ h₄ := hs₄
      refine ⟨m', (hn'.at' fun o e => k₃ _ o (Ne.symm hIC) e).sameBut hs₄ hCL, fun h₅ hs₅ => ?_⟩
      replace hs₅ : Heap.SameBut H2.objs.size h₄ h₅ := hs₅
      have F₄ := F₃.set hn₄ hs₄
      have N₄ := N₃.set hs₄
      obtain ⟨o, ho, hod⟩ := Heap.dictOf_iff.mp ((hS₃.extBut hs₄.extBut hSL).extBut hs₅.extBut hSC)
      have hall : (al.map (·.1)).take al.length = al.map (·.1) := by rw [List.take_of_length_le (by simp)]
      rw [hall] at hR
      have off5 : ∀ q ∈ nw ++ news, q.1 ≠ H2.objs.size := fun q hq => by
        rcases List.mem_append.mp hq with hq | hq
        · exact Nat.ne_of_gt (hnw q hq)
        · exact (offN q hq).1
      refine hQ h₂.objs.size o kvs nw h₅ _ hod hR (by rw [e1]; exact Nat.lt_succ_of_lt hLlt) (fun q hq => ?_) (fun q hq => ?_) ⟨hn₄.sameBut hs₅ (Ne.symm hCL), fun c o e => hs₅.extBut c o (fun q => by rw [q, hC₀] at e; cases e) (F₄.keep c o e), F₄.above⟩ fun q hq => ?_
      · rw [e1]; exact Nat.lt_succ_of_lt (Heap.lt_size (N q hq).1)
      · have := hnw q hq
        rw [e2] at this; rw [e1]; exact Nat.lt_trans (Nat.lt_succ_self _) this
      · rcases List.mem_append.mp hq with hq | hq
        · exact ⟨hs₅.extBut _ _ (off5 q (List.mem_append_left _ hq)) (N₄ q (List.mem_append_left _ hq)).1, (N₄ q (List.mem_append_left _ hq)).2⟩
        · rcases List.mem_cons.mp hq with rfl | hq
          · exact ⟨ho, hSL, hS₀⟩
          · exact ⟨hs₅.extBut _ _ (off5 q (List.mem_append_right _ hq)) (N₄ q (List.mem_append_right _ hq)).1, (N₄ q (List.mem_append_right _ hq)).2⟩
  exact codeAny_compStart_dict (loop _ rfl) (W.self 0 _ _ _ ⟨⟨_, hit, rfl, rfl⟩, hls.at fun o e => old _ o e⟩ (loop _ rfl))
end
end Mine

end
noncomputable section
open PySem PySem.W PyProof.Rows PyProof.Rows.LCg PySem.Calls PySem.Spec Mine
namespace Mine
noncomputable def upd (d : Addr) (o' : Obj) (l : List (Addr × Obj)) : List (Addr × Obj) := l.map fun p => if p.1 = d then (d, o') else p
theorem upd_keys (d : Addr) (o' : Obj) (l : List (Addr × Obj)) : (upd d o' l).map (·.1) = l.map (·.1) := by
  unfold upd
  rw [List.map_map]
  refine List.map_congr_left fun p _ => ?_
  show (if p.1 = d then (d, o') else p).1 = p.1
  by_cases h : p.1 = d
  · rw [if_pos h]; exact h.symm
  · rw [if_neg h]
theorem upd_append (d : Addr) (o' : Obj) (l r : List (Addr × Obj)) : upd d o' (l ++ r) = upd d o' l ++ upd d o' r := List.map_append
theorem upd_off {d : Addr} {o' : Obj} {l : List (Addr × Obj)} (h : ∀ p ∈ l, p.1 ≠ d) : upd d o' l = l := by
  unfold upd
  conv => rhs; rw [← List.map_id l]
  exact List.map_congr_left fun p hp => if_neg (h p hp)
theorem upd_in {d : Addr} {o o' : Obj} {l : List (Addr × Obj)} (h : (d, o) ∈ l) : (d, o') ∈ upd d o' l := List.mem_map.mpr ⟨_, h, if_pos rfl⟩
theorem upd_other {d b : Addr} {o o' : Obj} {l : List (Addr × Obj)} (h : (b, o) ∈ l) (hb : b ≠ d) : (b, o) ∈ upd d o' l := List.mem_map.mpr ⟨_, h, if_neg hb⟩
section
variable {prog : Program} {w : World} {A : Around} {E : Value → Shared → Prop} {s : Shared} {h₀ : Heap} {L : Addr} {m m₀ : Str → Option Value} {news keep : List (Addr × Obj)} {chg : List Addr}
theorem dict_at {d : Addr} {o : Obj} {kvs : List (Str × Value)} (N : News h₀ L s.heap news) (hm : (d, o) ∈ news) (hod : o.IsDictOf (PySem.strKind prog w) kvs) : s.heap.DictOf (PySem.strKind prog w) d kvs := Heap.dictOf_iff.mpr ⟨o, (N _ hm).1, hod⟩
theorem item_D {value slice : PySem.Expr} {d : Addr} {o : Obj} {kvs : List (Str × Value)} {x : Str} {t : Tok} {v : Value} {Q : Value → Shared → Prop} (N : News h₀ L s.heap news) (hm : (d, o) ∈ news) (hod : o.IsDictOf (PySem.strKind prog w) kvs) (hv : valueAt kvs x = some v) (h : ∀ tk, Q v { s with toks := tk })
    (hs : subscripted slice false (.ref d) (.str x t) = operate [.ref d, .str x t] (getItem (.ref d) (.str x t)) := by with_unfolding_all rfl) :
    wpAny (model prog w) A (subscriptTail value slice (.ref d) (.str x t)) Q E s :=
  tail_any (dict_at N hm hod).typeIs slot_dict_getitem.lookup (wpAny_getItem_of (strKind_is _ _ _ _) (dict_at N hm hod).mapOf hv (h _)) hs
theorem setItem_D {d : Addr} {o : Obj} {kvs : List (Str × Value)} {x : Str} {t : Tok} {v : Value} {Q : Unit → Shared → Prop} (F : Fr h₀ L s.heap m) (N : News h₀ L s.heap news) (hm : (d, o) ∈ news) (hod : o.IsDictOf (PySem.strKind prog w) kvs) (hz : kvs.length ≤ 1000)
    (h : ∀ h' o' tk, o'.IsDictOf (PySem.strKind prog w) (stored kvs x v) → Fr h₀ L h' m → News h₀ L h' (upd d o' news) → Q () { s with heap := h', toks := tk }) :
    wpAny (model prog w) A (setItem (.ref d) (.str x t) v) Q E s := by
  refine wpAny_setItem_pairs (hsz := Nat.le_trans hz (by rw [sizeLine_eq]; decide)) (strKind_is _ _ _ _) (dict_at N hm hod) fun h' hD hs => ?_
  obtain ⟨o', ho', hod'⟩ := Heap.dictOf_iff.mp hD
  have hN := N _ hm
  refine h h' o' _ hod' ⟨F.ns.sameBut hs (Ne.symm hN.2.1), fun b ob e => hs.extBut b ob (fun q => by rw [q, hN.2.2] at e; cases e) (F.keep b ob e), F.above⟩ fun p hp => ?_
  obtain ⟨q, hq, rfl⟩ := List.mem_map.mp hp
  by_cases e : q.1 = d
  · rw [if_pos e]; exact ⟨ho', hN.2⟩
  · rw [if_neg e]; exact ⟨hs.extBut _ _ e (N q hq).1, (N q hq).2⟩
theorem src_dict {d : Addr} {o : Obj} {kvs : List (Str × Value)} (hh : A.handled = none) (F : Fr h₀ L s.heap m₀) (N : News h₀ L s.heap news) (hm : (d, o) ∈ news) (hod : o.IsDictOf (PySem.strKind prog w) kvs) (hsys : (d == sysModules) = false) (hk : ∀ q ∈ keep, q ∈ news) (hc : ∀ b ∈ chg, b ≠ d) (hcn : ∀ b ∈ chg, ∃ o, (b, o) ∈ news) :
    wpAny (model prog w) A (pyIter (.ref d)) (fun it s₂ => ∃ I fp wr St, it = .ref I ∧ LoopG prog w A h₀ L I fp wr kvs.length (fun i v => ∃ k x, kvs[i]? = some (k, x) ∧ (PySem.strKind prog w).is k v = true) St m₀ keep chg s₂ ∧ ∃ h tk, s₂ = { s with heap := h, toks := tk }) E s := by
  obtain ⟨ep, hD⟩ := (dict_at N hm hod).dictAt
  have hne : d ≠ s.heap.objs.size := Nat.ne_of_lt hD.lt_size
  refine wpAny_pyIter_dict hsys hD ⟨_, _, _, _, rfl, loopG_push (Walks.dictKeys (prog := prog) (w := w) hh s.heap.objs.size d hne kvs ep) F N hk (fun b hb => by rw [List.mem_singleton.mp hb]; exact (N _ hm).2.1)
    (fun b hb h => hc b hb (List.mem_singleton.mp h)) (chg_lt N hcn) ⟨⟨_, Heap.get?_push_size _ rfl, rfl, rfl⟩, hD.push _⟩, _, s.toks, rfl⟩
theorem strKind_str {k : Str} {v : Value} (h : (PySem.strKind prog w).is k v = true) : ∃ t, v = .str k t := Value.isStrOf_shape h
end
end Mine
namespace Mine
noncomputable abbrev lt2 (a b : Str) : Prop := a.cps.toList < b.cps.toList
theorem lt_yes {prog : Program} {w : World} {A : Around} {E : Value → Shared → Prop} {s : Shared} {a b : Str} {t u : Tok} {Q : Value → Shared → Prop} (h : lt2 a b) (q : Q (.bool true) s) : wpAny (model prog w) A (compareOp .Lt (.str a t) (.str b u)) Q E s :=
  PyProof.Rows.lt_str (by rw [decide_eq_true h]; exact q)
theorem lt_no {prog : Program} {w : World} {A : Around} {E : Value → Shared → Prop} {s : Shared} {a b : Str} {t u : Tok} {Q : Value → Shared → Prop} (h : ¬ lt2 a b) (q : Q (.bool false) s) : wpAny (model prog w) A (compareOp .Lt (.str a t) (.str b u)) Q E s :=
  PyProof.Rows.lt_str (by rw [decide_eq_false h]; exact q)
end Mine

end
noncomputable section
open PySem PySem.W PyProof.Rows PyProof.Rows.LCg PySem.Calls PySem.Spec Mine
namespace Mine
noncomputable def menu4 (a b c d : Str) (i : Int) : Str := if i = 0 then a else if i = 1 then b else if i = 2 then c else d
theorem menu4_len {a b c d : Str} {n : Nat} (ha : a.length ≤ n) (hb : b.length ≤ n) (hc : c.length ≤ n) (hd : d.length ≤ n) (i : Int) : (menu4 a b c d i).length ≤ n := by
  unfold menu4; split; exact ha; split; exact hb; split; exact hc; exact hd
section
variable {prog : Program} {w : World} {A : Around} {E : Value → Shared → Prop} {s : Shared}
theorem item_menu {value slice : PySem.Expr} {l : Addr} {x0 x1 x2 x3 : Str} {t0 t1 t2 t3 : Tok} {c : Int} {u : Tok} {Q : Value → Shared → Prop} (hl : s.heap.IsList l #[.str x0 t0, .str x1 t1, .str x2 t2, .str x3 t3]) (h : ∀ t, Q (.str (menu4 x0 x1 x2 x3 (c.fmod 4)) t) s)
    (hs : ∀ r : Nat, subscripted slice false (.ref l) (.int (r : Int) u) = operate [.ref l, .int (r : Int) u] (getItem (.ref l) (.int (r : Int) u)) := by intro _; with_unfolding_all rfl) :
    wpAny (model prog w) A (subscriptTail value slice (.ref l) (.int (c.fmod 4) u)) Q E s := by
  obtain ⟨r, hr, hr4⟩ : ∃ r : Nat, c.fmod 4 = (r : Int) ∧ r < 4 := by
    have h0 : 0 ≤ c.fmod 4 := Int.fmod_nonneg_of_pos c (by decide)
    have h1 : c.fmod 4 < 4 := Int.fmod_lt_of_pos c (by decide)
    exact ⟨(c.fmod 4).toNat, by (first | lia | omega), by (first | lia | omega)⟩
  rw [hr] at h ⊢
  have hl' : s.heap.IsList l [Value.str x0 t0, Value.str x1 t1, Value.str x2 t2, Value.str x3 t3].toArray := hl
  have hz : [Value.str x0 t0, Value.str x1 t1, Value.str x2 t2, Value.str x3 t3].length ≤ sizeLine := by rw [sizeLine_eq]; show 4 ≤ _; decide
  match r, hr4 with
  | 0, _ => exact item_at (i := 0) hl' hz rfl (h t0) (hs 0)
  | 1, _ => exact item_at (i := 1) hl' hz rfl (h t1) (hs 1)
  | 2, _ => exact item_at (i := 2) hl' hz rfl (h t2) (hs 2)
  | 3, _ => exact item_at (i := 3) hl' hz rfl (h t3) (hs 3)
end
end Mine
namespace Mine
theorem strs_snoc (p : List (Str × Tok)) (x : Str) (t : Tok) : strValues (p ++ [(x, t)]) = strValues p ++ [.str x t] := by simp [strValues]
theorem strs_push (p : List (Str × Tok)) (x : Str) (t : Tok) : (strValues (p ++ [(x, t)])).toArray = (strValues p).toArray.push (.str x t) := by simp [strValues]
section
variable {prog : Program} {w : World} {A : Around} {E : Value → Shared → Prop} {s : Shared} {h₀ : Heap} {L a b : Addr} {m : Str → Option Value} {news news' : List (Addr × Obj)} {p : List (Str × Tok)} {x : Str} {t : Tok} {n : Nat}
theorem add_strs {Q : Value → Shared → Prop} (F : Fr h₀ L s.heap m) (N : News h₀ L s.heap news) (ha : s.heap.IsList a (strValues p).toArray) (hb : s.heap.IsList b #[.str x t]) (hz : p.length ≤ 1000)
    (h : ∀ D h', Fr h₀ L h' m → News h₀ L h' ((D, W.listOf (strValues (p ++ [(x, t)])).toArray 0) :: news) → (∀ q ∈ news, q.1 < D) → Q (.ref D) { s with heap := h' }) : wpAny (model prog w) A (binaryOp .Add (.ref a) (.ref b)) Q E s := by
  have hb' : s.heap.IsList b [Value.str x t].toArray := hb
  refine add_lists F N ha hb' (fun h' F' N' => ?_) (by rw [sizeLine_eq]; simp only [strValues, List.length_map, List.length_cons, List.length_nil]; (first | lia | omega))
  rw [← strs_snoc] at N'
  exact h _ h' F' N' fun q hq => Heap.lt_size (N q hq).1
theorem append_strs {Q : Value → Shared → Prop} (F : Fr h₀ L s.heap m) (N : News h₀ L s.heap news) (U : Upd a (W.listOf (strValues p).toArray n) (W.listOf (strValues (p ++ [(x, t)])).toArray (n + 1)) news news') (hz : p.length ≤ 1000)
    (h : ∀ h', Fr h₀ L h' m → News h₀ L h' news' → Q .none { s with heap := h' }) : wpAny (model prog w) A (call (.builtin "list.append") [.ref a, .str x t]) Q E s := by
  rw [strs_push] at U
  refine append_K F N U h ?_
  simp only [List.size_toArray, strValues, List.length_map]
  rw [sizeLine_eq]; (first | lia | omega)
end
end Mine
namespace Mine
theorem str_len_add (a b : Str) : (a ++ b).length = a.length + b.length := by
  show (a.cps ++ b.cps).size = _
  simp [Str.length]
end Mine

end
noncomputable section
open PySem PySem.W PyProof.Rows PyProof.Rows.LCg PySem.Calls PySem.Spec Mine
namespace Mine
section
variable {prog : Program} {w : World} {A : Around} {E : Value → Shared → Prop} {s : Shared} {h₀ : Heap} {L : Addr} {m₀ : Str → Option Value} {news keep : List (Addr × Obj)} {chg : List Addr}
theorem LoopG.toH {I : Addr} {fp wr : List Addr} {n : Nat} {P : Nat → Value → Prop} {St : Nat → Heap → Prop} (X : LoopG prog w A h₀ L I fp wr n P St m₀ keep chg s) (has : ∀ i h, St i h → ∀ b ∈ wr, ∃ o, h.get? b = some o) : LoopH prog w A h₀ L I fp wr n P St m₀ keep chg s :=
  ⟨X, has⟩
theorem src_range {r : Addr} {n : Nat} {t u v : Tok} (hh : A.handled = none) (F : Fr h₀ L s.heap m₀) (N : News h₀ L s.heap news) (hr : IsRange s.heap r 0 (n : Int) 1 t u v) (hn : n ≤ 1000) (hk : ∀ q ∈ keep, q ∈ news) (hcn : ∀ b ∈ chg, ∃ o, (b, o) ∈ news) :
    wpAny (model prog w) A (pyIter (.ref r)) (fun it s₂ => ∃ I fp wr St, it = .ref I ∧ LoopH prog w A h₀ L I fp wr n (fun i v => ∃ t, v = .int i t) St m₀ keep chg s₂ ∧ ∃ h tk, s₂ = { s with heap := h, toks := tk }) E s := by
  have hz : Builtin.Range.rangeSize 0 (n : Int) 1 = n := by
    unfold Builtin.Range.rangeSize
    rw [if_pos (by decide)]
    split
    · rw [Int.ediv_one]; (first | lia | omega)
    · (first | lia | omega)
  have hsm : Builtin.Range.small 0 (n : Int) 1 = true := by
    unfold Builtin.Range.small
    rw [hz]
    have f : ∀ i : Int, 0 ≤ i → i ≤ 1000 → Builtin.Range.rangeFitsLong i = true := fun i h0 h1 => by
      unfold Builtin.Range.rangeFitsLong
      rw [Bool.and_eq_true]
      exact ⟨decide_eq_true (by (first | lia | omega)), decide_eq_true (by (first | lia | omega))⟩
    rw [f 0 (by (first | lia | omega)) (by (first | lia | omega)), f n (by (first | lia | omega)) (by (first | lia | omega)), f 1 (by (first | lia | omega)) (by (first | lia | omega)), if_pos (by decide), f ((n : Int) + (1 - 1)) (by (first | lia | omega)) (by (first | lia | omega))]
    simp
  refine wpAny_pyIter_range hr hsm ?_
  rw [hz]
  have W := range_walks (prog := prog) (w := w) (I := s.heap.objs.size) hh 0 n
  have W' : Walks prog w A s.heap.objs.size [s.heap.objs.size] [s.heap.objs.size] n (fun i v => ∃ t, v = .int (i : Int) t) (fun i h => IsRangeIter h s.heap.objs.size (0 + (i : Nat) * 1) ((n : Int) - (i : Nat)) 1) :=
    { sub := W.sub, frame := W.frame, done := W.done, self := W.self, item := fun i s Q E hi st hQ => W.item i s Q E hi st fun v h' tk hP => hQ v h' tk (by obtain ⟨t, rfl⟩ := hP; exact ⟨t, by rw [Int.zero_add]⟩) }
  refine ⟨_, _, _, _, rfl, LoopG.toH (loopG_push (fp0 := []) W' F N hk (fun b hb => absurd hb (by simp)) (fun q hq h => absurd h (by simp)) (chg_lt N hcn) ?_) ?_, _, s.toks, rfl⟩
  · show IsRangeIter _ _ _ _ _
    simpa using Heap.get?_push_size _ rfl
  · intro i h st b hb
    rw [List.mem_singleton.mp hb]
    exact ⟨_, st⟩
end
end Mine
namespace Mine
theorem slice_init (al : List (Str × Tok)) : slicePick (strValues al).toArray none (some (-1)) none = (strValues al.dropLast).toArray := by
  rw [show (some (-1) : Option Int) = some (-((1 : Nat) : Int)) from rfl, slicePick_butLast _ 1 (Nat.le_refl 1)]
  simp [strValues, List.dropLast_eq_take]
end Mine

end
noncomputable section
open PySem PySem.W PyProof.Rows PyProof.Rows.LCg PySem.Calls PySem.Spec PyProof.V Mine
namespace Mine
theorem ints_vals : ∀ {vs : List Value} {ns : List Int}, IntsAre vs ns → ∃ cl : List (Int × Tok), vs = intVals cl ∧ cl.map (·.1) = ns
  | _, _, .nil => ⟨[], rfl, rfl⟩
  | _, _, .cons i t r => by
    obtain ⟨cl, e1, e2⟩ := ints_vals r
    exact ⟨(i, t) :: cl, by rw [e1]; rfl, by rw [List.map_cons, e2]⟩
theorem sc_canLayAll0 : ∀ ns : List Str, (∀ x ∈ ns, PyData.strOk x = true) → PyData.canLayAll0 (ns.map PyData.str) = true
  | [], _ => rfl
  | a :: r, h => by simp [PyData.canLayAll0, PyData.canLay0, h a List.mem_cons_self, sc_canLayAll0 r fun x hx => h x (List.mem_cons_of_mem _ hx)]
theorem sc_depthAll : ∀ ns : List Str, PyData.depthAll (ns.map PyData.str) = 0
  | [] => rfl
  | _ :: r => by simp [PyData.depthAll, PyData.depth, sc_depthAll r]
theorem sc_shaped (ns : List Str) (h : ∀ x ∈ ns, PyData.strOk x = true) : SeqAt.shaped (.list (ns.map PyData.str)) = true := by
  simp [SeqAt.shaped, PyData.canLay0, PyData.depth, sc_canLayAll0 ns h, sc_depthAll]
theorem sc_sameAll : ∀ ns : List Str, PySem.Spec.sameAll (ns.map PyData.str) (ns.map PyData.str) = true
  | [] => by simp [PySem.Spec.sameAll]
  | a :: r => by simp [PySem.Spec.sameAll, PySem.Spec.same, sc_sameAll r]
theorem sc_carried : ∀ xs : List (Str × Tok), CarriedAll (strValues xs) ((xs.map (·.1)).map PyData.str)
  | [] => .nil
  | (x, t) :: r => .cons (.str x t) (sc_carried r)
section
variable {prog : Program} {w : World} {A : Around} {E : Value → Shared → Prop} {s : Shared} {a b : Addr} {xs ys : List (Str × Tok)} {Q : Value → Shared → Prop}
theorem ne_strs_no (ha : s.heap.IsList a (strValues xs).toArray) (hb : s.heap.IsList b (strValues ys).toArray) (e : xs.map (·.1) = ys.map (·.1)) (ok : ∀ x ∈ xs.map (·.1), PyData.strOk x = true) (hu : A.units + 64 < cLine) (h : Q (.bool false) s) :
    wpAny (model prog w) A (compareOp .NotEq (.ref a) (.ref b)) Q E s :=
  ne_dataH_same (reads_newData ha (sc_carried xs)) (reads_newData hb (sc_carried ys)) (sc_shaped _ ok) (sc_shaped _ (e ▸ ok)) hu (SeqAt.noMix_of_shape (.list .str) rfl _ _ (list_map_has fun _ => rfl) (list_map_has fun _ => rfl)) (by
    rw [← e]
    have : PySem.Spec.same (.list ((xs.map (·.1)).map PyData.str)) (.list ((xs.map (·.1)).map PyData.str)) = true := by simp only [PySem.Spec.same]; exact sc_sameAll _
    rw [this]; exact h)
end
end Mine

end
noncomputable section
open PySem PySem.W PyProof.Rows PyProof.Rows.LCg PySem.Calls PySem.Spec Mine
namespace Mine
section
variable {prog : Program} {w : World} {A : Around} {E : Value → Shared → Prop} {s : Shared} {h₀ : Heap} {L : Addr} {m : Str → Option Value} {env : Env}
noncomputable def SrcM (prog : Program) (w : World) (A : Around) (h₀ : Heap) (L : Addr) (m : Str → Option Value) (env : Env) (elt : PySem.Expr) (x : Str) (scope : Scope) (cl : List (Str × Addr)) (s : Shared) (Q : Value → Shared → Prop) (xv : Value) (s₁ : Shared) : Prop :=
  ∃ (l : Addr) (its : List Value) (k : Nat) (news : List (Addr × Obj)) (Fy : Nat → Value → Prop), xv = .ref l ∧ (∃ h tk, s₁ = { s with heap := h, toks := tk }) ∧ Fr h₀ L s₁.heap m ∧ News h₀ L s₁.heap news ∧ (l, ({ cls := .type "list", data := .seq its.toArray k } : Obj)) ∈ news ∧ its.length ≤ 1000000 ∧
    (∀ (i : Nat) (v : Value) (s' : Shared) (m₂ : Str → Option Value) (C : Addr) (oC : Obj), its[i]? = some v → NsObj oC m₂ → m₂ x = some v → Fr h₀ L s'.heap m → News h₀ L s'.heap ((C, oC) :: news) → ∀ (Q' : Value → Shared → Prop) E', (∀ y tk, Fy i y → Q' y { s' with toks := tk }) → wpAny (model prog w) A (eval elt (compEnvC scope cl C env)) Q' E' s') ∧
    (∀ D ys h tk, ys.length = its.length → (∀ i y, ys[i]? = some y → Fy i y) → (∀ q ∈ news, @LT.lt Nat _ q.1 D) → Fr h₀ L h m → News h₀ L h ((D, LCg.lst ys) :: news) → Q (.ref D) { s with heap := h, toks := tk })
theorem LC_map {iter elt : PySem.Expr} {x : Str} {px : Pos} {scope : Scope} {cl : List (Str × Addr)} {pos : Pos} {Q : Value → Shared → Prop}
    (hh : A.handled = none) (hclos : closureFor scope env = pure cl) (hcell : ∀ y ∈ scope.names, y.2 ≠ .cell) (hkind : scope.kind = .function) (hnames : ∀ x ∈ scope.names, x.2 = .local → scope.names.lookup x.1 = some .local)
    (hx : scope.names.lookup x = some .local) (hs : ∀ x, foldedSetIterable iter env x = pure x)
    (src : wpAny (model prog w) A (eval iter env) (SrcM prog w A h₀ L m env elt x scope cl s Q) E s) :
    wpAny (model prog w) A (eval (.ListComp elt [⟨.Name x px, iter, [], 0⟩] scope pos) env) Q E s := by
  rw [eval_ListComp]
  refine wpAny_comprehension_free (use := none) rfl hs hclos hkind hnames (wpAny_mono src (fun xv s₁ h₁ => ?_) fun _ _ e => e)
  obtain ⟨l, its, k, news, Fy, rfl, ⟨hp, tk₁, rfl⟩, F, N, hl, hn, helt, hQ⟩ := h₁
  refine LC_core (fun i ys => ys.length = i ∧ ∀ j y, ys[j]? = some y → Fy j y) F N hh hl hn hcell hkind hx ⟨rfl, fun j y h => absurd h (by simp)⟩ (fun i ys e => Nat.le_of_eq e.1) ?_ fun D ys h tk e => hQ D ys h tk e.1 e.2
  intro i v ys s' m₂ C oC Rn Ry E' hv hys hoC hm _ F' N' _ hy
  show wpAny _ _ (pure true) _ _ _
  refine wpAny_pure ?_
  rw [if_pos rfl]
  refine helt i v s' m₂ C oC hv hoC hm F' N' _ _ fun y tk hF => hy y tk ⟨by rw [List.length_append, hys.1]; rfl, fun j z hj => ?_⟩
  rcases Nat.lt_trichotomy j ys.length with h | h | h
  · rw [List.getElem?_append_left h] at hj; exact hys.2 j z hj
  · subst h
    rw [List.getElem?_concat_length] at hj
    exact hys.1 ▸ Option.some.inj hj ▸ hF
  · rw [List.getElem?_eq_none (by rw [List.length_append]; exact h)] at hj; cases hj
end
theorem ints_of_fun {f : Nat → Int} : ∀ {ys : List Value} {n : Nat}, ys.length = n → (∀ i v, ys[i]? = some v → ∃ t, v = Value.int (f i) t) → ∃ al : List (Int × Tok), ys = intVals al ∧ al.map (·.1) = (List.range n).map f := by
  intro ys n hl h
  have key : ∀ (ys : List Value) (k : Nat), (∀ i v, ys[i]? = some v → ∃ t, v = Value.int (f (k + i)) t) → ∃ al : List (Int × Tok), ys = intVals al ∧ al.map (·.1) = (List.range ys.length).map (fun i => f (k + i)) := by
    intro ys
    induction ys with
    | nil => intro k _; exact ⟨[], rfl, rfl⟩
    | cons a r ih =>
      intro k h
      obtain ⟨t, rfl⟩ := h 0 a rfl
      obtain ⟨al, e1, e2⟩ := ih (k + 1) (fun i v hv => by
        obtain ⟨t, rfl⟩ := h (i + 1) v (by simpa using hv)
        exact ⟨t, by rw [show k + (i + 1) = k + 1 + i by omega]⟩)
      refine ⟨(f (k + 0), t) :: al, by rw [e1]; rfl, ?_⟩
      rw [List.map_cons, e2, List.length_cons, List.range_succ_eq_map, List.map_cons, List.map_map]
      congr 1
      refine List.map_congr_left fun i _ => ?_
      show f (k + 1 + i) = f (k + (i + 1))
      rw [show k + (i + 1) = k + 1 + i by omega]
  obtain ⟨al, e1, e2⟩ := key ys 0 (fun i v hv => by rw [Nat.zero_add]; exact h i v hv)
  refine ⟨al, e1, ?_⟩
  rw [e2, hl]
  refine List.map_congr_left fun i _ => ?_
  rw [Nat.zero_add]
end Mine

end
noncomputable section
open PySem PySem.W PyProof.Rows PyProof.Rows.LCg PySem.Calls PySem.Spec Mine
namespace Mine
theorem strs_app (p q : List (Str × Tok)) : strValues (p ++ q) = strValues p ++ strValues q := by simp [strValues]
end Mine

end
noncomputable section
open PySem PySem.W PyProof.Rows PySem.Calls PySem.Spec Mine
namespace Mine
theorem cps {α : Type} {M : _} {A : Around} {t : _} {Q : α → Shared → Prop} {E : Value → Shared → Prop} {s : Shared} (h : ∀ R : α → Shared → Prop, (∀ v s', Q v s' → R v s') → wpAny M A t R E s) : wpAny M A t Q E s := h Q fun _ _ x => x
end Mine

end
noncomputable section
open PySem PySem.W PySem.Calls PyProof.Rows PySem.Calls PySem.Spec Mine
namespace Mine
theorem map_off {c : Prop} [Decidable c] {α : Type} {a b o : α} (h : ¬ c) (e : b = o) : ite c a b = o := (if_neg h).trans e
theorem room1 {d dp r2 r k : Nat} (e : d = dp + k) (h : Nat.ble (k + r2) r = true) (hd : dp + r < recursionLimit) : d + r2 < recursionLimit := by
  rw [e, Nat.add_assoc]; exact Nat.lt_of_le_of_lt (Nat.add_le_add_left (Nat.le_of_ble_eq_true h) dp) hd
theorem room0 {d dp r k : Nat} (e : d = dp + k) (h : Nat.ble k r = true) (hd : dp + r < recursionLimit) : d < recursionLimit := by
  rw [e]; exact Nat.lt_of_le_of_lt (Nat.add_le_add_left (Nat.le_of_ble_eq_true h) dp) hd
theorem unit1 {u un r r2 k : Nat} (e : u = un + k) (h : Nat.ble (k + 8 * r2) (8 * r) = true) (hu : un + 8 * r < cLine) : u + 8 * r2 < cLine := by
  rw [e, Nat.add_assoc]; exact Nat.lt_of_le_of_lt (Nat.add_le_add_left (Nat.le_of_ble_eq_true h) un) hu
theorem unit0 {u un r c k : Nat} (e : u = un + k) (h : Nat.ble (k + c) (8 * r) = true) (hu : un + 8 * r < cLine) : u + c < cLine := by
  rw [e, Nat.add_assoc]; exact Nat.lt_of_le_of_lt (Nat.add_le_add_left (Nat.le_of_ble_eq_true h) un) hu
section
variable {M : Model} {A : Around} {E : Value → Shared → Prop} {s : Shared}
theorem fold_ae {en : Env} {code : List Stmt} {Q : Flow → Shared → Prop} (h : let en9 := en; let A9 := A.deeper en9; wpAny M A9 (execs code en9) Q E s) : wpAny M (A.deeper en) (execs code en) Q E s := h
theorem cons_let {st : Stmt} {rest : List Stmt} {env : Env} {Q : Flow → Shared → Prop}
    (h : let en9 := env; let q0 := Q; let e0 := E; let qk := (fun f s' => match f with | .next => wpAny M A (execs rest en9) q0 e0 s' | f => q0 f s' : Flow → Shared → Prop); wpAny M A (exec st en9) qk e0 s) :
    wpAny M A (execs (st :: rest) env) Q E s := wpAny_execs_cons h
theorem if_let {test : Expr} {body orelse : List Stmt} {env : Env} {pos : Pos} {Q : Flow → Shared → Prop}
    (h : let qb := (fun b s₂ => if b then wpAny M A (execs body env) Q E s₂ else wpAny M A (execs orelse env) Q E s₂ : Bool → Shared → Prop); wpAny M A (isTrue test env (eval test env)) qb E s) :
    wpAny M A (exec (.If test body orelse pos) env) Q E s := wpAny_If h
theorem fr_let {P : Prop} {h₀ h : Heap} {L : Addr} {m : Str → Option Value} (F : Fr h₀ L h m) (H : let m9 := m; Fr h₀ L h m9 → P) : P := H F
theorem q_let {α : Type} {t : Sem α} {Q : α → Shared → Prop} (h : let q0 := Q; let e0 := E; wpAny M A t q0 e0 s) : wpAny M A t Q E s := h
theorem execs_1 {st : Stmt} {env : Env} {Q : Flow → Shared → Prop} (h : let en9 := env; let q0 := Q; let e0 := E; wpAny M A (exec st en9) q0 e0 s) : wpAny M A (execs (st :: []) env) Q E s :=
  wpAny_execs_cons (wpAny_mono h (fun f s' hf => by cases f <;> first | exact hf | exact wpAny_execs_nil hf) fun _ _ z => z)
theorem st_let2 {α : Type} {t : Sem α} {Q : α → Shared → Prop} {h : Heap} {g : Array GenState} {d : Drawn} {k : Nat} {os : _} (H : let st := Shared.mk h g d k os; wpAny M A t Q E st) : wpAny M A t Q E (Shared.mk h g d k os) := H
theorem store_let {h₀ : Heap} {L a : Addr} {m : Str → Option Value} {cn : Str} {cs : Scope} {ccd : Value} {cl : List (Str × Addr)} {x : Str} {v : Value} {Q : Unit → Shared → Prop} {news : List (Addr × Obj)}
    (F : Fr h₀ L s.heap m) (N : News h₀ L s.heap news)
    (h : let m9 := (fun y => if y = x then some v else m y : Str → Option Value); ∀ h' k', let st := ({ s with heap := h', toks := k' } : Shared); Fr h₀ L h' m9 → News h₀ L h' news → Q () st)
    (hk : cs.kind = .function := by rfl) (hx : (envX cn cs L a ccd cl).kindOf x = some .local := by rfl) : wpAny M A (storeName (envX cn cs L a ccd cl) x v) Q E s :=
  storeX_L F N (fun h' F' N' => h h' _ F' N') hk hx
theorem store_led {h₀ : Heap} {L a : Addr} {m : Str → Option Value} {cn : Str} {cs : Scope} {ccd : Value} {cl : List (Str × Addr)} {x : Str} {v : Value} {Q : Unit → Shared → Prop} {news : List (Addr × Obj)}
    (F : Fr h₀ L s.heap m) (N : News h₀ L s.heap news)
    (h : let m9 := (fun y => if y = x then some v else m y : Str → Option Value); let nw := news; ∀ h' k', let st := ({ s with heap := h', toks := k' } : Shared); Fr h₀ L h' m9 → News h₀ L h' nw → Q () st)
    (hk : cs.kind = .function := by rfl) (hx : (envX cn cs L a ccd cl).kindOf x = some .local := by rfl) : wpAny M A (storeName (envX cn cs L a ccd cl) x v) Q E s :=
  storeX_L F N (fun h' F' N' => h h' _ F' N') hk hx
end
end Mine

end
noncomputable section
open PySem PySem.W PyProof.Rows PyProof.Rows.LCg PySem.Calls PySem.Spec Mine
namespace Mine
local macro_rules | `(tactic| k_all) => `(tactic| with_reducible assumption)
noncomputable abbrev shEs (P : Params) (T : ShT) (SX PB FS PC : Addr) (st tok : Value) : List DictEntry :=
  [at1 P "instream" T.k0 (.ref SX), at1 P "infile" T.k1 .none, at1 P "posix" T.k2 (.bool true), at1 P "eof" T.k3 .none, at1 P "commenters" T.k4 (.str (Str.ofString "#") T.v0), at1 P "wordchars" T.k5 (.str wcs T.v1),
    at1 P "whitespace" T.k6 (.str (Str.ofString " \t\r\n") T.v2), at1 P "whitespace_split" T.k7 (.bool false), at1 P "quotes" T.k8 (.str (Str.ofString "'\"") T.v3), at1 P "escape" T.k9 (.str (Str.ofString "\\") T.v4), at1 P "escapedquotes" T.k10 (.str (Str.ofString "\"") T.v5),
    at1 P "state" T.k11 st, at1 P "pushback" T.k12 (.ref PB), at1 P "lineno" T.k13 (.int 1 T.v6), at1 P "debug" T.k14 (.int 0 T.v7), at1 P "token" T.k15 tok, at1 P "filestack" T.k16 (.ref FS), at1 P "source" T.k17 .none,
    at1 P "_punctuation_chars" T.k18 (.str (Str.ofString "()") T.v8), at1 P "_pushback_chars" T.k19 (.ref PC)]
noncomputable def lxOk (K : Frag) (name : Str) : Bool := plainGet K 856 name && hasDictIn K 856 && (match findIn K (.ref 856) name with | some attr => noGet K attr | none => false)
section
variable {prog : Program} {w : World} {A : Around} {E : Value → Shared → Prop} {s : Shared} {h₀ : Heap} {L : Addr} {m : Str → Option Value} {a : LxA} {T : ShT} {x : Str} {i : Nat} {q1 q2 q3 tn tb tp : Tok} {ps : Int} {pcs : List Value} {st tok : Value} {rest : List (Addr × Obj)}
theorem lx_get {name : Str} {expr : Bool} {v : Value} {Q : Value → Shared → Prop} (F : Fr h₀ L s.heap m) (X₀ : (kf w.params).In h₀) (N : News h₀ L s.heap (lxL w.params a T x i q1 q2 q3 tn tb tp ps pcs st tok rest))
    (hk : lxOk (kf w.params) name = true) (hl : getL name (shEs w.params T a.SX a.PB a.FS a.PC st tok) = some (some v)) (hv : handedIn v = true) (h : ∀ k, Q v { s with toks := k }) : wpAny (model prog w) A (getAttr (.ref a.X) name expr) Q E s := by
  unfold lxOk at hk
  rw [Bool.and_eq_true, Bool.and_eq_true] at hk
  obtain ⟨⟨hg, hh⟩, ha⟩ := hk
  cases hf : findIn (kf w.params) (.ref 856) name with
  | none => rw [hf] at ha; cases ha
  | some attr =>
    rw [hf] at ha
    exact get_own (C := 856) F X₀ (InstAt.of_news N (List.mem_cons_of_mem _ (List.mem_cons_of_mem _ (List.mem_cons_of_mem _ (List.mem_cons_of_mem _ (List.mem_cons_of_mem _ List.mem_cons_self)))))
      (List.mem_cons_of_mem _ (List.mem_cons_of_mem _ (List.mem_cons_of_mem _ (List.mem_cons_of_mem _ (List.mem_cons_of_mem _ (List.mem_cons_of_mem _ List.mem_cons_self))))))) hg hh hf ha hl hv (h _)
theorem lx_set_state {v : Value} {Q : Unit → Shared → Prop} (F : Fr h₀ L s.heap m) (X₀ : (kf w.params).In h₀) (N : News h₀ L s.heap (lxL w.params a T x i q1 q2 q3 tn tb tp ps pcs st tok rest)) (O : LxO a rest)
    (h : ∀ h' k, Fr h₀ L h' m → News h₀ L h' (lxL w.params a T x i q1 q2 q3 tn tb tp ps pcs v tok rest) → Q () { s with heap := h', toks := k }) : wpAny (model prog w) A (setAttr (.ref a.X) (Str.ofString "state") v) Q E s := by
  obtain ⟨o1, o2, o3, o4, o5, o6, or1, or2, or3⟩ := O
  k_dflt (refine' set_dict F X₀ N ?k4 ?k5 ?k6 ?k7 ?k8 ?k9 ?k10 ?k11 ?k12 ?k13 ?_; (case k4 => k_inst); (case k5 => exact rfl); (case k6 => k_is); (case k7 => k_is); (case k8 => k_is); (case k9 => k_is); (case k10 => k_get); (case k11 => k_put); (case k12 => k_upd); (case k13 => exact Nat.le_of_ble_eq_true rfl); intro h' F' N'; exact h h' _ F' N')
theorem lx_set_token {v : Value} {Q : Unit → Shared → Prop} (F : Fr h₀ L s.heap m) (X₀ : (kf w.params).In h₀) (N : News h₀ L s.heap (lxL w.params a T x i q1 q2 q3 tn tb tp ps pcs st tok rest)) (O : LxO a rest)
    (h : ∀ h' k, Fr h₀ L h' m → News h₀ L h' (lxL w.params a T x i q1 q2 q3 tn tb tp ps pcs st v rest) → Q () { s with heap := h', toks := k }) : wpAny (model prog w) A (setAttr (.ref a.X) (Str.ofString "token") v) Q E s := by
  obtain ⟨o1, o2, o3, o4, o5, o6, or1, or2, or3⟩ := O
  k_dflt (refine' set_dict F X₀ N ?k4 ?k5 ?k6 ?k7 ?k8 ?k9 ?k10 ?k11 ?k12 ?k13 ?_; (case k4 => k_inst); (case k5 => exact rfl); (case k6 => k_is); (case k7 => k_is); (case k8 => k_is); (case k9 => k_is); (case k10 => k_get); (case k11 => k_put); (case k12 => k_upd); (case k13 => exact Nat.le_of_ble_eq_true rfl); intro h' F' N'; exact h h' _ F' N')
theorem lx_pop {v : Value} {Q : Value → Shared → Prop} (F : Fr h₀ L s.heap m) (N : News h₀ L s.heap (lxL w.params a T x i q1 q2 q3 tn tb tp ps [v] st tok rest)) (O : LxO a rest)
    (h : ∀ h', Fr h₀ L h' m → News h₀ L h' (lxL w.params a T x i q1 q2 q3 tn tb tp (ps + 1) [] st tok rest) → Q v { s with heap := h' }) : wpAny (model prog w) A (call (.builtin "collections.deque.pop") [.ref a.PC]) Q E s := by
  obtain ⟨o1, o2, o3, o4, o5, o6, or1, or2, or3⟩ := O
  refine' dq_pop F N ?U ?_
  case U => k_upd
  exact fun h' F' N' => h h' F' N'
theorem lx_push {v : Value} {Q : Value → Shared → Prop} (F : Fr h₀ L s.heap m) (N : News h₀ L s.heap (lxL w.params a T x i q1 q2 q3 tn tb tp ps [] st tok rest)) (O : LxO a rest)
    (h : ∀ h', Fr h₀ L h' m → News h₀ L h' (lxL w.params a T x i q1 q2 q3 tn tb tp (ps + 1) [v] st tok rest) → Q .none { s with heap := h' }) : wpAny (model prog w) A (call (.builtin "collections.deque.append") [.ref a.PC, v]) Q E s := by
  obtain ⟨o1, o2, o3, o4, o5, o6, or1, or2, or3⟩ := O
  refine' dq_append F N ?U ?_
  case U => k_upd
  exact fun h' F' N' => h h' F' N'
theorem lx_true {b : Bool} {Q : Bool → Shared → Prop} (N : News h₀ L s.heap (lxL w.params a T x i q1 q2 q3 tn tb tp ps pcs st tok rest)) (hx : Nat.ble pcs.length 1000 = true) (e : (!pcs.isEmpty) = b) (h : ∀ k, Q b { s with toks := k }) : wpAny (model prog w) A (truthy (.ref a.PC)) Q E s :=
  dq_truthy2 N List.mem_cons_self (Nat.le_of_ble_eq_true hx) e h
theorem lx_mpop {Q : Value × List Value → Shared → Prop} {pl : Sem Bool} (N : News h₀ L s.heap (lxL w.params a T x i q1 q2 q3 tn tb tp ps pcs st tok rest)) (h : Q (.builtin "collections.deque.pop", [.ref a.PC]) s) : wpAny (model prog w) A (getMethod (.ref a.PC) (Str.ofString "pop") pl) Q E s :=
  dq_getMethod N List.mem_cons_self dq_slot_pop dq_type_pop h
theorem lx_mapp {Q : Value × List Value → Shared → Prop} {pl : Sem Bool} (N : News h₀ L s.heap (lxL w.params a T x i q1 q2 q3 tn tb tp ps pcs st tok rest)) (h : Q (.builtin "collections.deque.append", [.ref a.PC]) s) : wpAny (model prog w) A (getMethod (.ref a.PC) (Str.ofString "append") pl) Q E s :=
  dq_getMethod N List.mem_cons_self dq_slot_append dq_type_append h
end
end Mine

end
namespace Mine
local macro_rules | `(tactic| walk_at $s:str) => `(tactic| k_extra $s)
set_option maxHeartbeats 4000000
set_option rowWalk.seconds 0
local macro_rules | `(tactic| k_all) => `(tactic| with_reducible assumption)
noncomputable section
open PySem PySem.W PyProof.Rows PySem.Calls PySem.Spec Mine
variable {w : World} {p : Program} {loose : List Str} {mean : ExcName → Option Value} {mg mb : Str → Option Value}
set_option maxHeartbeats 4000000
set_option rowWalk.seconds 0
theorem rows1 : True := by
  k_with_none
  k_with "my fits" => (first | with_reducible assumption | (simp only [sizeLine_eq] at *; omega))
  k_with "call builtin:issubclass" => (k_here; (with_reducible show wpAny _ _ (call (Value.builtin "issubclass") [Value.type "str", Value.ref _]) _ _ _); (refine' call_issub (isTup_of (by k_asm) (by news_mem)) ?_))
  k_with "my size" => (first | with_reducible assumption | (simp only [strValues, List.size_toArray, List.length_map, List.length_append, List.length_cons, List.length_nil, sizeLine_eq]; omega))
  k_with "call builtin:list.append" => (k_here; (with_reducible show wpAny _ _ (call (Value.builtin _) [Value.ref _, _]) _ _ _); k_dflt (refine' append_K (by k_asm) (by k_asm) (by k_upd) ?_ (by walk_at "my size"); k_whole); intro _ _ _)
  k_with "truthy ref" => (k_here; (with_reducible show wpAny _ _ (truthy (Value.ref _)) _ _ _); refine' truthy_L (by exact isL_of (by with_reducible assumption) (by walk_at "my mem")) (by walk_at "my size") ?_ ?_; intro _ _)
  k_with "call builtin:list.pop" => (k_here; (try dsimp only); k_dflt (refine' pop_L (by k_asm) (by k_asm) (by k_upd) (by walk_at "my size") ?_); intro _ _ _)
  k_with "subscriptTail Name UnaryOp ref int" => (k_here; (with_reducible show wpAny _ _ (subscriptTail _ _ (Value.ref _) (Value.int (-1) _)) _ _ _); refine' item_last (by exact isL_of (by with_reducible assumption) (by walk_at "my mem")) (by walk_at "my size") (by exact List.getLast?_concat) ?_ (by with_unfolding_all rfl))
  k_with "truthy ref" => (k_here; (with_reducible show wpAny _ _ (truthy (Value.ref _)) _ _ _); refine' truthy_L1 (by exact isL_of (by with_reducible assumption) (by walk_at "my mem")) (by walk_at "my size") ?_; intro _)
  k_with "call builtin:str.join" => (k_here; (with_reducible show wpAny _ _ (call (Value.builtin "str.join") [Value.str _ _, Value.ref _]) _ _ _); first
  | (refine' my_join (by exact isL_of (by with_reducible assumption) (by walk_at "my mem")) (by decide +kernel) (by omega) (by walk_at "my parts") ?_; intro _ _)
  | (refine' my_join2 (by exact isL_of (by with_reducible assumption) (by walk_at "my mem")) (by decide +kernel) (by omega) (by walk_at "my parts") (by walk_at "my len") ?_; intro _ _))
  k_with "my mem" => (with_reducible (first | exact List.mem_cons_self | (refine List.mem_cons_of_mem _ ?_; walk_at "my mem")))
  k_with "my parts" => (assumption)
  k_with "my len" => (first | (simp only []; omega) | omega)
  k_with "my in" => (first | with_reducible assumption | with_reducible exact List.mem_cons_self | with_reducible exact List.mem_append_left _ (by with_reducible assumption) | with_reducible exact List.mem_append_right _ (by with_reducible assumption) | ((with_reducible refine List.mem_cons_of_mem _ ?_); walk_at "my in"))
  k_with "my all" => (first | with_reducible exact List.forall_mem_nil _ | ((with_reducible refine List.forall_mem_cons.mpr ⟨by walk_at "my mem", ?_⟩); walk_at "my all") | (intro _ _; walk_at "my in"))
  k_with "my news" => (first | with_reducible assumption | (refine' news_sub (by with_reducible assumption) (by intro _ _; walk_at "my in")))
  k_with "my led" => ((try simp only [List.cons_append]); with_reducible assumption)
  k_with "my slice" => (k_here; (with_reducible show wpAny _ _ (subscriptTail _ (PySem.Expr.Slice _ _ none _) (Value.ref _) (Value.ref _)) _ _ _); k_dflt (refine' kmk_slice (by k_asm) (by k_asm) (by exact isL_of (by with_reducible assumption) (by walk_at "my mem")) (by kmk_part) (by kmk_part) ?_ (by with_unfolding_all rfl) (by kmk_pure) (by first | walk_at "my size" | (simp only [List.size_toArray, intVals, List.length_map]; rw [sizeLine_eq]; omega))); intro _ _ _ _ _)
  k_with "my fold" => (refine fold_ae ?_; intro _ _)
  k_with "storeName" => (k_here; k_dflt (refine' store_let (by k_asm) (by k_asm) ?_ (by rfl) (by rfl); k_whole; intro _ _ _ _ _ _; (try k_sweep)))
  k_with "exec If" => (k_here; (refine if_let ?_); intro _)
  k_with "execs cons" => (k_here; (refine cons_let ?_); intro _ _ _ _)
  k_with "execs cons" => (k_here; (with_reducible show wpAny _ _ (execs (_ :: []) _) _ _ _); (refine execs_1 ?_); intro _ _ _)
  k_with "execs cons" => (k_here; k_gentoks; (refine st_let2 ?_); intro _)
  k_with "my room" => (k_dflt (first | exact room1 (k := 1) rfl rfl (by with_reducible assumption) | exact room1 (k := 2) rfl rfl (by with_reducible assumption) | exact room1 (k := 3) rfl rfl (by with_reducible assumption) | exact room0 (k := 1) rfl rfl (by with_reducible assumption) | exact room0 (k := 2) rfl rfl (by with_reducible assumption) | exact room0 (k := 3) rfl rfl (by with_reducible assumption) | ktr_room | (show Around.depth (Around.deeper _ _) + _ < recursionLimit; first | ktr_room) | (show Around.depth (Around.deeper _ _) < recursionLimit; first | ktr_room)))
  k_with "my units" => (k_dflt (first | exact unit1 (k := 3) rfl rfl (by with_reducible assumption) | exact unit1 (k := 4) rfl rfl (by with_reducible assumption) | exact unit1 (k := 5) rfl rfl (by with_reducible assumption) | exact unit1 (k := 6) rfl rfl (by with_reducible assumption) | exact unit1 (k := 7) rfl rfl (by with_reducible assumption) | exact unit1 (k := 8) rfl rfl (by with_reducible assumption) | exact unit0 (k := 3) rfl rfl (by with_reducible assumption) | exact unit0 (k := 6) rfl rfl (by with_reducible assumption) | ktr_units | (show Around.units (Around.deeper _ _) + _ < cLine; first | ktr_units)))
  k_with "my steps" => (repeat' (first | ((fail_if_success (fail_if_success k_unfold)); (first | (show wpAny _ _ _ _ _ _) | (k_unfold; (try dsimp only)))) | (k_end; wrow_close) | walk1 | (dsimp only; walk1) | (leave1; (try dsimp only)) | fail "no step"))
  k_with "my off" => (first | with_reducible exact rfl | ((refine map_off ?_ ?_); (next => assumption); walk_at "my off") | exact rfl)
  trivial

set_option maxHeartbeats 4000000
set_option genInjectivity false in
set_option genSizeOf false in
structure StripSt where
  start : Int
  op : Option Int
  res : List Str
noncomputable def stripStep (x : Str) (st : StripSt) (e : Int × Str) : StripSt :=
  if e.2 = S "\"" then match st.op with
    | none => ⟨st.start, some e.1, st.res⟩
    | some o => ⟨e.1 + 1, none, if st.start ≠ o then st.res ++ [Txt.slice x (some st.start) (some o)] else st.res⟩
  else st
noncomputable def stripEnd (x : Str) : StripSt := (escs x).foldl (stripStep x) ⟨0, none, []⟩
noncomputable def stripRes (x : Str) : List Str := if (stripEnd x).start < (x.length : Int) then (stripEnd x).res ++ [Txt.slice x (some (stripEnd x).start) none] else (stripEnd x).res
noncomputable def stripped (x : Str) : Str := if (Builtin.Str.occurrences x (S "\"") 0 x.length 1).isEmpty = true then x else Txt.join (S "") (stripRes x)
noncomputable def opV (o : Option Int) (t : Tok) : Value := match o with | none => .none | some k => .int k t
noncomputable def stripAt (x : Str) (i : Nat) : StripSt := ((escs x).take i).foldl (stripStep x) ⟨0, none, []⟩
noncomputable def stR (x : Str) (l : Addr) (rest : List (Addr × Obj)) (mb : Str → Option Value) (i : Nat) (m : Str → Option Value) (nx : List (Addr × Obj)) : Prop :=
  ∃ (al : List (Str × Tok)) (ep : Nat) (vs vo vp vc : Option Value), al.map (·.1) = (stripAt x i).res ∧ nx = (l, W.listOf (strValues al).toArray ep) :: rest ∧ (∃ ts, vs = some (.int (stripAt x i).start ts)) ∧ (∃ to, vo = some (opV (stripAt x i).op to)) ∧
    m = fun z => if z = S "start" then vs else if z = S "open_pos" then vo else if z = S "ch" then vc else if z = S "pos" then vp else mb z
theorem stR_mk {x : Str} {l : Addr} {rest : List (Addr × Obj)} {mb m' : Str → Option Value} {i : Nat} (al : List (Str × Tok)) (ep : Nat) (hr : al.map (·.1) = (stripAt x i).res) (hs : ∃ ts, m' (S "start") = some (.int (stripAt x i).start ts)) (ho : ∃ to, m' (S "open_pos") = some (opV (stripAt x i).op to))
    (h : ∀ z, z ≠ S "start" → z ≠ S "open_pos" → z ≠ S "ch" → z ≠ S "pos" → m' z = mb z) : stR x l rest mb i m' ((l, W.listOf (strValues al).toArray ep) :: rest) :=
  ⟨al, ep, _, _, _, _, hr, rfl, hs, ho, map4_ext rfl rfl rfl rfl h⟩
theorem stR_mk2 {x : Str} {l : Addr} {rest : List (Addr × Obj)} {mb m' : Str → Option Value} {i : Nat} (al : List (Str × Tok)) (y : Str) (t : Tok) (ep : Nat) (hr : al.map (·.1) ++ [y] = (stripAt x i).res) (hs : ∃ ts, m' (S "start") = some (.int (stripAt x i).start ts)) (ho : ∃ to, m' (S "open_pos") = some (opV (stripAt x i).op to))
    (h : ∀ z, z ≠ S "start" → z ≠ S "open_pos" → z ≠ S "ch" → z ≠ S "pos" → m' z = mb z) : stR x l rest mb i m' ((l, W.listOf ((strValues al).toArray.push (Value.str y t)) ep) :: rest) :=
  ⟨al ++ [(y, t)], ep, _, _, _, _, by simpa using hr, by simp [strValues], hs, ho, map4_ext rfl rfl rfl rfl h⟩
theorem strip_st1 {x : Str} {st : StripSt} {k : Int} {c : Str} (hq : c = S "\"") (h : st.op = none) : stripStep x st (k, c) = ⟨st.start, some k, st.res⟩ := by
  unfold stripStep; rw [if_pos hq, h]
theorem strip_st2 {x : Str} {st : StripSt} {k o : Int} {c : Str} (hq : c = S "\"") (h : st.op = some o) : stripStep x st (k, c) = ⟨k + 1, none, if st.start ≠ o then st.res ++ [Txt.slice x (some st.start) (some o)] else st.res⟩ := by
  unfold stripStep; rw [if_pos hq, h]
theorem strip_st3 {x : Str} {st : StripSt} {k : Int} {c : Str} (hq : ¬ c = S "\"") : stripStep x st (k, c) = st := if_neg hq
theorem strip_len (x : Str) (i : Nat) : (stripAt x i).res.length ≤ i := by
  have h : ∀ (l : List (Int × Str)) (st : StripSt), (l.foldl (stripStep x) st).res.length ≤ st.res.length + l.length := by
    intro l
    induction l with
    | nil => intro st; simp
    | cons e r ih =>
      intro st
      have h1 := ih (stripStep x st e)
      have h2 : (stripStep x st e).res.length ≤ st.res.length + 1 := by
        unfold stripStep
        split
        · split
          · simp
          · split <;> simp
        · simp
      simp only [List.foldl_cons, List.length_cons]; (first | lia | omega)
  have h1 := h ((escs x).take i) ⟨0, none, []⟩
  have h2 : ((escs x).take i).length ≤ i := by simp; (first | lia | omega)
  unfold stripAt
  simp only [List.length_nil] at h1
  (first | lia | omega)
theorem strip_parts (x : Str) (i : Nat) : ∀ y ∈ (stripAt x i).res, y.length ≤ x.length := by
  have h : ∀ (l : List (Int × Str)) (st : StripSt), (∀ y ∈ st.res, y.length ≤ x.length) → ∀ y ∈ (l.foldl (stripStep x) st).res, y.length ≤ x.length := by
    intro l
    induction l with
    | nil => intro st h; exact h
    | cons e r ih =>
      intro st h
      refine ih _ ?_
      unfold stripStep
      split
      · split
        · exact h
        · intro y hy
          split at hy
          · rcases List.mem_append.mp hy with hy | hy
            · exact h y hy
            · rw [List.mem_singleton.mp hy]; exact Txt.slice_le _ _ _
          · exact h y hy
      · exact h
  exact h _ _ (fun y hy => absurd hy (by simp))
theorem escGo_len : ∀ (l : List Nat) (i : Nat) (e : Bool), (escGo i e l).length ≤ l.length + 1
  | [], _, true => by simp [escGo]
  | [], _, false => by simp [escGo]
  | c :: r, i, true => by have := escGo_len r (i + 1) false; simp only [escGo, List.length_cons]; (first | lia | omega)
  | c :: r, i, false => by
    have h1 := escGo_len r (i + 1) false
    have h2 := escGo_len r (i + 1) true
    unfold escGo
    split <;> simp only [List.length_cons] <;> (first | lia | omega)
theorem escs_len (x : Str) : (escs x).length ≤ x.length + 1 := by
  have h := escGo_len x.cps.toList 0 false
  have e : x.cps.toList.length = x.length := by simp [Str.length]
  rw [e] at h
  exact h
theorem escGo_str : ∀ (l : List Nat) (i : Nat) (e : Bool) (k : Int) (c : Str), (k, c) ∈ escGo i e l → c.length ≤ 2
  | [], _, true, _, _, h => by simp [escGo] at h; rw [h.2]; decide
  | [], _, false, _, _, h => by simp [escGo] at h
  | d :: r, i, true, k, c, h => by
    simp only [escGo, List.mem_cons, Prod.mk.injEq] at h
    rcases h with ⟨_, h⟩ | h
    · rw [h]; exact Nat.le_refl 2
    · exact escGo_str r _ _ k c h
  | d :: r, i, false, k, c, h => by
    unfold escGo at h
    split at h
    · exact escGo_str r _ _ k c h
    · simp only [List.mem_cons, Prod.mk.injEq] at h
      rcases h with ⟨_, h⟩ | h
      · rw [h]; exact Nat.le_succ 1
      · exact escGo_str r _ _ k c h
theorem escs_str {x : Str} {i : Nat} {k : Int} {c : Str} (h : (escs x)[i]? = some (k, c)) : c.length ≤ 2 := escGo_str _ _ _ k c (List.mem_of_getElem? h)
theorem stripAt_succ {x : Str} {i : Nat} {k : Int} {c : Str} (h : (escs x)[i]? = some (k, c)) : stripAt x (i + 1) = stripStep x (stripAt x i) (k, c) := by
  unfold stripAt; rw [List.take_add_one, h]; simp
theorem d_strip (x : Str) (t : Tok) : Cl w p loose mean mg mb 2 53 [.str x t] (x.length ≤ 1000) (RetGS (stripped x)) := by
  dsimp only [Cl]; intros; rename_i hpre _ _ hret; refine wpAny_call ?_; (k_dflt cell_enter; (try walk_at "my fold")); obtain ⟨hAB, hret⟩ := hret; walk_at "my steps"
  · (have hocc : (Builtin.Str.occurrences x (S "\"") 0 x.length 1).isEmpty = true := by assumption)
    (have e1 : stripped x = x := if_pos hocc)
    rw [← e1]
    refine hret _ _ _ _ hAB ?_ ?_
    · k_asm
    · k_asm
  · rename Fr _ _ _ _ => lF
    rename News _ _ _ _ => lN
    (rename ∀ (p : Addr × Obj), p ∈ _ → p.1 < _ => l1)
    obtain ⟨m₀, hm₀, lF⟩ : ∃ m₀, m₀ = _ ∧ Fr _ _ _ m₀ := ⟨_, rfl, lF⟩
    refine' For_esc (keep := _) (stR x _ _ m₀) rfl ?hroom lF lN ?KX ?T ?hm hAB (fun q hq => hq) ⟨[], 0, m₀ (S "start"), m₀ (S "open_pos"), m₀ (S "pos"), m₀ (S "ch"), rfl, rfl, ?hst, ?hop, map4_self m₀ _ _ _ _⟩ ?hx ?hy ?ha ?hi ?hks ?turn ?done ?hE
    case hroom => walk_at "my room"
    case KX => k_asm
    case T => k_asm
    case hm => subst hm₀; exact rfl
    case hx => kernel_rfl
    case hy => kernel_rfl
    case ha => kernel_rfl
    case hi => kernel_rfl
    case hks => kernel_rfl
    case hE => passes_own
    case hst => subst hm₀; exact ⟨_, rfl⟩
    case hop => subst hm₀; exact ⟨0, rfl⟩
    case turn =>
      skip
      intro i k c u v m₁ nx h5 tk5 gens5 own5 hi5 ho5 hJ0 _ hAB5 F5 N5
      refine q_let ?_
      intro q9 e9
      obtain ⟨al, ep, vs, vo, vp, vc, hal, rfl, ⟨ts, rfl⟩, ⟨to, rfl⟩, rfl⟩ := hJ0
      subst hm₀
      simp only [List.cons_append, List.nil_append] at N5
      have hne5 : ∀ q ∈ _ ++ own5, q.1 ≠ _ := led_ne l1 ho5
      have hxl := escs_str hi5
      have hsu := stripAt_succ hi5
      have hall : al.length ≤ 20000 := by
        have h1 := strip_len x i
        have h2 := escs_len x
        have h3 : i < (escs x).length := (List.getElem?_eq_some_iff.mp hi5).1
        rw [← hal, List.length_map] at h1
        (first | lia | omega)
      by_cases hq : c = S "\""
      · have b1 : (c == Str.ofString "\"") = true := by simpa using hq
        rcases hop : (stripAt x i).op with _ | o
        · rw [hop, show opV none to = Value.none from rfl] at F5
          have hst : stripAt x (i + 1) = ⟨(stripAt x i).start, some k, (stripAt x i).res⟩ := by rw [hsu]; exact strip_st1 hq hop
          refine fr_let F5 ?_
          clear F5
          intro m9 F6
          walk_at "my steps"
          refine InvEndN.intro (by k_asm) (by k_asm) (stR_mk (al) _ ?hr ?hs ?ho ?hm) rfl (by walk_at "my all") (by intro p hp; walk_at "my in")
          case hm => exact fun z h1 h2 h3 h4 => by walk_at "my off"
          case hr => rw [hst, hal]
          case hs => rw [hst]; exact ⟨_, rfl⟩
          case ho => rw [hst]; exact ⟨_, rfl⟩
        · rw [hop, show opV (some o) to = Value.int o to from rfl] at F5
          have hst : stripAt x (i + 1) = ⟨k + 1, none, if (stripAt x i).start ≠ o then (stripAt x i).res ++ [Txt.slice x (some (stripAt x i).start) (some o)] else (stripAt x i).res⟩ := by rw [hsu]; exact strip_st2 hq hop
          refine fr_let F5 ?_
          clear F5
          intro m9 F6
          walk_at "my steps"
          · have hne : (stripAt x i).start ≠ o := by assumption
            refine InvEndN.intro (by k_asm) (by k_asm) (stR_mk2 al _ _ _ ?hr ?hs ?ho ?hm) rfl (by walk_at "my all") (by intro p hp; walk_at "my in")
            case hm => exact fun z h1 h2 h3 h4 => by walk_at "my off"
            case hr => rw [hst, hal]; exact (if_pos hne).symm
            case hs => rw [hst]; exact ⟨_, rfl⟩
            case ho => rw [hst]; exact ⟨0, rfl⟩
          · have hne : ¬ (stripAt x i).start ≠ o := fun h => h (by assumption)
            refine InvEndN.intro (by k_asm) (by k_asm) (stR_mk (al) _ ?hr ?hs ?ho ?hm) rfl (by walk_at "my all") (by intro p hp; walk_at "my in")
            case hm => exact fun z h1 h2 h3 h4 => by walk_at "my off"
            case hr => rw [hst, hal]; exact (if_neg hne).symm
            case hs => rw [hst]; exact ⟨_, rfl⟩
            case ho => rw [hst]; exact ⟨0, rfl⟩
      · have b1 : (c == Str.ofString "\"") = false := by simpa using hq
        have hst : stripAt x (i + 1) = stripAt x i := by rw [hsu]; exact strip_st3 hq
        refine fr_let F5 ?_
        clear F5
        intro m9 F6
        walk_at "my steps"
        refine InvEndN.intro (by k_asm) (by k_asm) (stR_mk (al) _ ?hr ?hs ?ho ?hm) rfl (by walk_at "my all") (by intro p hp; walk_at "my in")
        case hm => exact fun z h1 h2 h3 h4 => by walk_at "my off"
        case hr => rw [hst, hal]
        case hs => rw [hst]; exact ⟨_, rfl⟩
        case ho => rw [hst]; exact ⟨_, rfl⟩
    case done =>
      rintro m₁ nx h5 tk5 gens5 ⟨al, ep, vs, vo, vp, vc, hal, rfl, ⟨ts, rfl⟩, ⟨to, rfl⟩, rfl⟩ _ hAB5 F5 N5
      subst hm₀
      have hall : al.length ≤ 1001 := by
        have h1 := strip_len x (escs x).length
        have h2 := escs_len x
        rw [← hal, List.length_map] at h1
        (first | lia | omega)
      have hend : stripAt x (escs x).length = stripEnd x := by unfold stripAt stripEnd; rw [List.take_length]
      rw [hend] at F5 hal
      have hparts : ∀ y ∈ al.map (·.1), y.length ≤ 4000 := fun y hy => by
        rw [hal, ← hend] at hy
        exact Nat.le_trans (strip_parts x _ y hy) (Nat.le_trans hpre (by decide))
      have hocc : ¬ ((Builtin.Str.occurrences x (S "\"") 0 x.length 1).isEmpty = true) := by
        rw [show (Builtin.Str.occurrences x (S "\"") 0 x.length 1).isEmpty = false by assumption]; exact Bool.false_ne_true
      walk_at "my steps"
      · have hlt : (stripEnd x).start < (x.length : Int) := by assumption
        have e1 : stripped x = Txt.join (S "") (List.map (fun x => x.fst) al ++ [Txt.slice x (some (stripEnd x).start) none]) := by
          rw [show stripped x = Txt.join (S "") (stripRes x) from if_neg hocc, hal, show stripRes x = (stripEnd x).res ++ [Txt.slice x (some (stripEnd x).start) none] from if_pos hlt]
        have hret2 := hret
        rw [e1] at hret2
        refine hret2 _ _ _ _ hAB5 ?_ ?_
        · k_asm
        · walk_at "my news"
      · have hlt : ¬ ((stripEnd x).start < (x.length : Int)) := by (first | lia | omega)
        have e1 : stripped x = Txt.join (S "") (List.map (fun x => x.fst) al) := by
          rw [show stripped x = Txt.join (S "") (stripRes x) from if_neg hocc, hal, show stripRes x = (stripEnd x).res from if_neg hlt]
        have hret2 := hret
        rw [e1] at hret2
        refine hret2 _ _ _ _ hAB5 ?_ ?_
        · k_asm
        · walk_at "my news"

end

noncomputable section
open PySem PySem.W PyProof.Rows PySem.Calls PySem.Spec Mine
variable {w : World} {p : Program} {loose : List Str} {mean : ExcName → Option Value} {mg mb : Str → Option Value}
set_option maxHeartbeats 4000000
set_option rowWalk.seconds 0
theorem rows2 : True := by
  k_with_none
  k_with "my fits" => (first | with_reducible assumption | (simp only [sizeLine_eq] at *; omega))
  k_with "call builtin:issubclass" => (k_here; (with_reducible show wpAny _ _ (call (Value.builtin "issubclass") [Value.type "str", Value.ref _]) _ _ _); (refine' call_issub (isTup_of (by k_asm) (by news_mem)) ?_))
  k_with "my size" => (first | with_reducible assumption | (simp only [strValues, List.size_toArray, List.length_map, List.length_append, List.length_cons, List.length_nil, sizeLine_eq]; omega))
  k_with "call builtin:list.append" => (k_here; (with_reducible show wpAny _ _ (call (Value.builtin _) [Value.ref _, _]) _ _ _); k_dflt (refine' append_K (by k_asm) (by k_asm) (by k_upd) ?_ (by walk_at "my size"); k_whole); intro _ _ _)
  k_with "truthy ref" => (k_here; (with_reducible show wpAny _ _ (truthy (Value.ref _)) _ _ _); refine' truthy_L (by exact isL_of (by with_reducible assumption) (by walk_at "my mem")) (by walk_at "my size") ?_ ?_; intro _ _)
  k_with "call builtin:list.pop" => (k_here; (try dsimp only); k_dflt (refine' pop_L (by k_asm) (by k_asm) (by k_upd) (by walk_at "my size") ?_); intro _ _ _)
  k_with "subscriptTail Name UnaryOp ref int" => (k_here; (with_reducible show wpAny _ _ (subscriptTail _ _ (Value.ref _) (Value.int (-1) _)) _ _ _); refine' item_last (by exact isL_of (by with_reducible assumption) (by walk_at "my mem")) (by walk_at "my size") (by exact List.getLast?_concat) ?_ (by with_unfolding_all rfl))
  k_with "truthy ref" => (k_here; (with_reducible show wpAny _ _ (truthy (Value.ref _)) _ _ _); refine' truthy_L1 (by exact isL_of (by with_reducible assumption) (by walk_at "my mem")) (by walk_at "my size") ?_; intro _)
  k_with "call builtin:str.join" => (k_here; (with_reducible show wpAny _ _ (call (Value.builtin "str.join") [Value.str _ _, Value.ref _]) _ _ _); first
  | (refine' my_join (by exact isL_of (by with_reducible assumption) (by walk_at "my mem")) (by decide +kernel) (by omega) (by walk_at "my parts") ?_; intro _ _)
  | (refine' my_join2 (by exact isL_of (by with_reducible assumption) (by walk_at "my mem")) (by decide +kernel) (by omega) (by walk_at "my parts") (by walk_at "my len") ?_; intro _ _))
  k_with "my mem" => (with_reducible (first | exact List.mem_cons_self | (refine List.mem_cons_of_mem _ ?_; walk_at "my mem")))
  k_with "my parts" => (assumption)
  k_with "my len" => (first | (simp only []; omega) | omega)
  k_with "my in" => (first | with_reducible assumption | with_reducible exact List.mem_cons_self | with_reducible exact List.mem_append_left _ (by with_reducible assumption) | with_reducible exact List.mem_append_right _ (by with_reducible assumption) | ((with_reducible refine List.mem_cons_of_mem _ ?_); walk_at "my in"))
  k_with "my all" => (first | with_reducible exact List.forall_mem_nil _ | ((with_reducible refine List.forall_mem_cons.mpr ⟨by walk_at "my mem", ?_⟩); walk_at "my all") | (intro _ _; walk_at "my in"))
  k_with "my news" => (first | with_reducible assumption | (refine' news_sub (by with_reducible assumption) (by intro _ _; walk_at "my in")))
  k_with "my led" => ((try simp only [List.cons_append]); with_reducible assumption)
  k_with "my slice" => (k_here; (with_reducible show wpAny _ _ (subscriptTail _ (PySem.Expr.Slice _ _ none _) (Value.ref _) (Value.ref _)) _ _ _); k_dflt (refine' kmk_slice (by k_asm) (by k_asm) (by exact isL_of (by with_reducible assumption) (by walk_at "my mem")) (by kmk_part) (by kmk_part) ?_ (by with_unfolding_all rfl) (by kmk_pure) (by first | walk_at "my size" | (simp only [List.size_toArray, intVals, List.length_map]; rw [sizeLine_eq]; omega))); intro _ _ _ _ _)
  k_with "my fold" => (refine fold_ae ?_; intro _ _)
  k_with "storeName" => (k_here; k_dflt (refine' store_let (by k_asm) (by k_asm) ?_ (by rfl) (by rfl); k_whole; intro _ _ _ _ _ _; (try k_sweep)))
  k_with "exec If" => (k_here; (refine if_let ?_); intro _)
  k_with "execs cons" => (k_here; (refine cons_let ?_); intro _ _ _ _)
  k_with "execs cons" => (k_here; (with_reducible show wpAny _ _ (execs (_ :: []) _) _ _ _); (refine execs_1 ?_); intro _ _ _)
  k_with "execs cons" => (k_here; k_gentoks; (refine st_let2 ?_); intro _)
  k_with "my room" => (k_dflt (first | exact room1 (k := 1) rfl rfl (by with_reducible assumption) | exact room1 (k := 2) rfl rfl (by with_reducible assumption) | exact room1 (k := 3) rfl rfl (by with_reducible assumption) | exact room0 (k := 1) rfl rfl (by with_reducible assumption) | exact room0 (k := 2) rfl rfl (by with_reducible assumption) | exact room0 (k := 3) rfl rfl (by with_reducible assumption) | ktr_room | (show Around.depth (Around.deeper _ _) + _ < recursionLimit; first | ktr_room) | (show Around.depth (Around.deeper _ _) < recursionLimit; first | ktr_room)))
  k_with "my units" => (k_dflt (first | exact unit1 (k := 3) rfl rfl (by with_reducible assumption) | exact unit1 (k := 4) rfl rfl (by with_reducible assumption) | exact unit1 (k := 5) rfl rfl (by with_reducible assumption) | exact unit1 (k := 6) rfl rfl (by with_reducible assumption) | exact unit1 (k := 7) rfl rfl (by with_reducible assumption) | exact unit1 (k := 8) rfl rfl (by with_reducible assumption) | exact unit0 (k := 3) rfl rfl (by with_reducible assumption) | exact unit0 (k := 6) rfl rfl (by with_reducible assumption) | ktr_units | (show Around.units (Around.deeper _ _) + _ < cLine; first | ktr_units)))
  k_with "my steps" => (repeat' (first | ((fail_if_success (fail_if_success k_unfold)); (first | (show wpAny _ _ _ _ _ _) | (k_unfold; (try dsimp only)))) | (k_end; wrow_close) | walk1 | (dsimp only; walk1) | (leave1; (try dsimp only)) | fail "no step"))
  k_with "my off" => (first | with_reducible exact rfl | ((refine map_off ?_ ?_); (next => assumption); walk_at "my off") | exact rfl)
  trivial

set_option maxHeartbeats 4000000
theorem rows3 : True := by
  k_with "call ref" => (k_here; (with_reducible show wpAny _ _ (call (Value.ref 53) [Value.str _ _]) _ _ _); refine' use_claim (d_strip _ _) (by k_asm) (by k_asm) (by k_asm) (by k_asm) (by k_asm) (by first | exact rfl | assumption) (by (assumption)) (by walk_at "my room") (by walk_at "my units") ?_; (dsimp only [RetGS]; refine ⟨by assumption, ?_⟩; intro _ _ _ _ _ _ _); (try dsimp only); (try k_fold))
  trivial

noncomputable def checkGo : Int → List (Int × Str) → Option Int
  | o, [] => some o
  | o, (_, c) :: r => if c = S "(" then checkGo (o + 1) r else if c = S ")" then (if o - 1 < 0 then none else checkGo (o - 1) r) else checkGo o r
noncomputable def checked (x : Str) : Bool := match checkGo 0 (escs (stripped x)) with
  | none => false
  | some o => decide (o = 0)
noncomputable def ckR (x : Str) (rest : List (Addr × Obj)) (mb : Str → Option Value) (i : Nat) (m : Str → Option Value) (nx : List (Addr × Obj)) : Prop :=
  ∃ (o : Int) (vs vp vc : Option Value), checkGo 0 (escs x) = checkGo o ((escs x).drop i) ∧ nx = rest ∧ (∃ ts, vs = some (.int o ts)) ∧
    m = fun z => if z = S "opens" then vs else if z = S "ch" then vc else if z = S "pos" then vp else mb z
theorem ckR_mk {x : Str} {rest : List (Addr × Obj)} {mb m' : Str → Option Value} {i : Nat} (o : Int) (hr : checkGo 0 (escs x) = checkGo o ((escs x).drop i)) (hs : ∃ ts, m' (S "opens") = some (.int o ts))
    (h : ∀ z, z ≠ S "opens" → z ≠ S "ch" → z ≠ S "pos" → m' z = mb z) : ckR x rest mb i m' rest :=
  ⟨o, _, _, _, hr, rfl, hs, map3_ext rfl rfl rfl h⟩
theorem drop_at {α : Type} {l : List α} {i : Nat} {a : α} (h : l[i]? = some a) : l.drop i = a :: l.drop (i + 1) := by
  obtain ⟨hi, e⟩ := List.getElem?_eq_some_iff.mp h
  rw [List.drop_eq_getElem_cons hi, e]
theorem d_check (x : Str) (t : Tok) : Cl w p loose mean mg mb 3 60 [.str x t] (x.length ≤ 1000) (RetGB (checked x)) := by
  dsimp only [Cl]; intros; rename_i hpre _ _ hret; refine wpAny_call ?_; (k_dflt cell_enter; (try walk_at "my fold")); obtain ⟨hAB, hret⟩ := hret; walk_at "my steps"
  rename Fr _ _ _ _ => lF
  rename News _ _ _ _ => lN
  obtain ⟨m₀, hm₀, lF⟩ : ∃ m₀, m₀ = _ ∧ Fr _ _ _ m₀ := ⟨_, rfl, lF⟩
  refine' For_esc (keep := _) (ckR (stripped x) _ m₀) rfl ?hroom lF lN ?KX ?T ?hm (by assumption) (fun q hq => hq) ⟨0, m₀ (S "opens"), m₀ (S "pos"), m₀ (S "ch"), rfl, rfl, ?hst, map3_self m₀ _ _ _⟩ ?hx ?hy ?ha ?hi ?hks ?turn ?done ?hE
  case hroom => walk_at "my room"
  case KX => k_asm
  case T => k_asm
  case hm => subst hm₀; exact rfl
  case hx => kernel_rfl
  case hy => kernel_rfl
  case ha => kernel_rfl
  case hi => kernel_rfl
  case hks => kernel_rfl
  case hE => passes_own
  case hst => subst hm₀; exact ⟨_, rfl⟩
  case turn =>
    intro i k c u v m₁ nx h5 tk5 gens5 own5 hi5 ho5 hJ0 _ hAB5 F5 N5
    refine q_let ?_
    intro q9 e9
    obtain ⟨o, vs, vp, vc, hgo, rfl, ⟨ts, rfl⟩, rfl⟩ := hJ0
    subst hm₀
    have hxl := escs_str hi5
    rw [drop_at hi5] at hgo
    by_cases hq : c = S "("
    · have b1 : (c == Str.ofString "(") = true := by simpa using hq
      walk_at "my steps"
      refine InvEndN.intro (by k_asm) (by k_asm) (ckR_mk (o + 1) ?hr ?hs ?hm) rfl (by walk_at "my all") (by intro p hp; walk_at "my in")
      case hm => exact fun z h1 h2 h3 => by walk_at "my off"
      case hs => exact ⟨_, rfl⟩
      case hr => rw [hgo]; simp only [checkGo, if_pos hq]
    · have b1 : (c == Str.ofString "(") = false := by simpa using hq
      by_cases hq2 : c = S ")"
      · have b2 : (c == Str.ofString ")") = true := by simpa using hq2
        walk_at "my steps"
        · have hlt : o - 1 < 0 := by assumption
          have e1 : checked x = false := by
            unfold checked
            rw [hgo]; simp only [checkGo, if_neg hq, if_pos hq2, if_pos hlt]
          rw [e1] at hret
          refine hret _ _ _ hAB5 ?_ ?_
          · k_asm
          · walk_at "my news"
        · have hlt : ¬ (o - 1 < 0) := by first | assumption | omega
          refine InvEndN.intro (by k_asm) (by k_asm) (ckR_mk (o - 1) ?hr ?hs ?hm) rfl (by walk_at "my all") (by intro p hp; walk_at "my in")
          case hm => exact fun z h1 h2 h3 => by walk_at "my off"
          case hs => exact ⟨_, rfl⟩
          case hr => rw [hgo]; simp only [checkGo, if_neg hq, if_pos hq2, if_neg hlt]
      · have b2 : (c == Str.ofString ")") = false := by simpa using hq2
        walk_at "my steps"
        refine InvEndN.intro (by k_asm) (by k_asm) (ckR_mk (o) ?hr ?hs ?hm) rfl (by walk_at "my all") (by intro p hp; walk_at "my in")
        case hm => exact fun z h1 h2 h3 => by walk_at "my off"
        case hs => exact ⟨_, rfl⟩
        case hr => rw [hgo]; simp only [checkGo, if_neg hq, if_neg hq2]
  case done =>
    rintro m₁ nx h5 tk5 gens5 ⟨o, vs, vp, vc, hgo, rfl, ⟨ts, rfl⟩, rfl⟩ _ hAB5 F5 N5
    subst hm₀
    rw [List.drop_length] at hgo
    walk_at "my steps"
    have e1 : checked x = (o == 0) := by
      unfold checked
      rw [hgo]
      simp only [checkGo]
      by_cases h0 : o = 0
      · subst h0; rfl
      · rw [decide_eq_false h0]; symm; simpa using h0
    rw [e1] at hret
    refine hret _ _ _ hAB5 ?_ ?_
    · k_asm
    · walk_at "my news"

end

noncomputable section
open PySem PySem.W PyProof.Rows PySem.Calls PySem.Spec Mine
variable {w : World} {p : Program} {loose : List Str} {mean : ExcName → Option Value} {mg mb : Str → Option Value}
set_option maxHeartbeats 4000000
set_option rowWalk.seconds 0
theorem rows4 : True := by
  k_with_none
  k_with "my fits" => (first | with_reducible assumption | (simp only [sizeLine_eq] at *; omega))
  k_with "call builtin:issubclass" => (k_here; (with_reducible show wpAny _ _ (call (Value.builtin "issubclass") [Value.type "str", Value.ref _]) _ _ _); (refine' call_issub (isTup_of (by k_asm) (by news_mem)) ?_))
  k_with "my size" => (first | with_reducible assumption | (simp only [strValues, List.size_toArray, List.length_map, List.length_append, List.length_cons, List.length_nil, sizeLine_eq]; omega))
  k_with "call builtin:list.append" => (k_here; (with_reducible show wpAny _ _ (call (Value.builtin _) [Value.ref _, _]) _ _ _); k_dflt (refine' append_K (by k_asm) (by k_asm) (by k_upd) ?_ (by walk_at "my size"); k_whole); intro _ _ _)
  k_with "truthy ref" => (k_here; (with_reducible show wpAny _ _ (truthy (Value.ref _)) _ _ _); refine' truthy_L (by exact isL_of (by with_reducible assumption) (by walk_at "my mem")) (by walk_at "my size") ?_ ?_; intro _ _)
  k_with "call builtin:list.pop" => (k_here; (try dsimp only); k_dflt (refine' pop_L (by k_asm) (by k_asm) (by k_upd) (by walk_at "my size") ?_); intro _ _ _)
  k_with "subscriptTail Name UnaryOp ref int" => (k_here; (with_reducible show wpAny _ _ (subscriptTail _ _ (Value.ref _) (Value.int (-1) _)) _ _ _); refine' item_last (by exact isL_of (by with_reducible assumption) (by walk_at "my mem")) (by walk_at "my size") (by exact List.getLast?_concat) ?_ (by with_unfolding_all rfl))
  k_with "truthy ref" => (k_here; (with_reducible show wpAny _ _ (truthy (Value.ref _)) _ _ _); refine' truthy_L1 (by exact isL_of (by with_reducible assumption) (by walk_at "my mem")) (by walk_at "my size") ?_; intro _)
  k_with "call builtin:str.join" => (k_here; (with_reducible show wpAny _ _ (call (Value.builtin "str.join") [Value.str _ _, Value.ref _]) _ _ _); first
  | (refine' my_join (by exact isL_of (by with_reducible assumption) (by walk_at "my mem")) (by decide +kernel) (by omega) (by walk_at "my parts") ?_; intro _ _)
  | (refine' my_join2 (by exact isL_of (by with_reducible assumption) (by walk_at "my mem")) (by decide +kernel) (by omega) (by walk_at "my parts") (by walk_at "my len") ?_; intro _ _))
  k_with "my mem" => (with_reducible (first | exact List.mem_cons_self | (refine List.mem_cons_of_mem _ ?_; walk_at "my mem")))
  k_with "my parts" => (assumption)
  k_with "my len" => (first | (simp only []; omega) | omega)
  k_with "my in" => (first | with_reducible assumption | with_reducible exact List.mem_cons_self | with_reducible exact List.mem_append_left _ (by with_reducible assumption) | with_reducible exact List.mem_append_right _ (by with_reducible assumption) | ((with_reducible refine List.mem_cons_of_mem _ ?_); walk_at "my in"))
  k_with "my all" => (first | with_reducible exact List.forall_mem_nil _ | ((with_reducible refine List.forall_mem_cons.mpr ⟨by walk_at "my mem", ?_⟩); walk_at "my all") | (intro _ _; walk_at "my in"))
  k_with "my news" => (first | with_reducible assumption | (refine' news_sub (by with_reducible assumption) (by intro _ _; walk_at "my in")))
  k_with "my led" => ((try simp only [List.cons_append]); with_reducible assumption)
  k_with "my slice" => (k_here; (with_reducible show wpAny _ _ (subscriptTail _ (PySem.Expr.Slice _ _ none _) (Value.ref _) (Value.ref _)) _ _ _); k_dflt (refine' kmk_slice (by k_asm) (by k_asm) (by exact isL_of (by with_reducible assumption) (by walk_at "my mem")) (by kmk_part) (by kmk_part) ?_ (by with_unfolding_all rfl) (by kmk_pure) (by first | walk_at "my size" | (simp only [List.size_toArray, intVals, List.length_map]; rw [sizeLine_eq]; omega))); intro _ _ _ _ _)
  k_with "my fold" => (refine fold_ae ?_; intro _ _)
  k_with "storeName" => (k_here; k_dflt (refine' store_let (by k_asm) (by k_asm) ?_ (by rfl) (by rfl); k_whole; intro _ _ _ _ _ _; (try k_sweep)))
  k_with "exec If" => (k_here; (refine if_let ?_); intro _)
  k_with "execs cons" => (k_here; (refine cons_let ?_); intro _ _ _ _)
  k_with "execs cons" => (k_here; (with_reducible show wpAny _ _ (execs (_ :: []) _) _ _ _); (refine execs_1 ?_); intro _ _ _)
  k_with "execs cons" => (k_here; k_gentoks; (refine st_let2 ?_); intro _)
  k_with "my room" => (k_dflt (first | exact room1 (k := 1) rfl rfl (by with_reducible assumption) | exact room1 (k := 2) rfl rfl (by with_reducible assumption) | exact room1 (k := 3) rfl rfl (by with_reducible assumption) | exact room0 (k := 1) rfl rfl (by with_reducible assumption) | exact room0 (k := 2) rfl rfl (by with_reducible assumption) | exact room0 (k := 3) rfl rfl (by with_reducible assumption) | ktr_room | (show Around.depth (Around.deeper _ _) + _ < recursionLimit; first | ktr_room) | (show Around.depth (Around.deeper _ _) < recursionLimit; first | ktr_room)))
  k_with "my units" => (k_dflt (first | exact unit1 (k := 3) rfl rfl (by with_reducible assumption) | exact unit1 (k := 4) rfl rfl (by with_reducible assumption) | exact unit1 (k := 5) rfl rfl (by with_reducible assumption) | exact unit1 (k := 6) rfl rfl (by with_reducible assumption) | exact unit1 (k := 7) rfl rfl (by with_reducible assumption) | exact unit1 (k := 8) rfl rfl (by with_reducible assumption) | exact unit0 (k := 3) rfl rfl (by with_reducible assumption) | exact unit0 (k := 6) rfl rfl (by with_reducible assumption) | ktr_units | (show Around.units (Around.deeper _ _) + _ < cLine; first | ktr_units)))
  k_with "my steps" => (repeat' (first | ((fail_if_success (fail_if_success k_unfold)); (first | (show wpAny _ _ _ _ _ _) | (k_unfold; (try dsimp only)))) | (k_end; wrow_close) | walk1 | (dsimp only; walk1) | (leave1; (try dsimp only)) | fail "no step"))
  k_with "my off" => (first | with_reducible exact rfl | ((refine map_off ?_ ?_); (next => assumption); walk_at "my off") | exact rfl)
  trivial
theorem d_fspath (x : Str) (t : Tok) : Cl w p loose mean mg mb 1 133 [.str x t] True (RetS x) := by
  dsimp only [Cl]; intros; rename_i hpre _ _ hret; refine wpAny_call ?_; (k_dflt cell_enter; (try walk_at "my fold")); walk_at "my steps"; all_goals ((refine' hret _ _ _ ?e2 ?e3; (case e2 => k_asm); (case e3 => walk_at "my news")))
theorem d_get_sep (x : Str) (t : Tok) : Cl w p loose mean mg mb 1 147 [.str x t] True (RetS (Str.ofString "/")) := by
  dsimp only [Cl]; intros; rename_i hpre _ _ hret; refine wpAny_call ?_; (k_dflt cell_enter; (try walk_at "my fold")); walk_at "my steps"; all_goals ((refine' hret _ _ _ ?e2 ?e3; (case e2 => k_asm); (case e3 => walk_at "my news")))
theorem rows5 : True := by
  k_with "call ref" => (k_here; (with_reducible show wpAny _ _ (call (Value.ref 133) [Value.str _ _]) _ _ _); refine' use_claim (d_fspath _ _) (by k_asm) (by k_asm) (by k_asm) (by k_asm) (by k_asm) (by first | exact rfl | assumption) (by (trivial)) (by walk_at "my room") (by walk_at "my units") ?_; (dsimp only [RetS]; intro _ _ _ _ _); (try dsimp only); (try k_fold))
  k_with "call ref" => (k_here; (with_reducible show wpAny _ _ (call (Value.ref 147) [Value.str _ _]) _ _ _); refine' use_claim (d_get_sep _ _) (by k_asm) (by k_asm) (by k_asm) (by k_asm) (by k_asm) (by first | exact rfl | assumption) (by (trivial)) (by walk_at "my room") (by walk_at "my units") ?_; (dsimp only [RetS]; intro _ _ _ _ _); (try dsimp only); (try k_fold))
  trivial

theorem d_splitroot (x : Str) (t : Tok) : Cl w p loose mean mg mb 2 161 [.str x t] (x.length ≤ 10000 ∧ Txt.slice x none (some 1) = Str.ofString "/" ∧ Txt.slice x (some 1) (some 2) ≠ Str.ofString "/")
    (RetN fun a t t' t'' => [(a, { cls := .type "tuple", data := .seq #[.str (Str.ofString "") t, .str (Str.ofString "/") t', .str (Txt.slice x (some 1) none) t''] })]) := by
  dsimp only [Cl]; intros; rename_i hpre _ _ hret; refine wpAny_call ?_; (k_dflt cell_enter; (try walk_at "my fold")); obtain ⟨hx, hx1, hx2⟩ := hpre; walk_at "my steps"
  all_goals first
    | exact absurd (show (Txt.slice x none (some 1) != Str.ofString "/") = true by assumption) (by rw [hx1]; decide)
    | exact absurd (show (Txt.slice x (some 1) (some 2) != Str.ofString "/") = false by assumption) (by simpa using hx2)
    | (refine' hret _ _ _ _ _ _ ?e2 ?e3; (case e2 => k_asm); (case e3 => k_asm))
theorem rows6 : True := by
  k_with "call ref" => (k_here; (with_reducible show wpAny _ _ (call (Value.ref 161) [Value.str _ _]) _ _ _); refine' use_claim (d_splitroot _ _) (by k_asm) (by k_asm) (by k_asm) (by k_asm) (by k_asm) (by first | exact rfl | assumption) (by (refine' ⟨?_, ?_, ?_⟩ <;> first | assumption | omega)) (by walk_at "my room") (by walk_at "my units") ?_; (dsimp only [RetN]; intro _ _ _ _ _ _ _ N9; (try dsimp only [List.cons_append, List.nil_append] at N9)); (try dsimp only); (try k_fold))
  trivial

noncomputable def jn (a b : Str) : Str := if Txt.endswith a (Str.ofString "/") = true then a ++ b else a ++ (Str.ofString "/" ++ b)
theorem d_join (a b : Str) (t u : Tok) : Cl w p loose mean mg mb 2 154 [.str a t, .str b u] (a.length ≤ 1000 ∧ b.length ≤ 1000 ∧ (a.length : Int) ≠ 0 ∧ Txt.startswith b (Str.ofString "/") = false) (RetS (jn a b)) := by
  dsimp only [Cl]; intros; rename_i hpre _ _ hret; refine wpAny_call ?_; k_dflt (refine' kp_rest ?k1 ?k2 ?k3 ?k4 ?k5 ?kA ?kF ?kK ?k6 ?k7 ?k8 ?kV ?kP ?kG ?kB ?_ ?c2 ?c3 ?c4 ?c5; (case kA => exact rfl); (case kF => exact rfl); (case kK => assumption); (case k1 => k_asm); (case k2 => k_asm); (case k3 => k_asm); (case k4 => k_asm); (case k5 => k_asm); (case k6 => k_is); (case k7 => k_is); (case k8 => walk_at "my room"); (case kV => kl_lit); (case kP => exact rfl); (case kG => exact fun _ => rfl); (case kB => exact fun _ => locs rfl); (case c5 => decide); (case c2 => exact rfl); (case c3 => exact rfl); (case c4 => exact rfl); k_whole; intro D' g' L' h' l1 FG' F' N' B' X' T'; (try k_lt l1); (try dsimp only); (try k_lift B'); (try k_fold); (try walk_at "my fold")); obtain ⟨h1, h2, h3, h4⟩ := hpre; walk_at "my steps"
  rename Fr _ _ _ _ => lF
  rename News _ _ _ _ => lN
  obtain ⟨m₀, hm₀, lF⟩ : ∃ m₀, m₀ = _ ∧ Fr _ _ _ m₀ := ⟨_, rfl, lF⟩
  refine wpAny_mono (E := fun _ _ => False) ?_ (fun _ _ x => x) (fun _ _ x => x.elim)
  refine' For_tup1 (G := fun g => g = _) (keep := _) (fun m => ∃ t, m (S "path") = some (.str (jn a b) t)) rfl lF lN List.mem_cons_self ?hm (fun q hq => List.mem_cons_of_mem _ hq) rfl ?hx ?hy ?hks ?hd ?turn ?done ?hE
  case hm => subst hm₀; exact rfl
  case hx => kernel_rfl
  case hy => kernel_rfl
  case hks => kernel_rfl
  case hd => decide +kernel
  case hE => passes_own
  case turn =>
    rintro h5 tk5 gens5 own5 hg F5 N5
    subst hm₀
    walk_at "my steps"
    · refine EndG.intro hg (by k_asm) (by k_asm) ⟨?_, rfl⟩ rfl (by walk_at "my all") (by intro p8 hp8; walk_at "my in")
      rw [show jn a b = a ++ b from if_pos (by assumption)]; exact ⟨_, rfl⟩
    · refine EndG.intro hg (by k_asm) (by k_asm) ⟨?_, rfl⟩ rfl (by walk_at "my all") (by intro p8 hp8; walk_at "my in")
      rw [show jn a b = a ++ (Str.ofString "/" ++ b) from if_neg (by rw [show Txt.endswith a (Str.ofString "/") = false by assumption]; exact Bool.false_ne_true)]; exact ⟨_, rfl⟩
    · exact absurd (show (a.length : Int) = 0 by assumption) h3
  case done =>
    rintro m₁ h5 tk5 gens5 ⟨t5, hp5⟩ hg F5 N5
    subst hg
    replace F5 := fr1 F5 hp5
    walk_at "my steps"
    (refine' hret _ _ _ ?e2 ?e3; (case e2 => k_asm); (case e3 => walk_at "my news"))

end

noncomputable section
open PySem PySem.W PyProof.Rows PySem.Calls PySem.Spec Mine
variable {w : World} {p : Program} {loose : List Str} {mean : ExcName → Option Value} {mg mb : Str → Option Value}
set_option maxHeartbeats 4000000
set_option rowWalk.seconds 0
theorem rows7 : True := by
  k_with_none
  k_with "my fits" => (first | with_reducible assumption | (simp only [sizeLine_eq] at *; omega))
  k_with "call builtin:issubclass" => (k_here; (with_reducible show wpAny _ _ (call (Value.builtin "issubclass") [Value.type "str", Value.ref _]) _ _ _); (refine' call_issub (isTup_of (by k_asm) (by news_mem)) ?_))
  k_with "my size" => (first | with_reducible assumption | (simp only [strValues, List.size_toArray, List.length_map, List.length_append, List.length_cons, List.length_nil, sizeLine_eq]; omega))
  k_with "call builtin:list.append" => (k_here; (with_reducible show wpAny _ _ (call (Value.builtin _) [Value.ref _, _]) _ _ _); k_dflt (refine' append_K (by k_asm) (by k_asm) (by k_upd) ?_ (by walk_at "my size"); k_whole); intro _ _ _)
  k_with "truthy ref" => (k_here; (with_reducible show wpAny _ _ (truthy (Value.ref _)) _ _ _); refine' truthy_L (by exact isL_of (by with_reducible assumption) (by walk_at "my mem")) (by walk_at "my size") ?_ ?_; intro _ _)
  k_with "call builtin:list.pop" => (k_here; (try dsimp only); k_dflt (refine' pop_L (by k_asm) (by k_asm) (by k_upd) (by walk_at "my size") ?_); intro _ _ _)
  k_with "subscriptTail Name UnaryOp ref int" => (k_here; (with_reducible show wpAny _ _ (subscriptTail _ _ (Value.ref _) (Value.int (-1) _)) _ _ _); refine' item_last (by exact isL_of (by with_reducible assumption) (by walk_at "my mem")) (by walk_at "my size") (by exact List.getLast?_concat) ?_ (by with_unfolding_all rfl))
  k_with "truthy ref" => (k_here; (with_reducible show wpAny _ _ (truthy (Value.ref _)) _ _ _); refine' truthy_L1 (by exact isL_of (by with_reducible assumption) (by walk_at "my mem")) (by walk_at "my size") ?_; intro _)
  k_with "call builtin:str.join" => (k_here; (with_reducible show wpAny _ _ (call (Value.builtin "str.join") [Value.str _ _, Value.ref _]) _ _ _); first
  | (refine' my_join (by exact isL_of (by with_reducible assumption) (by walk_at "my mem")) (by decide +kernel) (by omega) (by walk_at "my parts") ?_; intro _ _)
  | (refine' my_join2 (by exact isL_of (by with_reducible assumption) (by walk_at "my mem")) (by decide +kernel) (by omega) (by walk_at "my parts") (by walk_at "my len") ?_; intro _ _))
  k_with "my mem" => (with_reducible (first | exact List.mem_cons_self | (refine List.mem_cons_of_mem _ ?_; walk_at "my mem")))
  k_with "my parts" => (assumption)
  k_with "my len" => (first | (simp only []; omega) | omega)
  k_with "my in" => (first | with_reducible assumption | with_reducible exact List.mem_cons_self | with_reducible exact List.mem_append_left _ (by with_reducible assumption) | with_reducible exact List.mem_append_right _ (by with_reducible assumption) | ((with_reducible refine List.mem_cons_of_mem _ ?_); walk_at "my in"))
  k_with "my all" => (first | with_reducible exact List.forall_mem_nil _ | ((with_reducible refine List.forall_mem_cons.mpr ⟨by walk_at "my mem", ?_⟩); walk_at "my all") | (intro _ _; walk_at "my in"))
  k_with "my news" => (first | with_reducible assumption | (refine' news_sub (by with_reducible assumption) (by intro _ _; walk_at "my in")))
  k_with "my led" => ((try simp only [List.cons_append]); with_reducible assumption)
  k_with "my slice" => (k_here; (with_reducible show wpAny _ _ (subscriptTail _ (PySem.Expr.Slice _ _ none _) (Value.ref _) (Value.ref _)) _ _ _); k_dflt (refine' kmk_slice (by k_asm) (by k_asm) (by exact isL_of (by with_reducible assumption) (by walk_at "my mem")) (by kmk_part) (by kmk_part) ?_ (by with_unfolding_all rfl) (by kmk_pure) (by first | walk_at "my size" | (simp only [List.size_toArray, intVals, List.length_map]; rw [sizeLine_eq]; omega))); intro _ _ _ _ _)
  k_with "my fold" => (refine fold_ae ?_; intro _ _)
  k_with "storeName" => (k_here; k_dflt (refine' store_let (by k_asm) (by k_asm) ?_ (by rfl) (by rfl); k_whole; intro _ _ _ _ _ _; (try k_sweep)))
  k_with "exec If" => (k_here; (refine if_let ?_); intro _)
  k_with "execs cons" => (k_here; (refine cons_let ?_); intro _ _ _ _)
  k_with "execs cons" => (k_here; (with_reducible show wpAny _ _ (execs (_ :: []) _) _ _ _); (refine execs_1 ?_); intro _ _ _)
  k_with "execs cons" => (k_here; k_gentoks; (refine st_let2 ?_); intro _)
  k_with "my room" => (k_dflt (first | exact room1 (k := 1) rfl rfl (by with_reducible assumption) | exact room1 (k := 2) rfl rfl (by with_reducible assumption) | exact room1 (k := 3) rfl rfl (by with_reducible assumption) | exact room0 (k := 1) rfl rfl (by with_reducible assumption) | exact room0 (k := 2) rfl rfl (by with_reducible assumption) | exact room0 (k := 3) rfl rfl (by with_reducible assumption) | ktr_room | (show Around.depth (Around.deeper _ _) + _ < recursionLimit; first | ktr_room) | (show Around.depth (Around.deeper _ _) < recursionLimit; first | ktr_room)))
  k_with "my units" => (k_dflt (first | exact unit1 (k := 3) rfl rfl (by with_reducible assumption) | exact unit1 (k := 4) rfl rfl (by with_reducible assumption) | exact unit1 (k := 5) rfl rfl (by with_reducible assumption) | exact unit1 (k := 6) rfl rfl (by with_reducible assumption) | exact unit1 (k := 7) rfl rfl (by with_reducible assumption) | exact unit1 (k := 8) rfl rfl (by with_reducible assumption) | exact unit0 (k := 3) rfl rfl (by with_reducible assumption) | exact unit0 (k := 6) rfl rfl (by with_reducible assumption) | ktr_units | (show Around.units (Around.deeper _ _) + _ < cLine; first | ktr_units)))
  k_with "my steps" => (repeat' (first | ((fail_if_success (fail_if_success k_unfold)); (first | (show wpAny _ _ _ _ _ _) | (k_unfold; (try dsimp only)))) | (k_end; wrow_close) | walk1 | (dsimp only; walk1) | (leave1; (try dsimp only)) | fail "no step"))
  k_with "my off" => (first | with_reducible exact rfl | ((refine map_off ?_ ?_); (next => assumption); walk_at "my off") | exact rfl)
  k_with "call ref" => (k_here; (with_reducible show wpAny _ _ (call (Value.ref 133) [Value.str _ _]) _ _ _); refine' use_claim (d_fspath _ _) (by k_asm) (by k_asm) (by k_asm) (by k_asm) (by k_asm) (by first | exact rfl | assumption) (by (trivial)) (by walk_at "my room") (by walk_at "my units") ?_; (dsimp only [RetS]; intro _ _ _ _ _); (try dsimp only); (try k_fold))
  k_with "call ref" => (k_here; (with_reducible show wpAny _ _ (call (Value.ref 147) [Value.str _ _]) _ _ _); refine' use_claim (d_get_sep _ _) (by k_asm) (by k_asm) (by k_asm) (by k_asm) (by k_asm) (by first | exact rfl | assumption) (by (trivial)) (by walk_at "my room") (by walk_at "my units") ?_; (dsimp only [RetS]; intro _ _ _ _ _); (try dsimp only); (try k_fold))
  k_with "call ref" => (k_here; (with_reducible show wpAny _ _ (call (Value.ref 161) [Value.str _ _]) _ _ _); refine' use_claim (d_splitroot _ _) (by k_asm) (by k_asm) (by k_asm) (by k_asm) (by k_asm) (by first | exact rfl | assumption) (by (refine' ⟨?_, ?_, ?_⟩ <;> first | assumption | omega)) (by walk_at "my room") (by walk_at "my units") ?_; (dsimp only [RetN]; intro _ _ _ _ _ _ _ N9; (try dsimp only [List.cons_append, List.nil_append] at N9)); (try dsimp only); (try k_fold))
  k_with "call ref" => (k_here; (with_reducible show wpAny _ _ (call (Value.ref 154) [Value.str _ _, Value.str _ _]) _ _ _); refine' use_claim (d_join _ _ _ _) (by k_asm) (by k_asm) (by k_asm) (by k_asm) (by k_asm) (by first | exact rfl | assumption) (by (refine' ⟨?_, ?_, ?_, ?_⟩ <;> first | assumption | omega)) (by walk_at "my room") (by walk_at "my units") ?_; (dsimp only [RetS]; intro _ _ _ _ _); (try dsimp only); (try k_fold))
  trivial
noncomputable def npStep (acc : List Str) (c : Str) : List Str :=
  if c = Str.ofString "" ∨ c = Str.ofString "." then acc else if c ≠ Str.ofString ".." ∨ acc.getLast? = some (Str.ofString "..") then acc ++ [c] else acc.dropLast
noncomputable def npR (l : Addr) (acc : List Str) (nx : List (Addr × Obj)) : Prop :=
  ∃ (al : List (Str × Tok)) (ep : Nat), al.map (·.1) = acc ∧ nx = [(l, W.listOf (strValues al).toArray ep)]
theorem npStep_len (a : List Str) (c : Str) : (npStep a c).length ≤ a.length + 1 := by
  unfold npStep
  split
  · (first | lia | omega)
  · split
    · simp
    · simp; (first | lia | omega)
noncomputable def npOk (cs : List Str) : Prop := cs.length ≤ 1000 ∧ ∀ i c, cs[i]? = some c → c ≠ Str.ofString "" ∧ c ≠ Str.ofString "." ∧ (c = Str.ofString ".." → ∃ y, ((cs.take i).foldl npStep []).getLast? = some y ∧ y ≠ Str.ofString "..")
theorem np_len2 (cs : List Str) (i : Nat) : ((cs.take i).foldl npStep []).length ≤ cs.length := by
  have := np_len (cs.take i) npStep npStep_len []
  simp only [List.length_nil, List.length_take] at this
  (first | lia | omega)
theorem npStep_mem (a : List Str) (c : Str) : ∀ y ∈ npStep a c, y ∈ a ∨ y = c := by
  intro y hy
  unfold npStep at hy
  split at hy
  · exact .inl hy
  · split at hy
    · rcases List.mem_append.mp hy with h | h
      · exact .inl h
      · exact .inr (List.mem_singleton.mp h)
    · exact .inl (List.dropLast_subset _ hy)
theorem np_mem : ∀ (cs a : List Str), ∀ y ∈ cs.foldl npStep a, y ∈ a ∨ y ∈ cs
  | [], _, y, h => .inl h
  | c :: r, a, y, h => by
    rcases np_mem r (npStep a c) y h with h | h
    · rcases npStep_mem a c y h with h | h
      · exact .inl h
      · exact .inr (h ▸ List.mem_cons_self)
    · exact .inr (List.mem_cons_of_mem _ h)
noncomputable def npJ (cs : List Str) (l : Addr) (rest : List (Addr × Obj)) (mb : Str → Option Value) (i : Nat) (m : Str → Option Value) (nx : List (Addr × Obj)) : Prop :=
  ∃ (al : List (Str × Tok)) (ep : Nat) (vc : Option Value), al.map (·.1) = (cs.take i).foldl npStep [] ∧ nx = (l, W.listOf (strValues al).toArray ep) :: rest ∧ m = fun z => if z = S "comp" then vc else mb z
theorem npJ_mk {cs : List Str} {l : Addr} {rest : List (Addr × Obj)} {mb m' : Str → Option Value} {i : Nat} (al : List (Str × Tok)) (ep : Nat) (hr : al.map (·.1) = (cs.take i).foldl npStep []) (h : ∀ z, z ≠ S "comp" → m' z = mb z) : npJ cs l rest mb i m' ((l, W.listOf (strValues al).toArray ep) :: rest) :=
  ⟨al, ep, _, hr, rfl, map1_ext rfl h⟩
theorem npJ_mk2 {cs : List Str} {l : Addr} {rest : List (Addr × Obj)} {mb m' : Str → Option Value} {i : Nat} (al : List (Str × Tok)) (y : Str) (t : Tok) (ep : Nat) (hr : al.map (·.1) ++ [y] = (cs.take i).foldl npStep []) (h : ∀ z, z ≠ S "comp" → m' z = mb z) : npJ cs l rest mb i m' ((l, W.listOf ((strValues al).toArray.push (Value.str y t)) ep) :: rest) :=
  ⟨al ++ [(y, t)], ep, _, by simpa using hr, by simp [strValues], map1_ext rfl h⟩
noncomputable def npath (x : Str) : Str := S "/" ++ Txt.join (S "/") ((Txt.split (Txt.slice x (some 1) none) (S "/")).foldl npStep [])
theorem d_normpath (x : Str) (t : Tok) : Cl w p loose mean mg mb 3 168 [.str x t] (x.length ≤ 1000 ∧ (x.length : Int) ≠ 0 ∧ Txt.slice x none (some 1) = Str.ofString "/" ∧ Txt.slice x (some 1) (some 2) ≠ Str.ofString "/" ∧ npOk (Txt.split (Txt.slice x (some 1) none) (Str.ofString "/"))) (RetS (npath x)) := by
  dsimp only [Cl]; intros; rename_i hpre _ _ hret; refine wpAny_call ?_; (k_dflt cell_enter; (try walk_at "my fold")); obtain ⟨hx, hx0, hx1, hx2, hnl, hnp⟩ := hpre; walk_at "my steps"
  · rename Fr _ _ _ _ => lF
    rename News _ _ _ _ => lN
    rename _ ∧ _ ∧ AllLt _ _ => l1
    obtain ⟨l1a, l1b, l1c⟩ := l1
    rename List (Str × Tok) => l'
    rename List.map _ _ = Txt.split _ _ => hsp
    rename ∀ (a : Str), a ∈ List.map _ _ → _ => hlen1
    have hlen2 := Txt.slice_le x (some 1) none
    obtain ⟨m₀, hm₀, lF⟩ : ∃ m₀, m₀ = _ ∧ Fr _ _ _ m₀ := ⟨_, rfl, lF⟩
    refine' For_list (G := fun g => g = _) (keep := _) (npJ (Txt.split (Txt.slice x (some 1) none) (Str.ofString "/")) _ _ m₀) rfl lF lN (isLst_of lN (List.mem_cons_of_mem _ List.mem_cons_self)) ?hDL ?hm
      [_] (fun q hq => hq) (chg1 (Nat.ne_of_gt l1a)) (chg1 ⟨_, List.mem_cons_self⟩) ⟨[], 0, m₀ (S "comp"), rfl, rfl, map1_self m₀ _⟩ rfl ?hx ?hy ?hks ?hd ?turn ?done ?hE
    case hDL => exact (lN _ (List.mem_cons_of_mem _ List.mem_cons_self)).2.1
    case hm => subst hm₀; exact rfl
    case hx => kernel_rfl
    case hy => kernel_rfl
    case hks => kernel_rfl
    case hd => decide +kernel
    case hE => passes_own
    case turn =>
      intro i v m₁ nx h5 tk5 gens5 own5 hv5 ho5 hJ0 _ hg F5 N5
      refine q_let ?_
      intro q9 e9
      obtain ⟨al, ep, vc, hal, rfl, rfl⟩ := hJ0
      subst hm₀
      obtain ⟨xv, t5, hi5, rfl⟩ := strV_at hv5
      rw [hsp] at hi5
      simp only [List.cons_append] at N5
      have hne5 := led_ne2 (allLt_mem l1c) ho5
      have hxl : xv.length ≤ 1000 := Nat.le_trans (hlen1 xv (by rw [hsp]; exact List.mem_of_getElem? hi5)) (Nat.le_trans hlen2 hx)
      obtain ⟨c1, c2, c3⟩ := hnp i xv hi5
      have hst : ((Txt.split (Txt.slice x (some 1) none) (Str.ofString "/")).take (i + 1)).foldl npStep [] = npStep (((Txt.split (Txt.slice x (some 1) none) (Str.ofString "/")).take i).foldl npStep []) xv := by
        rw [List.take_add_one, hi5]; simp
      have hall : al.length ≤ 1000 := by
        have h2 := np_len2 (Txt.split (Txt.slice x (some 1) none) (Str.ofString "/")) i
        rw [← hal, List.length_map] at h2
        (first | lia | omega)
      have b3 : (xv.length : Int) ≠ 0 := fun e => c1 (by
        have e' : xv.cps.toList.length = 0 := by have : xv.length = 0 := by (first | lia | omega)
                                                 simpa [Str.length] using this
        apply Str.ext'
        have := List.length_eq_zero_iff.mp e'
        apply Array.toList_inj.mp
        rw [this]; decide +kernel)
      by_cases hdd : xv = Str.ofString ".."
      · obtain ⟨y, hy, hyn⟩ := c3 hdd
        rw [← hal] at hy
        obtain ⟨bl, b, rfl⟩ : ∃ bl b, al = bl ++ [b] := ⟨al.dropLast, al.getLast (by intro e; rw [e] at hy; cases hy), (List.dropLast_concat_getLast _).symm⟩
        obtain ⟨y', ty⟩ := b
        have e1 : strValues (bl ++ [(y', ty)]) = strValues bl ++ [.str y' ty] := by simp [strValues]
        have e2 : y' = y := by simpa using hy
        subst e2
        rw [e1] at N5
        have b1 : (y' == Str.ofString "..") = false := by simpa using hyn
        have b4 : (xv == Str.ofString ".") = false := by simpa using c2
        have b5 : (xv != Str.ofString "..") = false := by simp [hdd]
        have hbl : bl.length < 1000 := by simp at hall; (first | lia | omega)
        walk_at "my steps"
        · refine EndG.mk1 (by k_asm) (by walk_at "my led") (npJ_mk bl _ ?_ fun z h1 => by walk_at "my off") hg rfl
          rw [hst, ← hal]
          have hl : (List.map (fun x => x.fst) (bl ++ [(y', ty)])).getLast? = some y' := hy
          simp only [npStep]
          rw [if_neg (by rintro (h | h); exact c1 h; exact c2 h), if_neg (by rintro (h | h); exact h hdd; rw [hl] at h; exact hyn (Option.some.inj h))]
          simp
        · exact absurd (show (xv.length : Int) = 0 by assumption) b3
      · have b1 : (xv == Str.ofString ".") = false := by simpa using c2
        have b2 : (xv != Str.ofString "..") = true := by simpa using hdd
        walk_at "my steps"
        · refine EndG.mk1 (by k_asm) (by walk_at "my led") (npJ_mk2 al _ _ _ ?_ fun z h1 => by walk_at "my off") hg rfl
          rw [hst, ← hal]
          simp only [npStep]
          rw [if_neg (by rintro (h | h); exact c1 h; exact c2 h), if_pos (Or.inl hdd)]
        · exact absurd (show (xv.length : Int) = 0 by assumption) b3
    case done =>
      rintro m₁ nx h5 tk5 gens5 ⟨al, ep, vc, hal, rfl, rfl⟩ _ hg F5 N5
      subst hg
      subst hm₀
      have hsz : (strValues l').toArray.size = (Txt.split (Txt.slice x (some 1) none) (Str.ofString "/")).length := by
        rw [← hsp]; simp [strValues]
      rw [hsz, List.take_length] at hal
      have hall : al.length ≤ 1000 := by
        have h2 := np_len2 (Txt.split (Txt.slice x (some 1) none) (Str.ofString "/")) (Txt.split (Txt.slice x (some 1) none) (Str.ofString "/")).length
        rw [List.take_length, ← hal, List.length_map] at h2
        (first | lia | omega)
      have hparts : ∀ y ∈ al.map (·.1), y.length ≤ 4000 := fun y hy => by
        rw [hal] at hy
        rcases np_mem _ _ y hy with h | h
        · exact absurd h (by simp)
        · exact Nat.le_trans (hlen1 y (by rw [hsp]; exact h)) (Nat.le_trans hlen2 (Nat.le_trans hx (by decide)))
      have hjl : (Txt.join (Str.ofString "/") (List.map (fun x => x.fst) al)).length ≤ 4004000 := join_small hparts (by rw [List.length_map]; exact hall) (by decide +kernel)
      walk_at "my steps"
      · rw [show npath x = Str.ofString "/" ++ Txt.join (Str.ofString "/") (List.map (fun x => x.fst) al) by rw [hal]; rfl] at hret
        (refine' hret _ _ _ ?e2 ?e3; (case e2 => k_asm); (case e3 => walk_at "my news"))
  all_goals exact absurd (show (x.length : Int) = 0 by assumption) hx0

end

noncomputable section
open PySem PySem.W PyProof.Rows PySem.Calls PySem.Spec Mine
variable {w : World} {p : Program} {loose : List Str} {mean : ExcName → Option Value} {mg mb : Str → Option Value}
set_option maxHeartbeats 4000000
set_option rowWalk.seconds 0
theorem rows8 : True := by
  k_with_none
  k_with "my fits" => (first | with_reducible assumption | (simp only [sizeLine_eq] at *; omega))
  k_with "call builtin:issubclass" => (k_here; (with_reducible show wpAny _ _ (call (Value.builtin "issubclass") [Value.type "str", Value.ref _]) _ _ _); (refine' call_issub (isTup_of (by k_asm) (by news_mem)) ?_))
  k_with "my size" => (first | with_reducible assumption | (simp only [strValues, List.size_toArray, List.length_map, List.length_append, List.length_cons, List.length_nil, sizeLine_eq]; omega))
  k_with "call builtin:list.append" => (k_here; (with_reducible show wpAny _ _ (call (Value.builtin _) [Value.ref _, _]) _ _ _); k_dflt (refine' append_K (by k_asm) (by k_asm) (by k_upd) ?_ (by walk_at "my size"); k_whole); intro _ _ _)
  k_with "truthy ref" => (k_here; (with_reducible show wpAny _ _ (truthy (Value.ref _)) _ _ _); refine' truthy_L (by exact isL_of (by with_reducible assumption) (by walk_at "my mem")) (by walk_at "my size") ?_ ?_; intro _ _)
  k_with "call builtin:list.pop" => (k_here; (try dsimp only); k_dflt (refine' pop_L (by k_asm) (by k_asm) (by k_upd) (by walk_at "my size") ?_); intro _ _ _)
  k_with "subscriptTail Name UnaryOp ref int" => (k_here; (with_reducible show wpAny _ _ (subscriptTail _ _ (Value.ref _) (Value.int (-1) _)) _ _ _); refine' item_last (by exact isL_of (by with_reducible assumption) (by walk_at "my mem")) (by walk_at "my size") (by exact List.getLast?_concat) ?_ (by with_unfolding_all rfl))
  k_with "truthy ref" => (k_here; (with_reducible show wpAny _ _ (truthy (Value.ref _)) _ _ _); refine' truthy_L1 (by exact isL_of (by with_reducible assumption) (by walk_at "my mem")) (by walk_at "my size") ?_; intro _)
  k_with "call builtin:str.join" => (k_here; (with_reducible show wpAny _ _ (call (Value.builtin "str.join") [Value.str _ _, Value.ref _]) _ _ _); first
  | (refine' my_join (by exact isL_of (by with_reducible assumption) (by walk_at "my mem")) (by decide +kernel) (by omega) (by walk_at "my parts") ?_; intro _ _)
  | (refine' my_join2 (by exact isL_of (by with_reducible assumption) (by walk_at "my mem")) (by decide +kernel) (by omega) (by walk_at "my parts") (by walk_at "my len") ?_; intro _ _))
  k_with "my mem" => (with_reducible (first | exact List.mem_cons_self | (refine List.mem_cons_of_mem _ ?_; walk_at "my mem")))
  k_with "my parts" => (assumption)
  k_with "my len" => (first | (simp only []; omega) | omega)
  k_with "my in" => (first | with_reducible assumption | with_reducible exact List.mem_cons_self | with_reducible exact List.mem_append_left _ (by with_reducible assumption) | with_reducible exact List.mem_append_right _ (by with_reducible assumption) | ((with_reducible refine List.mem_cons_of_mem _ ?_); walk_at "my in"))
  k_with "my all" => (first | with_reducible exact List.forall_mem_nil _ | ((with_reducible refine List.forall_mem_cons.mpr ⟨by walk_at "my mem", ?_⟩); walk_at "my all") | (intro _ _; walk_at "my in"))
  k_with "my news" => (first | with_reducible assumption | (refine' news_sub (by with_reducible assumption) (by intro _ _; walk_at "my in")))
  k_with "my led" => ((try simp only [List.cons_append]); with_reducible assumption)
  k_with "my slice" => (k_here; (with_reducible show wpAny _ _ (subscriptTail _ (PySem.Expr.Slice _ _ none _) (Value.ref _) (Value.ref _)) _ _ _); k_dflt (refine' kmk_slice (by k_asm) (by k_asm) (by exact isL_of (by with_reducible assumption) (by walk_at "my mem")) (by kmk_part) (by kmk_part) ?_ (by with_unfolding_all rfl) (by kmk_pure) (by first | walk_at "my size" | (simp only [List.size_toArray, intVals, List.length_map]; rw [sizeLine_eq]; omega))); intro _ _ _ _ _)
  k_with "my fold" => (refine fold_ae ?_; intro _ _)
  k_with "storeName" => (k_here; k_dflt (refine' store_let (by k_asm) (by k_asm) ?_ (by rfl) (by rfl); k_whole; intro _ _ _ _ _ _; (try k_sweep)))
  k_with "exec If" => (k_here; (refine if_let ?_); intro _)
  k_with "execs cons" => (k_here; (refine cons_let ?_); intro _ _ _ _)
  k_with "execs cons" => (k_here; (with_reducible show wpAny _ _ (execs (_ :: []) _) _ _ _); (refine execs_1 ?_); intro _ _ _)
  k_with "execs cons" => (k_here; k_gentoks; (refine st_let2 ?_); intro _)
  k_with "my room" => (k_dflt (first | exact room1 (k := 1) rfl rfl (by with_reducible assumption) | exact room1 (k := 2) rfl rfl (by with_reducible assumption) | exact room1 (k := 3) rfl rfl (by with_reducible assumption) | exact room0 (k := 1) rfl rfl (by with_reducible assumption) | exact room0 (k := 2) rfl rfl (by with_reducible assumption) | exact room0 (k := 3) rfl rfl (by with_reducible assumption) | ktr_room | (show Around.depth (Around.deeper _ _) + _ < recursionLimit; first | ktr_room) | (show Around.depth (Around.deeper _ _) < recursionLimit; first | ktr_room)))
  k_with "my units" => (k_dflt (first | exact unit1 (k := 3) rfl rfl (by with_reducible assumption) | exact unit1 (k := 4) rfl rfl (by with_reducible assumption) | exact unit1 (k := 5) rfl rfl (by with_reducible assumption) | exact unit1 (k := 6) rfl rfl (by with_reducible assumption) | exact unit1 (k := 7) rfl rfl (by with_reducible assumption) | exact unit1 (k := 8) rfl rfl (by with_reducible assumption) | exact unit0 (k := 3) rfl rfl (by with_reducible assumption) | exact unit0 (k := 6) rfl rfl (by with_reducible assumption) | ktr_units | (show Around.units (Around.deeper _ _) + _ < cLine; first | ktr_units)))
  k_with "my steps" => (repeat' (first | ((fail_if_success (fail_if_success k_unfold)); (first | (show wpAny _ _ _ _ _ _) | (k_unfold; (try dsimp only)))) | (k_end; wrow_close) | walk1 | (dsimp only; walk1) | (leave1; (try dsimp only)) | fail "no step"))
  k_with "my off" => (first | with_reducible exact rfl | ((refine map_off ?_ ?_); (next => assumption); walk_at "my off") | exact rfl)
  k_with "call ref" => (k_here; (with_reducible show wpAny _ _ (call (Value.ref 53) [Value.str _ _]) _ _ _); refine' use_claim (d_strip _ _) (by k_asm) (by k_asm) (by k_asm) (by k_asm) (by k_asm) (by first | exact rfl | assumption) (by (first | assumption | omega)) (by walk_at "my room") (by walk_at "my units") ?_; (dsimp only [RetGS]; refine ⟨by assumption, ?_⟩; intro _ _ _ _ _ _ _); (try dsimp only); (try k_fold))
  k_with "call ref" => (k_here; (with_reducible show wpAny _ _ (call (Value.ref 60) [Value.str _ _]) _ _ _); refine' use_claim (d_check _ _) (by k_asm) (by k_asm) (by k_asm) (by k_asm) (by k_asm) (by first | exact rfl | assumption) (by (first | assumption | omega)) (by walk_at "my room") (by walk_at "my units") ?_; (dsimp only [RetGB]; refine ⟨by assumption, ?_⟩; intro _ _ _ _ _ _); (try dsimp only); (try k_fold))
  k_with "exec While BoolOp cons nil" => (k_here; refine halt_at ?_)
  k_with "exec While Compare cons nil" => (k_here; refine halt_at ?_)
  k_with "exec While Constant cons nil" => (k_here; refine halt_at ?_)
  k_with "exec For Name Name cons nil" => (k_here; refine halt_at ?_)
  k_with "exec For Name Call cons nil" => (k_here; refine halt_at ?_)
  k_with "exec For Tuple Call cons nil" => (k_here; refine halt_at ?_)
  k_with "eval ListComp IfExp cons" => (k_here; refine halt_at ?_)
  k_with "call type:zip cons nil" => (k_here; refine halt_at ?_)
  trivial
noncomputable def turnEnd (x : Str) : Nat → Int → Int
  | 0, e => e
  | n + 1, e => if e < (x.length : Int) ∧ checked (Txt.slice x none (some e)) = false then turnEnd x n (e + 2) else e
noncomputable def turnE (x : Str) : Int := turnEnd x x.length 2
noncomputable def turned (x : Str) : Str := ((Txt.slice x (some 1) (some (turnE x - 1)) ++ S "(") ++ Txt.slice x (some (turnE x)) none) ++ S ")"
theorem d_turned (x : Str) (t : Tok) : Cl w p loose mean mg mb 4 896 [.str x t] (x.length ≤ 1000) (RetGS (turned x)) := by
  dsimp only [Cl]; intros; rename_i hpre _ _ hret; refine wpAny_call ?_; (k_dflt cell_enter; (try walk_at "my fold")); obtain ⟨hAB, hret⟩ := hret; walk_at "my steps"
  refine Halt.go ?_
  rename Fr _ _ _ _ => lF
  rename News _ _ _ _ => lN
  obtain ⟨m₀, hm₀, lF⟩ : ∃ m₀, m₀ = _ ∧ Fr _ _ _ m₀ := ⟨_, rfl, lF⟩
  refine' While_G (G := AllBare) (fun n m nx => ∃ e te, n ≤ x.length ∧ e = 2 + 2 * ((x.length : Int) - n) ∧ turnE x = turnEnd x n e ∧ nx = _ ∧ m = fun z => if z = S "end" then some (.int e te) else m₀ z) x.length lF lN
    ⟨2, _, Nat.le_refl _, by (first | lia | omega), rfl, rfl, ?hm⟩ hAB ?turn ?hE
  case hm => subst hm₀; exact (map1_self _ (S "end"))
  case hE => passes_own
  case turn =>
    rintro n m₁ nx h5 tk5 g5 ⟨e, te, hn, he, hte, rfl, rfl⟩ hAB5 F5 N5
    subst hm₀
    have fin : turnE x = e → turned x = ((Txt.slice x (some 1) (some (e - 1)) ++ Str.ofString "(") ++ Txt.slice x (some e) none) ++ Str.ofString ")" := fun h => by unfold turned; rw [h]
    walk_at "my steps"
    · have hc : checked (Txt.slice x none (some e)) = true := by assumption
      have he2 : turnE x = e := by
        rw [hte]
        cases n with
        | zero => rfl
        | succ k => unfold turnEnd; rw [if_neg (fun h => by rw [hc] at h; exact Bool.noConfusion h.2)]
      rw [fin he2] at hret
      refine hret _ _ _ _ (by assumption) ?_ ?_
      · k_asm
      · walk_at "my news"
    · have hc : checked (Txt.slice x none (some e)) = false := by assumption
      have hlt : e < (x.length : Int) := by assumption
      obtain ⟨k, rfl⟩ : ∃ k, n = k + 1 := ⟨n - 1, by (first | lia | omega)⟩
      refine EndW.mk (by k_asm) (by with_reducible assumption) ⟨k, Nat.lt_succ_self _, e + 2, _, by (first | lia | omega), by (first | lia | omega), ?_, rfl, map1_ext rfl fun z h1 => by walk_at "my off"⟩ (by assumption)
      rw [hte]
      unfold turnEnd
      rw [if_pos ⟨hlt, hc⟩]
      cases k <;> rfl
    · have hlt : ¬ e < (x.length : Int) := by assumption
      have he2 : turnE x = e := by
        rw [hte]
        cases n with
        | zero => rfl
        | succ k => unfold turnEnd; rw [if_neg (fun h => hlt h.1)]
      rw [fin he2] at hret
      refine hret _ _ _ _ (by assumption) ?_ ?_
      · k_asm
      · walk_at "my news"

end

noncomputable section
open PySem PySem.W PyProof.Rows PySem.Calls PySem.Spec Mine
variable {w : World} {p : Program} {loose : List Str} {mean : ExcName → Option Value} {mg mb : Str → Option Value}
set_option maxHeartbeats 4000000
set_option rowWalk.seconds 0
theorem rows9 : True := by
  k_with_none
  k_with "my fits" => (first | with_reducible assumption | (simp only [sizeLine_eq] at *; omega))
  k_with "call builtin:issubclass" => (k_here; (with_reducible show wpAny _ _ (call (Value.builtin "issubclass") [Value.type "str", Value.ref _]) _ _ _); (refine' call_issub (isTup_of (by k_asm) (by news_mem)) ?_))
  k_with "my size" => (first | with_reducible assumption | (simp only [strValues, List.size_toArray, List.length_map, List.length_append, List.length_cons, List.length_nil, sizeLine_eq]; omega))
  k_with "call builtin:list.append" => (k_here; (with_reducible show wpAny _ _ (call (Value.builtin _) [Value.ref _, _]) _ _ _); k_dflt (refine' append_K (by k_asm) (by k_asm) (by k_upd) ?_ (by walk_at "my size"); k_whole); intro _ _ _)
  k_with "truthy ref" => (k_here; (with_reducible show wpAny _ _ (truthy (Value.ref _)) _ _ _); refine' truthy_L (by exact isL_of (by with_reducible assumption) (by walk_at "my mem")) (by walk_at "my size") ?_ ?_; intro _ _)
  k_with "call builtin:list.pop" => (k_here; (try dsimp only); k_dflt (refine' pop_L (by k_asm) (by k_asm) (by k_upd) (by walk_at "my size") ?_); intro _ _ _)
  k_with "subscriptTail Name UnaryOp ref int" => (k_here; (with_reducible show wpAny _ _ (subscriptTail _ _ (Value.ref _) (Value.int (-1) _)) _ _ _); refine' item_last (by exact isL_of (by with_reducible assumption) (by walk_at "my mem")) (by walk_at "my size") (by exact List.getLast?_concat) ?_ (by with_unfolding_all rfl))
  k_with "truthy ref" => (k_here; (with_reducible show wpAny _ _ (truthy (Value.ref _)) _ _ _); refine' truthy_L1 (by exact isL_of (by with_reducible assumption) (by walk_at "my mem")) (by walk_at "my size") ?_; intro _)
  k_with "call builtin:str.join" => (k_here; (with_reducible show wpAny _ _ (call (Value.builtin "str.join") [Value.str _ _, Value.ref _]) _ _ _); first
  | (refine' my_join (by exact isL_of (by with_reducible assumption) (by walk_at "my mem")) (by decide +kernel) (by omega) (by walk_at "my parts") ?_; intro _ _)
  | (refine' my_join2 (by exact isL_of (by with_reducible assumption) (by walk_at "my mem")) (by decide +kernel) (by omega) (by walk_at "my parts") (by walk_at "my len") ?_; intro _ _))
  k_with "my mem" => (with_reducible (first | exact List.mem_cons_self | (refine List.mem_cons_of_mem _ ?_; walk_at "my mem")))
  k_with "my parts" => (assumption)
  k_with "my len" => (first | (simp only []; omega) | omega)
  k_with "my in" => (first | with_reducible assumption | with_reducible exact List.mem_cons_self | with_reducible exact List.mem_append_left _ (by with_reducible assumption) | with_reducible exact List.mem_append_right _ (by with_reducible assumption) | ((with_reducible refine List.mem_cons_of_mem _ ?_); walk_at "my in"))
  k_with "my all" => (first | with_reducible exact List.forall_mem_nil _ | ((with_reducible refine List.forall_mem_cons.mpr ⟨by walk_at "my mem", ?_⟩); walk_at "my all") | (intro _ _; walk_at "my in"))
  k_with "my news" => (first | with_reducible assumption | (refine' news_sub (by with_reducible assumption) (by intro _ _; walk_at "my in")))
  k_with "my led" => ((try simp only [List.cons_append]); with_reducible assumption)
  k_with "my slice" => (k_here; (with_reducible show wpAny _ _ (subscriptTail _ (PySem.Expr.Slice _ _ none _) (Value.ref _) (Value.ref _)) _ _ _); k_dflt (refine' kmk_slice (by k_asm) (by k_asm) (by exact isL_of (by with_reducible assumption) (by walk_at "my mem")) (by kmk_part) (by kmk_part) ?_ (by with_unfolding_all rfl) (by kmk_pure) (by first | walk_at "my size" | (simp only [List.size_toArray, intVals, List.length_map]; rw [sizeLine_eq]; omega))); intro _ _ _ _ _)
  k_with "my fold" => (refine fold_ae ?_; intro _ _)
  k_with "storeName" => (k_here; k_dflt (refine' store_let (by k_asm) (by k_asm) ?_ (by rfl) (by rfl); k_whole; intro _ _ _ _ _ _; (try k_sweep)))
  k_with "exec If" => (k_here; (refine if_let ?_); intro _)
  k_with "execs cons" => (k_here; (refine cons_let ?_); intro _ _ _ _)
  k_with "execs cons" => (k_here; (with_reducible show wpAny _ _ (execs (_ :: []) _) _ _ _); (refine execs_1 ?_); intro _ _ _)
  k_with "execs cons" => (k_here; k_gentoks; (refine st_let2 ?_); intro _)
  k_with "my room" => (k_dflt (first | exact room1 (k := 1) rfl rfl (by with_reducible assumption) | exact room1 (k := 2) rfl rfl (by with_reducible assumption) | exact room1 (k := 3) rfl rfl (by with_reducible assumption) | exact room0 (k := 1) rfl rfl (by with_reducible assumption) | exact room0 (k := 2) rfl rfl (by with_reducible assumption) | exact room0 (k := 3) rfl rfl (by with_reducible assumption) | ktr_room | (show Around.depth (Around.deeper _ _) + _ < recursionLimit; first | ktr_room) | (show Around.depth (Around.deeper _ _) < recursionLimit; first | ktr_room)))
  k_with "my units" => (k_dflt (first | exact unit1 (k := 3) rfl rfl (by with_reducible assumption) | exact unit1 (k := 4) rfl rfl (by with_reducible assumption) | exact unit1 (k := 5) rfl rfl (by with_reducible assumption) | exact unit1 (k := 6) rfl rfl (by with_reducible assumption) | exact unit1 (k := 7) rfl rfl (by with_reducible assumption) | exact unit1 (k := 8) rfl rfl (by with_reducible assumption) | exact unit0 (k := 3) rfl rfl (by with_reducible assumption) | exact unit0 (k := 6) rfl rfl (by with_reducible assumption) | ktr_units | (show Around.units (Around.deeper _ _) + _ < cLine; first | ktr_units)))
  k_with "my steps" => (repeat' (first | ((fail_if_success (fail_if_success k_unfold)); (first | (show wpAny _ _ _ _ _ _) | (k_unfold; (try dsimp only)))) | (k_end; wrow_close) | walk1 | (dsimp only; walk1) | (leave1; (try dsimp only)) | fail "no step"))
  k_with "my off" => (first | with_reducible exact rfl | ((refine map_off ?_ ?_); (next => assumption); walk_at "my off") | exact rfl)
  k_with "exec While BoolOp cons nil" => (k_here; refine halt_at ?_)
  k_with "exec While Compare cons nil" => (k_here; refine halt_at ?_)
  k_with "exec While Constant cons nil" => (k_here; refine halt_at ?_)
  k_with "exec For Name Name cons nil" => (k_here; refine halt_at ?_)
  k_with "exec For Name Call cons nil" => (k_here; refine halt_at ?_)
  k_with "exec For Tuple Call cons nil" => (k_here; refine halt_at ?_)
  k_with "eval ListComp IfExp cons" => (k_here; refine halt_at ?_)
  k_with "call type:zip cons nil" => (k_here; refine halt_at ?_)
  trivial
noncomputable def seen (hs : List Int) : Str := Txt.join (S "") ((hs.zip (hs.drop 1)).map fun p => if p.1 < p.2 then S "(" else S ")")
theorem d_seen (D : Addr) (al : List (Int × Tok)) (k : Nat) : Cn w p loose mean mg mb 1 889 [.ref D] (fun news => (D, W.listOf (intVals al).toArray k) ∈ news ∧ al.length ≤ 1000) (RetS (seen (al.map (·.1)))) := by
  dsimp only [Cn]; intros; rename_i hpre _ _ hret; obtain ⟨hD, hal⟩ := hpre; refine wpAny_call ?_; (k_dflt cell_enter; (try walk_at "my fold"))
  rename News _ _ _ _ => lN
  have lN2 := news_more lN hD
  walk_at "my steps"
  refine Halt.go ?_
  rename Fr _ _ _ _ => lF
  refine LC_pair lF lN2 (P2 := fun i v0 v1 => ∃ x y, al[i]? = some x ∧ (al.drop 1)[i]? = some y ∧ v0 = .int x.1 x.2 ∧ v1 = .int y.1 y.2) (fun i v => ∃ x y t, al[i]? = some x ∧ (al.drop 1)[i]? = some y ∧ v = .str (if x.1 < y.1 then S "(" else S ")") t) (al.length - 1) (by omega) rfl (by rfl) (by decide +kernel) (by rfl) (by decide +kernel) (by rfl) (by rfl) (by intro _; rfl) ?src ?helt ?hQ (by decide +kernel)
  case src =>
    walk_at "my steps"
    walk_at "my slice"
    rename ∀ (p : Addr × Obj), p ∈ _ → p.1 < _ => l1
    rename Fr _ _ _ _ => F7
    rename News _ _ _ _ => N7
    walk_at "my steps"
    refine Halt.go ?_
    refine wpAny_mono (src_zip (E := ek) rfl F7 N7 (fun q hq => List.mem_cons_of_mem _ hq) (isL_of N7 (List.mem_cons_of_mem _ List.mem_cons_self)) (isL_of N7 List.mem_cons_self) ⟨_, _, rfl⟩) (fun xv s₁ h₁ => wpAny_mono h₁ (fun it s₂ h₂ => ?_) fun _ _ e => e) fun _ _ e => e
    obtain ⟨I, fp, wr, Pt, St, Mid, e1, e2, e3, e4⟩ := h₂
    have hd : slicePick (intVals al).toArray (some 1) none none = (intVals (al.drop 1)).toArray := by
      rw [show (some 1 : Option Int) = some ((1 : Nat) : Int) from rfl, slicePick_from']
      simp [intVals]
    have hsz : min (intVals al).toArray.size (slicePick (intVals al).toArray (some 1) none none).size = al.length - 1 := by
      rw [hd]; simp [intVals]
    rw [hsz] at e2
    refine ⟨I, fp, wr, Pt, St, Mid, e1, e2, fun i vals hP => ?_, e4⟩
    obtain ⟨v0, v1, rfl, h0, h1⟩ := e3 i vals hP
    rw [hd] at h1
    have h0' : (intVals al)[i]? = some v0 := by simpa using h0
    have h1' : (intVals (al.drop 1))[i]? = some v1 := by simpa using h1
    simp only [intVals, List.getElem?_map, Option.map_eq_some_iff] at h0' h1'
    obtain ⟨x, hx, rfl⟩ := h0'
    obtain ⟨y, hy, rfl⟩ := h1'
    exact ⟨_, _, rfl, x, y, hx, hy, rfl, rfl⟩
  case helt =>
    rintro i v0 v1 s' m₂ C ⟨x, y, hx, hy, rfl, rfl⟩ hn ha hb Q' E' hQ'
    refine PyProof.Rows.IfExp_ (wpAny_isTrue_Compare1 ?_ (by with_unfolding_all rfl))
    refine gld (by rfl) (by rfl) hn ha (gld (by rfl) (by rfl) hn hb (PyProof.Rows.lt_int (wpAny_truthy_bool ?_)) (by decide +kernel)) (by decide +kernel)
    by_cases hlt : x.1 < y.1
    · rw [decide_eq_true hlt, if_pos rfl]
      exact wpAny_Constant_str (hQ' _ _ ⟨x, y, _, hx, hy, by rw [if_pos hlt]⟩)
    · rw [decide_eq_false hlt]
      exact wpAny_Constant_str (hQ' _ _ ⟨x, y, _, hx, hy, by rw [if_neg hlt]⟩)
  case hQ =>
    intro D2 ys h tk hlen hys F N
    obtain ⟨bl, rfl, hbl⟩ := strs_of_fun (f := fun i => if ((al.map (·.1)).getD i 0) < ((al.map (·.1)).getD (i + 1) 0) then S "(" else S ")") hlen (fun i v hv => by
      obtain ⟨x, y, t, hx, hy, rfl⟩ := hys i v hv
      have hy' : al[i + 1]? = some y := by rw [List.getElem?_drop, Nat.add_comm] at hy; exact hy
      refine ⟨t, ?_⟩
      simp only [List.getD_eq_getElem?_getD, List.getElem?_map, hx, hy', Option.map_some, Option.getD_some])
    have hseen : bl.map (·.1) = ((al.map (·.1)).zip ((al.map (·.1)).drop 1)).map fun p => if p.1 < p.2 then S "(" else S ")" := by
      rw [hbl]
      apply List.ext_getElem?
      intro i
      by_cases hi : i < al.length - 1
      · have h1 : (al.map (·.1))[i]? = some ((al.map (·.1)).getD i 0) := by rw [List.getD_eq_getElem?_getD, List.getElem?_eq_getElem (by simp; omega)]; rfl
        have h2 : ((al.map (·.1)).drop 1)[i]? = some ((al.map (·.1)).getD (i + 1) 0) := by rw [List.getElem?_drop, Nat.add_comm, List.getD_eq_getElem?_getD, List.getElem?_eq_getElem (by simp; omega)]; rfl
        have h3 : ((al.map (·.1)).zip ((al.map (·.1)).drop 1))[i]? = some ((al.map (·.1)).getD i 0, (al.map (·.1)).getD (i + 1) 0) := List.getElem?_zip_eq_some.mpr ⟨h1, h2⟩
        rw [List.getElem?_map, List.getElem?_range hi, List.getElem?_map, h3]
        rfl
      · rw [List.getElem?_eq_none (by simp; omega), List.getElem?_eq_none (by simp; omega)]
    have hall : bl.length ≤ 1000 := by
      have e := congrArg List.length hbl
      simp only [List.length_map, List.length_range] at e
      omega
    have hparts : ∀ y ∈ bl.map (·.1), y.length ≤ 4000 := by
      rw [hseen]
      intro y hy
      obtain ⟨q, _, rfl⟩ := List.mem_map.mp hy
      split <;> decide +kernel
    have N2 : News _ _ _ ((D2, W.listOf (strValues bl).toArray (strValues bl).length) :: _) := N
    clear N
    walk_at "my steps"
    rw [show seen (al.map (·.1)) = Txt.join (Str.ofString "") (List.map (fun x => x.fst) bl) by rw [hseen]; rfl] at hret
    (refine' hret _ _ _ ?e2 ?e3; (case e2 => k_asm); (case e3 => walk_at "my news"))

end

noncomputable section
open PySem PySem.W PyProof.Rows PySem.Calls PySem.Spec Mine
variable {w : World} {p : Program} {loose : List Str} {mean : ExcName → Option Value} {mg mb : Str → Option Value}
set_option maxHeartbeats 4000000
set_option rowWalk.seconds 0
theorem rows10 : True := by
  k_with_none
  k_with "my fits" => (first | with_reducible assumption | (simp only [sizeLine_eq] at *; omega))
  k_with "call builtin:issubclass" => (k_here; (with_reducible show wpAny _ _ (call (Value.builtin "issubclass") [Value.type "str", Value.ref _]) _ _ _); (refine' call_issub (isTup_of (by k_asm) (by news_mem)) ?_))
  k_with "my size" => (first | with_reducible assumption | (simp only [strValues, List.size_toArray, List.length_map, List.length_append, List.length_cons, List.length_nil, sizeLine_eq]; omega))
  k_with "call builtin:list.append" => (k_here; (with_reducible show wpAny _ _ (call (Value.builtin _) [Value.ref _, _]) _ _ _); k_dflt (refine' append_K (by k_asm) (by k_asm) (by k_upd) ?_ (by walk_at "my size"); k_whole); intro _ _ _)
  k_with "truthy ref" => (k_here; (with_reducible show wpAny _ _ (truthy (Value.ref _)) _ _ _); refine' truthy_L (by exact isL_of (by with_reducible assumption) (by walk_at "my mem")) (by walk_at "my size") ?_ ?_; intro _ _)
  k_with "call builtin:list.pop" => (k_here; (try dsimp only); k_dflt (refine' pop_L (by k_asm) (by k_asm) (by k_upd) (by walk_at "my size") ?_); intro _ _ _)
  k_with "subscriptTail Name UnaryOp ref int" => (k_here; (with_reducible show wpAny _ _ (subscriptTail _ _ (Value.ref _) (Value.int (-1) _)) _ _ _); refine' item_last (by exact isL_of (by with_reducible assumption) (by walk_at "my mem")) (by walk_at "my size") (by exact List.getLast?_concat) ?_ (by with_unfolding_all rfl))
  k_with "truthy ref" => (k_here; (with_reducible show wpAny _ _ (truthy (Value.ref _)) _ _ _); refine' truthy_L1 (by exact isL_of (by with_reducible assumption) (by walk_at "my mem")) (by walk_at "my size") ?_; intro _)
  k_with "call builtin:str.join" => (k_here; (with_reducible show wpAny _ _ (call (Value.builtin "str.join") [Value.str _ _, Value.ref _]) _ _ _); first
  | (refine' my_join (by exact isL_of (by with_reducible assumption) (by walk_at "my mem")) (by decide +kernel) (by omega) (by walk_at "my parts") ?_; intro _ _)
  | (refine' my_join2 (by exact isL_of (by with_reducible assumption) (by walk_at "my mem")) (by decide +kernel) (by omega) (by walk_at "my parts") (by walk_at "my len") ?_; intro _ _))
  k_with "my mem" => (with_reducible (first | exact List.mem_cons_self | (refine List.mem_cons_of_mem _ ?_; walk_at "my mem")))
  k_with "my parts" => (assumption)
  k_with "my len" => (first | (simp only []; omega) | omega)
  k_with "my in" => (first | with_reducible assumption | with_reducible exact List.mem_cons_self | with_reducible exact List.mem_append_left _ (by with_reducible assumption) | with_reducible exact List.mem_append_right _ (by with_reducible assumption) | ((with_reducible refine List.mem_cons_of_mem _ ?_); walk_at "my in"))
  k_with "my all" => (first | with_reducible exact List.forall_mem_nil _ | ((with_reducible refine List.forall_mem_cons.mpr ⟨by walk_at "my mem", ?_⟩); walk_at "my all") | (intro _ _; walk_at "my in"))
  k_with "my news" => (first | with_reducible assumption | (refine' news_sub (by with_reducible assumption) (by intro _ _; walk_at "my in")))
  k_with "my led" => ((try simp only [List.cons_append]); with_reducible assumption)
  k_with "my slice" => (k_here; (with_reducible show wpAny _ _ (subscriptTail _ (PySem.Expr.Slice _ _ none _) (Value.ref _) (Value.ref _)) _ _ _); k_dflt (refine' kmk_slice (by k_asm) (by k_asm) (by exact isL_of (by with_reducible assumption) (by walk_at "my mem")) (by kmk_part) (by kmk_part) ?_ (by with_unfolding_all rfl) (by kmk_pure) (by first | walk_at "my size" | (simp only [List.size_toArray, intVals, List.length_map]; rw [sizeLine_eq]; omega))); intro _ _ _ _ _)
  k_with "my fold" => (refine fold_ae ?_; intro _ _)
  k_with "storeName" => (k_here; k_dflt (refine' store_let (by k_asm) (by k_asm) ?_ (by rfl) (by rfl); k_whole; intro _ _ _ _ _ _; (try k_sweep)))
  k_with "exec If" => (k_here; (refine if_let ?_); intro _)
  k_with "execs cons" => (k_here; (refine cons_let ?_); intro _ _ _ _)
  k_with "execs cons" => (k_here; (with_reducible show wpAny _ _ (execs (_ :: []) _) _ _ _); (refine execs_1 ?_); intro _ _ _)
  k_with "execs cons" => (k_here; k_gentoks; (refine st_let2 ?_); intro _)
  k_with "my room" => (k_dflt (first | exact room1 (k := 1) rfl rfl (by with_reducible assumption) | exact room1 (k := 2) rfl rfl (by with_reducible assumption) | exact room1 (k := 3) rfl rfl (by with_reducible assumption) | exact room0 (k := 1) rfl rfl (by with_reducible assumption) | exact room0 (k := 2) rfl rfl (by with_reducible assumption) | exact room0 (k := 3) rfl rfl (by with_reducible assumption) | ktr_room | (show Around.depth (Around.deeper _ _) + _ < recursionLimit; first | ktr_room) | (show Around.depth (Around.deeper _ _) < recursionLimit; first | ktr_room)))
  k_with "my units" => (k_dflt (first | exact unit1 (k := 3) rfl rfl (by with_reducible assumption) | exact unit1 (k := 4) rfl rfl (by with_reducible assumption) | exact unit1 (k := 5) rfl rfl (by with_reducible assumption) | exact unit1 (k := 6) rfl rfl (by with_reducible assumption) | exact unit1 (k := 7) rfl rfl (by with_reducible assumption) | exact unit1 (k := 8) rfl rfl (by with_reducible assumption) | exact unit0 (k := 3) rfl rfl (by with_reducible assumption) | exact unit0 (k := 6) rfl rfl (by with_reducible assumption) | ktr_units | (show Around.units (Around.deeper _ _) + _ < cLine; first | ktr_units)))
  k_with "my steps" => (repeat' (first | ((fail_if_success (fail_if_success k_unfold)); (first | (show wpAny _ _ _ _ _ _) | (k_unfold; (try dsimp only)))) | (k_end; wrow_close) | walk1 | (dsimp only; walk1) | (leave1; (try dsimp only)) | fail "no step"))
  k_with "my off" => (first | with_reducible exact rfl | ((refine map_off ?_ ?_); (next => assumption); walk_at "my off") | exact rfl)
  k_with "call ref" => (k_here; (with_reducible show wpAny _ _ (call (Value.ref 133) [Value.str _ _]) _ _ _); refine' use_claim (d_fspath _ _) (by k_asm) (by k_asm) (by k_asm) (by k_asm) (by k_asm) (by first | exact rfl | assumption) (by (trivial)) (by walk_at "my room") (by walk_at "my units") ?_; (dsimp only [RetS]; intro _ _ _ _ _); (try dsimp only); (try k_fold))
  k_with "call ref" => (k_here; (with_reducible show wpAny _ _ (call (Value.ref 147) [Value.str _ _]) _ _ _); refine' use_claim (d_get_sep _ _) (by k_asm) (by k_asm) (by k_asm) (by k_asm) (by k_asm) (by first | exact rfl | assumption) (by (trivial)) (by walk_at "my room") (by walk_at "my units") ?_; (dsimp only [RetS]; intro _ _ _ _ _); (try dsimp only); (try k_fold))
  k_with "call ref" => (k_here; (with_reducible show wpAny _ _ (call (Value.ref 161) [Value.str _ _]) _ _ _); refine' use_claim (d_splitroot _ _) (by k_asm) (by k_asm) (by k_asm) (by k_asm) (by k_asm) (by first | exact rfl | assumption) (by (refine' ⟨?_, ?_, ?_⟩ <;> first | assumption | omega)) (by walk_at "my room") (by walk_at "my units") ?_; (dsimp only [RetN]; intro _ _ _ _ _ _ _ N9; (try dsimp only [List.cons_append, List.nil_append] at N9)); (try dsimp only); (try k_fold))
  k_with "call ref" => (k_here; (with_reducible show wpAny _ _ (call (Value.ref 154) [Value.str _ _, Value.str _ _]) _ _ _); refine' use_claim (d_join _ _ _ _) (by k_asm) (by k_asm) (by k_asm) (by k_asm) (by k_asm) (by first | exact rfl | assumption) (by (refine' ⟨?_, ?_, ?_, ?_⟩ <;> first | assumption | omega)) (by walk_at "my room") (by walk_at "my units") ?_; (dsimp only [RetS]; intro _ _ _ _ _); (try dsimp only); (try k_fold))
  k_with "exec While BoolOp cons nil" => (k_here; refine halt_at ?_)
  k_with "exec While Compare cons nil" => (k_here; refine halt_at ?_)
  k_with "exec While Constant cons nil" => (k_here; refine halt_at ?_)
  k_with "exec For Name Name cons nil" => (k_here; refine halt_at ?_)
  k_with "exec For Name Call cons nil" => (k_here; refine halt_at ?_)
  k_with "exec For Tuple Call cons nil" => (k_here; refine halt_at ?_)
  k_with "eval ListComp IfExp cons" => (k_here; refine halt_at ?_)
  k_with "call type:zip cons nil" => (k_here; refine halt_at ?_)
  k_with "exec Try" => (k_here; refine wpAny_Try_except ?_)
  k_with "exec Assign cons ListComp" => (k_here; refine halt_at ?_)
  k_with "eval SetComp Call cons" => (k_here; refine halt_at ?_)
  k_with "eval ListComp Name cons" => (k_here; refine halt_at ?_)
  k_with "call builtin:min" => (k_here; (with_reducible show wpAny _ _ (call (Value.builtin "min") [Value.ref _]) _ _ _); k_dflt (refine' min_K rfl (by walk_at "my units") (by k_asm) (by k_asm) (by walk_at "my mem") (by walk_at "my mem") (by walk_at "my mem") (by assumption) ?_); intro _ _ _ _)
  k_with "call builtin:max" => (k_here; (with_reducible show wpAny _ _ (call (Value.builtin "max") [Value.ref _]) _ _ _); k_dflt (refine' max_K rfl (by walk_at "my units") (by k_asm) (by k_asm) (by walk_at "my mem") (by walk_at "my mem") (by walk_at "my mem") (by assumption) ?_); intro _ _ _ _)
  k_with "call type:enumerate cons nil" => (k_here; refine halt_at ?_)
  k_with "subscriptTail Name Slice ref ref" => (k_here; refine halt_at ?_)
  k_with "storeName" => (k_here; k_dflt (refine' store_led (by k_asm) (by k_asm) ?_ (by rfl) (by rfl); k_whole; intro _ _ _ _ _ _ _; (try k_sweep)))
  trivial
noncomputable def parts (x : Str) : List Str := (Txt.split x (S "/")).filter fun c => c != S "" && c != S "."
theorem pair_items {x y : Str} {acc : Array Value} (h : ItemsOf (fun i v => ∃ t', v = .str (if i = 0 then x else y) t') acc 2) : ∃ t u, acc = #[.str x t, .str y u] := by
  obtain ⟨hs, h⟩ := h
  obtain ⟨l⟩ := acc
  cases l with
  | nil => cases hs
  | cons a l =>
  cases l with
  | nil => cases hs
  | cons b l =>
  cases l with
  | cons c r => exact absurd (Nat.succ.inj (Nat.succ.inj hs)) (Nat.succ_ne_zero _)
  | nil =>
    obtain ⟨t, e0⟩ := h 0 a rfl
    obtain ⟨u, e1⟩ := h 1 b rfl
    exact ⟨t, u, by rw [e0, e1]; rfl⟩
noncomputable def okV : Value → Bool | .str c _ => c != S "" && c != S "." | _ => false
theorem strs_len {l : List (Str × Tok)} {x y : Str} (h : l.map (fun z : Str × Tok => z.1) = Txt.split x y) : (strValues l).length ≤ x.length + 2 := by
  have := len_le_of_split (l := l) (x := x) (y := y) h
  show (l.map _).length ≤ _
  rw [List.length_map]; exact this
theorem strs_short {l : List (Str × Tok)} {x y : Str} {v : Value} (h : l.map (fun z : Str × Tok => z.1) = Txt.split x y) (hv : v ∈ strValues l) (hx : x.length ≤ 1000) : ∃ c tc, v = .str c tc ∧ c.length ≤ 1000 := by
  obtain ⟨z, hz, rfl⟩ := List.mem_map.mp hv
  refine ⟨_, _, rfl, ?_⟩
  have : z.1 ∈ Txt.split x y := h ▸ List.mem_map.mpr ⟨z, hz, rfl⟩
  exact Nat.le_trans (part_short this) hx
theorem ne_nil_of {c : Str} (h : (c.length : Int) ≠ 0) : (c != S "") = true := by
  rw [bne_iff_ne]; intro e; rw [e] at h; exact h rfl
theorem okV_t {c : Str} {t : Tok} (h1 : (c.length : Int) ≠ 0) (h2 : (c != Str.ofString ".") = true) : okV (.str c t) = true := by
  show (c != S "" && c != Str.ofString ".") = true
  rw [ne_nil_of h1, h2]; rfl
theorem okV_f1 {c : Str} {t : Tok} (h2 : (c != Str.ofString ".") = false) : okV (.str c t) = false := by
  show (c != S "" && c != Str.ofString ".") = false
  rw [h2, Bool.and_false]
theorem okV_f2 {c : Str} {t : Tok} (h : (c.length : Int) = 0) : okV (.str c t) = false := by
  have e : c = S "" := by
    obtain ⟨⟨l⟩⟩ := c
    have : l.length = 0 := by simpa [Str.length] using h
    rw [List.length_eq_zero_iff.mp this]; rfl
  show (c != S "" && c != Str.ofString ".") = false
  rw [e]; rfl
theorem parts_of {l : List (Str × Tok)} {x : Str} (h : l.map (fun z : Str × Tok => z.1) = Txt.split x (Str.ofString "/")) : ∃ al, (strValues l).filter okV = strValues al ∧ al.map (fun z : Str × Tok => z.1) = parts x := by
  refine ⟨l.filter fun z => z.1 != S "" && z.1 != S ".", ?_, ?_⟩
  · show (l.map _).filter okV = (l.filter _).map _
    rw [List.filter_map]; rfl
  · show _ = (Txt.split x (S "/")).filter _
    rw [← h, List.filter_map]; rfl
noncomputable def cpJ (xs ys : List Str) (m₀ : Str → Option Value) (N₀ : List (Addr × Obj)) (i : Nat) (m₁ : Str → Option Value) (nx : List (Addr × Obj)) : Prop :=
  nx = N₀ ∧ xs.take i = ys.take i ∧ (m₁ = m₀ ∨ ∃ vi vc, m₁ = fun y => if y = S "c" then some vc else if y = S "i" then some vi else m₀ y)
theorem fr_congr {h₀ h : Heap} {L : Addr} {m m' : Str → Option Value} (F : Fr h₀ L h m) (e : m = m') : Fr h₀ L h m' := e ▸ F
theorem parts_short {al : List (Str × Tok)} {x : Str} {z : Str × Tok} {i : Nat} (h : al.map (fun z : Str × Tok => z.1) = parts x) (hz : al[i]? = some z) (hx : x.length ≤ 1000) : z.1.length ≤ 1000 := by
  have : z.1 ∈ parts x := h ▸ List.mem_map.mpr ⟨z, List.mem_of_getElem? hz, rfl⟩
  exact Nat.le_trans (part_short (List.mem_filter.mp this).1) hx
theorem parts_len {al : List (Str × Tok)} {x : Str} (h : al.map (fun z : Str × Tok => z.1) = parts x) : al.length ≤ x.length + 2 := by
  have h1 := congrArg List.length h
  rw [List.length_map] at h1
  rw [h1]
  exact Nat.le_trans (List.length_filter_le _ _) (split_le x (S "/"))
theorem strs_at {al : List (Str × Tok)} {v : Value} {i : Nat} (h : (strValues al).toArray[i]? = some v) : ∃ z, al[i]? = some z ∧ v = .str z.1 z.2 := by
  have h' : (strValues al)[i]? = some v := by simpa using h
  rw [strValues, List.getElem?_map, Option.map_eq_some_iff] at h'
  obtain ⟨z, hz, rfl⟩ := h'
  exact ⟨z, hz, rfl⟩
theorem strs_get {al : List (Str × Tok)} {z : Str × Tok} {i : Nat} (h : al[i]? = some z) : (strValues al)[i]? = some (.str z.1 z.2) := by
  rw [strValues, List.getElem?_map, h]; rfl
theorem cell_off {l : List (Addr × Obj)} {n : Addr} (h : ∀ p ∈ l, p.1 < n) : (∀ p ∈ l, p.1 ≠ n + 1) ∧ (∀ p ∈ l, p.1 ≠ n + 1 + 1) :=
  ⟨fun p hp => Nat.ne_of_lt (Nat.lt_trans (h p hp) (Nat.lt_succ_self n)), fun p hp => Nat.ne_of_lt (Nat.lt_trans (Nat.lt_trans (h p hp) (Nat.lt_succ_self n)) (Nat.lt_succ_self (n+1)))⟩
noncomputable def cpre : List Str → List Str → List Str
  | a :: as, b :: bs => if a = b then a :: cpre as bs else []
  | _, _ => []
theorem cpre_brk : ∀ (i : Nat) (xs ys : List Str) (a b : Str), xs.take i = ys.take i → xs[i]? = some a → ys[i]? = some b → a ≠ b → cpre xs ys = xs.take i
  | 0, x :: xs, y :: ys, a, b, _, ha, hb, hn => by
    simp only [List.getElem?_cons_zero, Option.some.injEq] at ha hb
    subst ha hb
    simp only [cpre, if_neg hn, List.take_zero]
  | i + 1, x :: xs, y :: ys, a, b, h, ha, hb, hn => by
    simp only [List.take_succ_cons, List.cons.injEq, List.getElem?_cons_succ] at h ha hb
    simp only [cpre, if_pos h.1, List.take_succ_cons, cpre_brk i xs ys a b h.2 ha hb hn]
  | _, [], _, _, _, _, h, _, _ => by simp at h
  | _, _ :: _, [], _, _, _, _, h, _ => by simp at h
theorem cpre_done : ∀ (xs ys : List Str), xs = ys.take xs.length → cpre xs ys = xs
  | [], _, _ => by simp [cpre]
  | x :: xs, [], h => by simp at h
  | x :: xs, y :: ys, h => by
    simp only [List.length_cons, List.take_succ_cons, List.cons.injEq] at h
    simp only [cpre, if_pos h.1, cpre_done xs ys h.2]
theorem take_next {xs ys : List Str} {i : Nat} {a b : Str} (h : xs.take i = ys.take i) (ha : xs[i]? = some a) (hb : ys[i]? = some b) (hn : (a != b) = false) : xs.take (i + 1) = ys.take (i + 1) := by
  rw [List.take_add_one, List.take_add_one, h, ha, hb]
  have : a = b := by simpa using hn
  rw [this]
theorem fst_at {al : List (Str × Tok)} {i : Nat} {z : Str} {t : Tok} (h : al[i]? = some (z, t)) : (al.map (fun x : Str × Tok => x.1))[i]? = some z := by rw [List.getElem?_map, h]; rfl
theorem slice_strs (al : List (Str × Tok)) (i : Nat) : slicePick (strValues al).toArray none (some (i : Int)) none = (strValues (al.take i)).toArray := by
  rw [slicePick_upto']; simp [strValues]
noncomputable def cpath (x y : Str) : Str := S "/" ++ Txt.join (S "/") (cpre (parts x) (parts y))
theorem d_commonpath (x y : Str) (t u : Tok) (P : Addr) (k : Nat) : Cn w p loose mean mg mb 3 173 [.ref P] (fun news => (P, W.listOf #[.str x t, .str y u] k) ∈ news ∧ x.length ≤ 900 ∧ y.length ≤ 900 ∧ Txt.startswith x (Str.ofString "/") = true ∧ Txt.startswith y (Str.ofString "/") = true ∧ ltLs (parts y) (parts x) = false ∧ gtLs (parts y) (parts x) = true) (RetS (cpath x y)) := by
  dsimp only [Cn]; intros; rename_i hpre _ _ hret; obtain ⟨hD, hx9, hy9, hsx, hsy, hlx, hgx⟩ := hpre; have hx : x.length ≤ 1000 := Nat.le_trans hx9 (by decide); have hy : y.length ≤ 1000 := Nat.le_trans hy9 (by decide); refine wpAny_call ?_
  k_dflt (refine' code_defC ?k1 ?k2 ?k3 ?k4 ?k5 ?kA ?kF ?kK ?k6 ?k7 ?k8 ?k9 ?kB ?kD ?_ ?c2 ?c3 ?c4; (case kA => exact rfl); (case kF => exact rfl); (case kK => assumption); (case k1 => k_asm); (case k2 => k_asm); (case k3 => k_asm); (case k4 => k_asm); (case k5 => k_asm); (case k6 => k_is); (case k7 => k_is); (case k8 => walk_at "my room"); (case k9 => exact BindsTo.of_eq rfl); (case kB => exact rfl); (case kD => decide +kernel); (case c2 => exact rfl); (case c3 => exact rfl); (case c4 => exact rfl); k_whole; intro g' L' h' tk' cells' FG' F' N' Y' B' X' T' l1; (try k_lt l1); k_cells Y'; (try simp only [List.cons_append, List.nil_append] at N'); (try dsimp only); (try k_lift B'); (try k_fold); (try walk_at "my fold"))
  rename News _ _ _ _ => lN
  have lN2 := news_more lN (show (P, W.listOf #[.str x t, .str y u] k) ∈ _ from List.mem_cons_of_mem _ (List.mem_cons_of_mem _ hD))
  clear lN
  have hPL : @LT.lt Nat _ P L' := l1 _ hD
  obtain ⟨q1, q2⟩ := cell_off l1
  walk_at "my steps"
  refine' call_map (by k_asm) lN2 List.mem_cons_self ?_
  intro I TI it h8 hd8 hex8 J8
  obtain ⟨F8, o8, ho8, N8⟩ := id J8
  walk_at "my steps"
  refine' tup_map (P := fun i v => ∃ t', v = .str (if i = 0 then x else y) t') rfl hd8 hex8 ?hn ?hcall J8 ?_
  case hn => size_fits
  case hcall =>
    intro i v hv s9 Q9 E9 nw9 F9 N9 hr9
    have hv' : (i = 0 ∧ v = .str x t) ∨ (i = 1 ∧ v = .str y u) := by
      rcases i with _ | _ | i
      · exact .inl ⟨rfl, by simpa using hv.symm⟩
      · exact .inr ⟨rfl, by simpa using hv.symm⟩
      · simp at hv
    rcases hv' with ⟨rfl, rfl⟩ | ⟨rfl, rfl⟩
    · refine' use_claim (d_fspath x t) ?k1 F9 ?k3 N9 ?k5 ?kK trivial ?kd ?ku fun t9 h9 tk9 F10 N10 => hr9 _ _ _ ⟨t9, rfl⟩ F10 N10
      case k1 => k_asm
      case k3 => k_asm
      case k5 => k_asm
      case kK => exact rfl
      case kd => walk_at "my room"
      case ku => walk_at "my units"
    · refine' use_claim (d_fspath y u) ?k1 F9 ?k3 N9 ?k5 ?kK trivial ?kd ?ku fun t9 h9 tk9 F10 N10 => hr9 _ _ _ ⟨t9, rfl⟩ F10 N10
      case k1 => k_asm
      case k3 => k_asm
      case k5 => k_asm
      case kK => exact rfl
      case kd => walk_at "my room"
      case ku => walk_at "my units"
  intro D h9 tk9 acc9 l9 F9 N9 ha9
  k_lt l9
  obtain ⟨l9a, l9b, l9c, l9d⟩ := l9
  clear l9d
  obtain ⟨t9, u9, rfl⟩ := pair_items ha9
  clear ha9 N8 F8 J8 hex8 hd8 ho8
  walk_at "my steps"
  walk_at "my steps"
  refine Halt.go ?_
  refine Assign_T (F₀ := by k_asm) (by rfl) (by with_unfolding_all rfl) (by rfl) (by decide) (by rfl) (by decide) (by rfl) (by rfl) (by rfl) ?_
  walk_at "my steps"
  refine SrcTAt.intro (by rfl) (by k_asm) (by k_asm) (by walk_at "my mem") (by size_fits) ?_
  intro g9
  lcg_lit
  walk_at "my steps"
  rename List.map (fun x : Str × Tok => x.1) _ = _ => sp1
  refine comp_end (by k_asm) (by assumption) (by assumption) rfl (by assumption) (Or.inr ⟨_, by walk_at "my mem", rfl, _, rfl⟩) ?_
  walk_at "my steps"
  refine comp_end (by k_asm) (by assumption) (by assumption) rfl (by assumption) (Or.inr ⟨_, by walk_at "my mem", rfl, _, rfl⟩) ?_
  walk_at "my steps"
  refine Halt.go ?_
  rename Fr _ _ _ _ => lF
  rename News _ _ _ _ => lN
  refine SC_true lF lN rfl (by walk_at "my mem") (by show 0 < 2; decide) (by rfl) (by decide) (by rfl) (by decide) (by rfl) (by intro _; rfl) ?src ?helt ?hQ
  case src => 
    walk_at "my steps"
    all_goals k_asm
  case helt =>
    intro i v s' m₂ C oC hv hoC hm₂ F4 N4 Q' E' hQ'
    clear lF lN
    have hv' : (i = 0 ∧ v = .str x t9) ∨ (i = 1 ∧ v = .str y u9) := by
      rcases i with _ | _ | i
      · exact .inl ⟨rfl, by simpa using hv.symm⟩
      · exact .inr ⟨rfl, by simpa using hv.symm⟩
      · simp at hv
    rcases hv' with ⟨rfl, rfl⟩ | ⟨rfl, rfl⟩
    · walk_at "my steps"
      rw [hsx]; exact hQ' _
    · walk_at "my steps"
      rw [hsy]; exact hQ' _
  intro Sa h8 tk8 F8 N8
  clear lF lN
  walk_at "my steps"
  refine assign_set1 rfl (by k_asm) (by k_asm) (by walk_at "my mem") ?_
  intro h7 F7 N7
  rename List.map (fun x : Str × Tok => x.1) _ = Txt.split y _ => sp2
  walk_at "my steps"
  refine Halt.go ?_
  refine LCg.Assign_ListComp_U (F₀ := by k_asm) (by rfl) (by with_unfolding_all rfl) (by rfl) (by decide) (by rfl) (by decide) (by rfl) (by rfl) (by rfl) ?_
  walk1
  refine LCg.CompSrc.ledger (by rfl) (by k_asm) (by k_asm) (by walk_at "my mem") (by size_fits) ?_
  intro g9
  lcg_lit
  walk1
  rename Fr _ _ _ _ => lF
  rename News _ _ _ _ => lN
  refine LC_filter okV lF lN rfl (List.mem_cons_of_mem _ (List.mem_cons_of_mem _ (List.mem_cons_of_mem _ (List.mem_cons_of_mem _ (List.mem_cons_of_mem _ (List.mem_cons_of_mem _ List.mem_cons_self)))))) (by have := strs_len sp1; (first | lia | omega)) (by rfl) (by decide) (by rfl) (by decide) (by rfl) (by intro _; rfl) (by decide) ?src2 ?htest ?hQ2
  case src2 =>
    walk_at "my steps"
    all_goals first | rfl | k_asm
  case htest =>
    intro v s' m₂ C oC hv hoC hm₂ F4 N4 Q' E' hQ'
    clear lF lN
    obtain ⟨c, tc, rfl, hc⟩ := strs_short sp1 hv hx
    walk_at "my steps"
    all_goals first
      | (rw [okV_t (by assumption) (by assumption)] at hQ'; exact hQ' _)
      | (rw [okV_f1 (by assumption)] at hQ'; exact hQ' _)
      | (rw [okV_f2 (by assumption)] at hQ'; exact hQ' _)
  intro D5 h5 tk5 l5 F5 N5
  obtain ⟨xl, hxl, hxm⟩ := parts_of sp1
  rw [hxl] at N5
  clear lF
  refine comp_endN (by k_asm) (by assumption) ?lt (by assumption) (Or.inr ⟨_, by walk_at "my mem", rfl, _, rfl⟩) ?_
  case lt => exact l5
  clear lN
  walk1
  rename Fr _ _ _ _ => lF
  rename News _ _ _ _ => lN
  refine LC_filter okV lF lN rfl (List.mem_cons_of_mem _ (List.mem_cons_of_mem _ (List.mem_cons_of_mem _ (List.mem_cons_of_mem _ (List.mem_cons_of_mem _ (List.mem_cons_of_mem _ List.mem_cons_self)))))) (by have := strs_len sp2; (first | lia | omega)) (by rfl) (by decide) (by rfl) (by decide) (by rfl) (by intro _; rfl) (by decide) ?src3 ?htest3 ?hQ3
  case src3 =>
    walk_at "my steps"
    all_goals first | rfl | k_asm
  case htest3 =>
    intro v s' m₂ C oC hv hoC hm₂ F4 N4 Q' E' hQ'
    clear lF lN
    obtain ⟨c, tc, rfl, hc⟩ := strs_short sp2 hv hy
    walk_at "my steps"
    all_goals first
      | (rw [okV_t (by assumption) (by assumption)] at hQ'; exact hQ' _)
      | (rw [okV_f1 (by assumption)] at hQ'; exact hQ' _)
      | (rw [okV_f2 (by assumption)] at hQ'; exact hQ' _)
  intro D6 h6 tk6 l6 F6 N6
  obtain ⟨yl, hyl, hym⟩ := parts_of sp2
  rw [hyl] at N6
  clear lF
  refine comp_endN (by k_asm) (by assumption) ?lt2 (by assumption) (Or.inr ⟨_, by walk_at "my mem", rfl, _, rfl⟩) ?_
  case lt2 => exact l6
  clear lN
  walk1
  walk1
  rw [← hxm, ← hym] at hlx hgx
  walk_at "my steps"
  refine Halt.go ?_
  refine For_pair3F (by k_asm) rfl (by rfl) (by rfl) (by rfl) ?src4 (by intro _; rfl)
  case src4 =>
    walk_at "my steps"
    refine Halt.go ?_
    rename Fr _ _ _ _ => lF
    rename News _ _ _ _ => lN
    replace lN := cp_clean lN
    obtain ⟨m₀, hm₀, lF⟩ : ∃ m₀, m₀ = _ ∧ Fr _ _ _ m₀ := ⟨_, rfl, lF⟩
    refine enum_src (its := (strValues xl).toArray) (cpJ (xl.map (·.1)) (yl.map (·.1)) m₀ _) rfl lF lN ?hl ?hlL ⟨rfl, rfl, .inl rfl⟩ ?step ?done
    case hl => exact ⟨_, (lN (D5, LCg.lst (strValues xl)) (by walk_at "my mem")).1, rfl, _, rfl⟩
    case hlL => exact (lN (D5, LCg.lst (strValues xl)) (by walk_at "my mem")).2.1
    case step =>
      rintro i v1 t1 m₁ news₁ h9 tk9 own hv ⟨rfl, hpre, hm⟩ ha9 F9 N9
      have hm9 : (fun y => if y = S "c" then some v1 else if y = S "i" then some (.int i t1) else m₁ y) = fun y => if y = S "c" then some v1 else if y = S "i" then some (.int i t1) else m₀ y := by
        rcases hm with rfl | ⟨vi, vc, rfl⟩
        · rfl
        · funext y; by_cases h1 : y = S "c"
          · simp only [h1, if_true]
          · by_cases h2 : y = S "i"
            · simp only [h1, h2, if_true, if_false]
            · simp only [h1, h2, if_false]
      replace F9 := fr_congr F9 hm9
      clear hm lF lN hm9
      subst hm₀
      obtain ⟨z, hz, rfl⟩ := strs_at hv
      have hiy : i < yl.length := by
        have := gt_place (xl.map (·.1)) (yl.map (·.1)) i hgx hpre (by rw [List.length_map]; exact (List.getElem?_eq_some_iff.mp hz).1)
        rwa [List.length_map] at this
      obtain ⟨z2, hz2⟩ : ∃ z2, yl[i]? = some z2 := ⟨_, List.getElem?_eq_getElem hiy⟩
      have hzl := parts_short hxm hz hx
      have hzl2 := parts_short hym hz2 hy
      have hyl9 := parts_len hym
      have hxl9 := parts_len hxm
      obtain ⟨z, tz⟩ := z
      obtain ⟨z2, tz2⟩ := z2
      walk_at "my steps"
      refine item_at (isL_of N9 (List.mem_append_right _ (by walk_at "my mem"))) (by rw [sizeLine_eq, strValues, List.length_map]; (first | lia | omega)) (strs_get hz2) ?_
      walk_at "my steps"
      · refine Halt.go ?_
        rename News _ _ _ _ => N10
        replace N10 := news_own N10
        walk_at "my slice"
        rename_i D7 h7 F7 N7 l7
        rw [slice_strs] at N7
        have hne : z ≠ z2 := by simpa using (show (z != z2) = true by assumption)
        have hcp := cpre_brk i _ _ z z2 hpre (fst_at hz) (fst_at hz2) hne
        rw [← List.map_take] at hcp
        have hal7 : (xl.take i).length ≤ 4000 := by rw [List.length_take]; (first | lia | omega)
        have hparts : ∀ y ∈ (xl.take i).map (·.1), y.length ≤ 4000 := fun q hq => by
          rw [List.map_take, hxm] at hq
          exact Nat.le_trans (part_short (List.mem_filter.mp (List.mem_of_mem_take hq)).1) (Nat.le_trans hx (by decide))
        have hjl : (Txt.join (Str.ofString "/") (List.map (fun x => x.fst) (xl.take i))).length ≤ 4004000 := join_small hparts (by rw [List.length_map, List.length_take]; (first | lia | omega)) (by decide +kernel)
        rw [show cpath x y = Str.ofString "/" ++ Txt.join (Str.ofString "/") (List.map (fun x => x.fst) (xl.take i)) by rw [← hcp, hxm, hym]; rfl] at hret
        walk_at "my steps"
        (refine' hret _ _ _ ?e2 ?e3; (case e2 => k_asm); (case e3 => walk_at "my news"))
      · have hne : (z != z2) = false := by assumption
        exact ⟨rfl, take_next hpre (fst_at hz) (fst_at hz2) hne, .inr ⟨_, _, rfl⟩⟩
    case done =>
      intro m₁ news₁ h9 tk9 hJ ha9 F9 N9
      (try dsimp only)
      obtain ⟨rfl, hpre, hm⟩ := hJ
      have hm9 : m₁ (S "common") = m₀ (S "common") ∧ m₁ (S "isabs") = m₀ (S "isabs") := by
        rcases hm with rfl | ⟨vi, vc, rfl⟩
        · exact ⟨rfl, rfl⟩
        · exact ⟨rfl, rfl⟩
      replace F9 := fr2 F9 hm9.1 hm9.2
      subst hm₀
      clear hm lF lN
      have hxl9 := parts_len hxm
      have hn : (strValues xl).toArray.size = (xl.map (·.1)).length := by simp [strValues]
      have hcp := cpre_done (xl.map (·.1)) (yl.map (·.1)) (by rw [hn, List.take_length] at hpre; exact hpre)
      have hparts : ∀ y ∈ xl.map (·.1), y.length ≤ 4000 := fun q hq => by
        rw [hxm] at hq
        exact Nat.le_trans (part_short (List.mem_filter.mp hq).1) (Nat.le_trans hx (by decide))
      have hjl : (Txt.join (Str.ofString "/") (List.map (fun x => x.fst) xl)).length ≤ 4004000 := join_small hparts (by rw [List.length_map]; (first | lia | omega)) (by decide +kernel)
      rw [show cpath x y = Str.ofString "/" ++ Txt.join (Str.ofString "/") (List.map (fun x => x.fst) xl) by rw [← hcp, hxm, hym]; rfl] at hret
      walk_at "my steps"
      (refine' hret _ _ _ ?e2 ?e3; (case e2 => k_asm); (case e3 => walk_at "my news"))

end

noncomputable section
open PySem PySem.W PyProof.Rows PySem.Calls PySem.Spec Mine
variable {w : World} {p : Program} {loose : List Str} {mean : ExcName → Option Value} {mg mb : Str → Option Value}
set_option maxHeartbeats 4000000
set_option rowWalk.seconds 0
theorem rows11 : True := by
  k_with_none
  k_with "my fits" => (first | with_reducible assumption | (simp only [sizeLine_eq] at *; omega))
  k_with "call builtin:issubclass" => (k_here; (with_reducible show wpAny _ _ (call (Value.builtin "issubclass") [Value.type "str", Value.ref _]) _ _ _); (refine' call_issub (isTup_of (by k_asm) (by news_mem)) ?_))
  k_with "my size" => (first | with_reducible assumption | (simp only [strValues, List.size_toArray, List.length_map, List.length_append, List.length_cons, List.length_nil, sizeLine_eq]; omega))
  k_with "call builtin:list.append" => (k_here; (with_reducible show wpAny _ _ (call (Value.builtin _) [Value.ref _, _]) _ _ _); k_dflt (refine' append_K (by k_asm) (by k_asm) (by k_upd) ?_ (by walk_at "my size"); k_whole); intro _ _ _)
  k_with "truthy ref" => (k_here; (with_reducible show wpAny _ _ (truthy (Value.ref _)) _ _ _); refine' truthy_L (by exact isL_of (by with_reducible assumption) (by walk_at "my mem")) (by walk_at "my size") ?_ ?_; intro _ _)
  k_with "call builtin:list.pop" => (k_here; (try dsimp only); k_dflt (refine' pop_L (by k_asm) (by k_asm) (by k_upd) (by walk_at "my size") ?_); intro _ _ _)
  k_with "subscriptTail Name UnaryOp ref int" => (k_here; (with_reducible show wpAny _ _ (subscriptTail _ _ (Value.ref _) (Value.int (-1) _)) _ _ _); refine' item_last (by exact isL_of (by with_reducible assumption) (by walk_at "my mem")) (by walk_at "my size") (by exact List.getLast?_concat) ?_ (by with_unfolding_all rfl))
  k_with "truthy ref" => (k_here; (with_reducible show wpAny _ _ (truthy (Value.ref _)) _ _ _); refine' truthy_L1 (by exact isL_of (by with_reducible assumption) (by walk_at "my mem")) (by walk_at "my size") ?_; intro _)
  k_with "call builtin:str.join" => (k_here; (with_reducible show wpAny _ _ (call (Value.builtin "str.join") [Value.str _ _, Value.ref _]) _ _ _); first
  | (refine' my_join (by exact isL_of (by with_reducible assumption) (by walk_at "my mem")) (by decide +kernel) (by omega) (by walk_at "my parts") ?_; intro _ _)
  | (refine' my_join2 (by exact isL_of (by with_reducible assumption) (by walk_at "my mem")) (by decide +kernel) (by omega) (by walk_at "my parts") (by walk_at "my len") ?_; intro _ _))
  k_with "my mem" => (with_reducible (first | exact List.mem_cons_self | (refine List.mem_cons_of_mem _ ?_; walk_at "my mem")))
  k_with "my parts" => (assumption)
  k_with "my len" => (first | (simp only []; omega) | omega)
  k_with "my in" => (first | with_reducible assumption | with_reducible exact List.mem_cons_self | with_reducible exact List.mem_append_left _ (by with_reducible assumption) | with_reducible exact List.mem_append_right _ (by with_reducible assumption) | ((with_reducible refine List.mem_cons_of_mem _ ?_); walk_at "my in"))
  k_with "my all" => (first | with_reducible exact List.forall_mem_nil _ | ((with_reducible refine List.forall_mem_cons.mpr ⟨by walk_at "my mem", ?_⟩); walk_at "my all") | (intro _ _; walk_at "my in"))
  k_with "my news" => (first | with_reducible assumption | (refine' news_sub (by with_reducible assumption) (by intro _ _; walk_at "my in")))
  k_with "my led" => ((try simp only [List.cons_append]); with_reducible assumption)
  k_with "my slice" => (k_here; (with_reducible show wpAny _ _ (subscriptTail _ (PySem.Expr.Slice _ _ none _) (Value.ref _) (Value.ref _)) _ _ _); k_dflt (refine' kmk_slice (by k_asm) (by k_asm) (by exact isL_of (by with_reducible assumption) (by walk_at "my mem")) (by kmk_part) (by kmk_part) ?_ (by with_unfolding_all rfl) (by kmk_pure) (by first | walk_at "my size" | (simp only [List.size_toArray, intVals, List.length_map]; rw [sizeLine_eq]; omega))); intro _ _ _ _ _)
  k_with "my fold" => (refine fold_ae ?_; intro _ _)
  k_with "storeName" => (k_here; k_dflt (refine' store_let (by k_asm) (by k_asm) ?_ (by rfl) (by rfl); k_whole; intro _ _ _ _ _ _; (try k_sweep)))
  k_with "exec If" => (k_here; (refine if_let ?_); intro _)
  k_with "execs cons" => (k_here; (refine cons_let ?_); intro _ _ _ _)
  k_with "execs cons" => (k_here; (with_reducible show wpAny _ _ (execs (_ :: []) _) _ _ _); (refine execs_1 ?_); intro _ _ _)
  k_with "execs cons" => (k_here; k_gentoks; (refine st_let2 ?_); intro _)
  k_with "my room" => (k_dflt (first | exact room1 (k := 1) rfl rfl (by with_reducible assumption) | exact room1 (k := 2) rfl rfl (by with_reducible assumption) | exact room1 (k := 3) rfl rfl (by with_reducible assumption) | exact room0 (k := 1) rfl rfl (by with_reducible assumption) | exact room0 (k := 2) rfl rfl (by with_reducible assumption) | exact room0 (k := 3) rfl rfl (by with_reducible assumption) | ktr_room | (show Around.depth (Around.deeper _ _) + _ < recursionLimit; first | ktr_room) | (show Around.depth (Around.deeper _ _) < recursionLimit; first | ktr_room)))
  k_with "my units" => (k_dflt (first | exact unit1 (k := 3) rfl rfl (by with_reducible assumption) | exact unit1 (k := 4) rfl rfl (by with_reducible assumption) | exact unit1 (k := 5) rfl rfl (by with_reducible assumption) | exact unit1 (k := 6) rfl rfl (by with_reducible assumption) | exact unit1 (k := 7) rfl rfl (by with_reducible assumption) | exact unit1 (k := 8) rfl rfl (by with_reducible assumption) | exact unit0 (k := 3) rfl rfl (by with_reducible assumption) | exact unit0 (k := 6) rfl rfl (by with_reducible assumption) | ktr_units | (show Around.units (Around.deeper _ _) + _ < cLine; first | ktr_units)))
  k_with "my steps" => (repeat' (first | ((fail_if_success (fail_if_success k_unfold)); (first | (show wpAny _ _ _ _ _ _) | (k_unfold; (try dsimp only)))) | (k_end; wrow_close) | walk1 | (dsimp only; walk1) | (leave1; (try dsimp only)) | fail "no step"))
  k_with "my off" => (first | with_reducible exact rfl | ((refine map_off ?_ ?_); (next => assumption); walk_at "my off") | exact rfl)
  k_with "enter dflt" => (refine wpAny_call ?_; k_dflt (refine' code_def (by k_asm) (by k_asm) (by k_asm) (by k_asm) (by k_asm) rfl rfl (by assumption) (by k_is) (by k_is) (by walk_at "my room") (by exact binds_K (by k_in) rfl (by k_is) rfl rfl rfl) (by exact locs rfl) ?_ (by exact rfl) (by exact rfl) (by exact rfl) (by decide); k_whole; intro _ _ _ _ _ _ B' _ _; (try dsimp only); (try k_lift B'); (try k_fold); (try walk_at "my fold")))
  k_with "enter here" => (refine wpAny_call ?_; k_dflt (refine' code_def (by k_asm) (by k_asm) (by k_asm) (by k_asm) (by k_asm) rfl rfl rfl (by k_is) (by k_is) (by walk_at "my room") (by exact BindsTo.of_eq rfl) (by exact locs rfl) ?_ (by exact rfl) (by exact rfl) (by exact rfl) (by decide); k_whole; intro _ _ _ _ _ _ B' _ _; (try dsimp only); (try k_lift B'); (try k_fold); (try walk_at "my fold")))
  k_with "call ref" => (k_here; (with_reducible show wpAny _ _ (call (Value.ref 498) _) _ _ _); walk_at "enter here")
  k_with "call ref" => (k_here; (with_reducible show wpAny _ _ (call (Value.ref 505) _) _ _ _); walk_at "enter here")
  k_with "call ref" => (k_here; (with_reducible show wpAny _ _ (call (Value.ref 187) _) _ _ _); walk_at "enter here")
  k_with "subscriptTail Attribute Name Slice str ref" => (walk_at "subscriptTail Name Slice str ref")
  k_with "subscriptTail BinOp Subscript Add Constant Slice str ref" => (walk_at "subscriptTail Name Slice str ref")
  k_with "storeName" => (k_here; k_dflt (refine' store_led (by k_asm) (by k_asm) ?_ (by rfl) (by rfl); k_whole; intro _ _ _ _ _ _ _; (try k_sweep)))
  trivial
theorem d_sinit (x : Str) (t : Tok) (X D : Addr) (rest : List (Addr × Obj)) : Cn w p loose mean mg mb 3 491 [.ref X, .str x t] (fun news => news = (X, instObj 721 D) :: (D, emptyDict) :: rest ∧ (∀ p ∈ rest, p.1 < D) ∧ D < X ∧ x.length ≤ 1000)
    (fun h₀ L m _ s Q => ∀ (k1 k2 k3 tn tb tp : Tok) h' tk', Fr h₀ L h' m → News h₀ L h' ((X, instObj 721 D) :: (D, sioD w.params x 0 k1 k2 k3 tn tb tp) :: rest) → Q .none { s with heap := h', toks := tk' }) := by
  dsimp only [Cn]; intros; rename_i hpre _ _ hret; obtain ⟨rfl, hlt, hDX, hx⟩ := hpre
  replace hlt := allLt_of hlt
  k_lt2 hDX
  walk_at "enter dflt"
  rename Fr _ _ _ _ => lF
  replace lF := fr_to (fun y => List.lookup y [(S "newline", .str (S "\n") 869), (S "initial_value", .str x t), (S "self", .ref X)]) lF
  walk_at "my steps"
  exact hret _ _ _ _ _ _ _ _ (by k_asm) (by k_asm)
theorem d_read (x : Str) (i : Nat) (X D : Addr) (t1 k1 k2 k3 tn tb tp : Tok) (rest : List (Addr × Obj)) : Cn w p loose mean mg mb 3 667 [.ref X, .int 1 t1] (fun news => news = (X, instObj 721 D) :: (D, sioD w.params x i k1 k2 k3 tn tb tp) :: rest ∧ (∀ p ∈ rest, p.1 ≠ D) ∧ X ≠ D ∧ x.length ≤ 1000)
    (fun h₀ L m _ s Q => (∀ c, x.cps[i]? = some c → ∀ (t tp : Tok) h' tk', Fr h₀ L h' m → News h₀ L h' ((X, instObj 721 D) :: (D, sioD w.params x (i + 1 : Nat) k1 k2 k3 tn tb tp) :: rest) → Q (.str ⟨#[c]⟩ t) { s with heap := h', toks := tk' }) ∧
      (x.cps[i]? = none → ∀ (t : Tok) h' tk', Fr h₀ L h' m → News h₀ L h' ((X, instObj 721 D) :: (D, sioD w.params x i k1 k2 k3 tn tb tp) :: rest) → Q (.str (Str.ofString "") t) { s with heap := h', toks := tk' })) := by
  dsimp only [Cn]; intros; rename_i hpre _ _ hret; obtain ⟨rfl, hlt, hDX, hx⟩ := hpre; replace hDX := neN hDX; obtain ⟨hr1, hr2⟩ := hret
  rw [show ((i + 1 : Nat) : Int) = (i : Int) + 1 from rfl] at hr1
  walk_at "enter dflt"
  rename Fr _ _ _ _ => lF
  replace lF := fr_to (fun y => List.lookup y [(S "size", .int 1 t1), (S "self", .ref X)]) lF
  walk_at "my steps"
  · exact hr2 (at_none (by assumption)) _ _ _ (by k_asm) (by k_asm)
  · obtain ⟨c, hc⟩ := at_some (x := x) (i := i) (by (first | lia | omega))
    rw [one_of x i c hc]; exact hr1 c hc _ _ _ _ (by k_asm) (by k_asm)
  · obtain ⟨c, hc⟩ := at_some (x := x) (i := i) (by (first | lia | omega))
    have hxi : (x.length : Int) = (i : Int) + 1 := by (first | lia | omega)
    rw [hxi, one_of x i c hc]
    exact hr1 c hc _ _ _ _ (by k_asm) (by rw [← hxi]; k_asm)
theorem d_new (v : Value) : Cl w p loose mean mg mb 3 214 [.ref 721, v] True (fun h₀ L m news s Q => ∀ x dx h' tk', Fr h₀ L h' m → News h₀ L h' ((x, instObj 721 dx) :: (dx, emptyDict) :: news) → (∀ p ∈ news, p.1 < dx) → dx < x → Q (.ref x) { s with heap := h', toks := tk' }) := by
  dsimp only [Cl]; intros; rename_i hpre _ _ hret
  refine wpAny_call ?_; k_dflt (refine' kp_both (o₁ := { cls := .type "tuple", data := .seq #[v] }) (o₂ := emptyDict) (binds := fun D D2 => [(S "cls", .ref 721), (S "args", .ref D), (S "kwargs", .ref D2)]) ?k1 ?k2 ?k3 ?k4 ?k5 ?kA ?kF ?kK ?k6 ?k7 ?k8 ?kp ?kq ?kr ?kf ?kg ?kB ?_ ?c2 ?c3 ?c4 ?c5; (case kA => exact rfl); (case kF => exact rfl); (case kK => assumption); (case k1 => k_asm); (case k2 => k_asm); (case k3 => k_asm); (case k4 => k_asm); (case k5 => k_asm); (case k6 => k_is); (case k7 => k_is); (case k8 => walk_at "my room"); (case kp => exact rfl); (case kq => exact fun _ => rfl); (case kr => exact fun _ _ => rfl); (case kf => exact rfl); (case kg => exact rfl); (case kB => exact fun _ _ => locs rfl); (case c5 => decide); (case c2 => exact rfl); (case c3 => exact rfl); (case c4 => exact rfl); k_whole; intro D' D2' g' L' h' l1 l2 FG' F' N' B' X' T'; (try k_lt l1); (try dsimp only); (try k_lift B'); (try k_fold); (try walk_at "my fold"))
  rename News _ _ _ _ => lN
  replace lN := news_tl2 lN
  walk_at "my steps"
  rename Fr _ _ _ _ => lF
  rename Frag.In _ _ => lX
  rename News _ _ _ _ => lN
  refine wpAny_call (new_code (lX.keeps lF.keep) lF lN ?_)
  intro xa dx h' F' N' l1 l2
  walk_at "my steps"
  exact hret _ _ _ _ (by k_asm) (by k_asm) l1 l2
theorem d_sio (x : Str) (t : Tok) : Cl w p loose mean mg mb 5 721 [.str x t] (x.length ≤ 1000)
    (fun h₀ L m news s Q => ∀ X D (k1 k2 k3 tn tb tp : Tok) h' tk', Fr h₀ L h' m → News h₀ L h' ((X, instObj 721 D) :: (D, sioD w.params x 0 k1 k2 k3 tn tb tp) :: news) → (∀ p ∈ news, p.1 < D) → D < X → Q (.ref X) { s with heap := h', toks := tk' }) := by
  dsimp only [Cl]; intros; rename_i hpre _ _ hret
  rename Fr _ _ _ _ => lF
  rename Frag.In _ _ => lX
  rename News _ _ _ _ => lN
  have KX := lX.keeps lF.keep
  have t1 := lk_made KX
  have t2 := lk_mro KX
  have t3 := lk_call KX
  have t4 := lk_typ KX
  refine wpAny_call (codeAny_of_tree ?_)
  refine nd_load (KX 721 _ (by k_is)) ?_
  show wpAny _ _ (callAny.viaDunder (.ref 721) _) _ _ _
  unfold callAny.viaDunder
  refine wpAny_bind (t3.here ?_)
  dsimp only
  rw [tc_bind]
  refine wpAny_bind (wpAny_pure (wpAny_bind (wpAny_pure ?_)))
  refine wpAny_pure (a := Fin.again (.call (.builtin "type.__call__") ⟨[.ref 721, .str x t], []⟩)) (And.intro rfl ?_)
  refine codeAny_call_builtin_at (Code.quiet_builtin _ (by decide +kernel)) entry_typeCall (check_slot tc_kind tc_split t4 (tc_args _ _ _) ?_)
  unfold Builtin.«type.__call__»
  refine wpAny_bind (t2.here ?_)
  refine wpAny_bind (t1.here ?_)
  refine wpAny_bind ?_
  refine' cls_bind KX (mc := .type "type") ?kr ?ke ?_
  case kr => k_is
  case ke => k_is
  refine wpAny_call (sm_get KX (by k_is) ?_)
  refine handed_on (by kernel_rfl) ?_
  rename List (Addr × Obj) => nw
  have hw9 : (Code.builtin "type.__call__" ⟨[.ref 721, .str x t], []⟩).weight = 1 := rfl
  have hu9 : (Code.builtin "type.__call__" ⟨[.ref 721, .str x t], []⟩).cUnits = 1 := rfl
  refine wpAny_bind (wpAny_holding ?_)
  refine' use_claim (d_new _) ?k1 ?k2 ?k3 ?k4 ?k5 ?kK ?kp ?kd ?ku ?_
  case k1 => k_asm
  case k2 => k_asm
  case k3 => k_asm
  case k4 => k_asm
  case k5 => k_asm
  case kK => assumption
  case kp => trivial
  case kd => walk_at "my room"
  case ku => walk_at "my units"
  intro xa dx h8 tk8 F8 N8 l8 l9
  dsimp only
  have KX8 : (kf w.params).In h8 := lX.keeps F8.keep
  have ht : Looks (model pw w) h8 (isInstance (.ref xa) (.ref 721)) true := (Looks.ld (N8 _ List.mem_cons_self).1).andThen (lk_sub2 KX8)
  refine wpAny_bind (ht.here ?_)
  simp only [Bool.not_true, Bool.false_eq_true, if_false]
  refine wpAny_bind (wpAny_holding ?_)
  refine special_fn (K := kf w.params) KX8 (by k_inst) (by k_is) (by k_is) ?_
  refine' use_claimN (d_sinit _ _ _ dx nw) ?k1 ?k2 ?k3 ?k4 ?k5 ?kK ?kp ?kd ?ku ?_
  case k1 => k_asm
  case k2 => k_asm
  case k3 => k_asm
  case k4 => k_asm
  case k5 => k_asm
  case kK => assumption
  case kp => exact ⟨rfl, l8, l9, hpre⟩
  case kd => walk_at "my room"
  case ku => walk_at "my units"
  intro k1 k2 k3 tn tb tp h7 tk7 F7 N7
  dsimp only
  simp only [bne_self_eq_false, Bool.false_eq_true, if_false]
  exact wpAny_pure (hret xa dx _ _ _ _ _ _ _ _ F7 N7 l8 l9)

end

noncomputable section
open PySem PySem.W PyProof.Rows PySem.Calls PySem.Spec Mine
variable {w : World} {p : Program} {loose : List Str} {mean : ExcName → Option Value} {mg mb : Str → Option Value}
set_option maxHeartbeats 4000000
set_option rowWalk.seconds 0
theorem rows12 : True := by
  k_with_none
  k_with "my fits" => (first | with_reducible assumption | (simp only [sizeLine_eq] at *; omega))
  k_with "call builtin:issubclass" => (k_here; (with_reducible show wpAny _ _ (call (Value.builtin "issubclass") [Value.type "str", Value.ref _]) _ _ _); (refine' call_issub (isTup_of (by k_asm) (by news_mem)) ?_))
  k_with "my size" => (first | with_reducible assumption | (simp only [strValues, List.size_toArray, List.length_map, List.length_append, List.length_cons, List.length_nil, sizeLine_eq]; omega))
  k_with "call builtin:list.append" => (k_here; (with_reducible show wpAny _ _ (call (Value.builtin _) [Value.ref _, _]) _ _ _); k_dflt (refine' append_K (by k_asm) (by k_asm) (by k_upd) ?_ (by walk_at "my size"); k_whole); intro _ _ _)
  k_with "truthy ref" => (k_here; (with_reducible show wpAny _ _ (truthy (Value.ref _)) _ _ _); refine' truthy_L (by exact isL_of (by with_reducible assumption) (by walk_at "my mem")) (by walk_at "my size") ?_ ?_; intro _ _)
  k_with "call builtin:list.pop" => (k_here; (try dsimp only); k_dflt (refine' pop_L (by k_asm) (by k_asm) (by k_upd) (by walk_at "my size") ?_); intro _ _ _)
  k_with "subscriptTail Name UnaryOp ref int" => (k_here; (with_reducible show wpAny _ _ (subscriptTail _ _ (Value.ref _) (Value.int (-1) _)) _ _ _); refine' item_last (by exact isL_of (by with_reducible assumption) (by walk_at "my mem")) (by walk_at "my size") (by exact List.getLast?_concat) ?_ (by with_unfolding_all rfl))
  k_with "truthy ref" => (k_here; (with_reducible show wpAny _ _ (truthy (Value.ref _)) _ _ _); refine' truthy_L1 (by exact isL_of (by with_reducible assumption) (by walk_at "my mem")) (by walk_at "my size") ?_; intro _)
  k_with "call builtin:str.join" => (k_here; (with_reducible show wpAny _ _ (call (Value.builtin "str.join") [Value.str _ _, Value.ref _]) _ _ _); first
  | (refine' my_join (by exact isL_of (by with_reducible assumption) (by walk_at "my mem")) (by decide +kernel) (by omega) (by walk_at "my parts") ?_; intro _ _)
  | (refine' my_join2 (by exact isL_of (by with_reducible assumption) (by walk_at "my mem")) (by decide +kernel) (by omega) (by walk_at "my parts") (by walk_at "my len") ?_; intro _ _))
  k_with "my mem" => (with_reducible (first | exact List.mem_cons_self | (refine List.mem_cons_of_mem _ ?_; walk_at "my mem")))
  k_with "my parts" => (assumption)
  k_with "my len" => (first | (simp only []; omega) | omega)
  k_with "my in" => (first | with_reducible assumption | with_reducible exact List.mem_cons_self | with_reducible exact List.mem_append_left _ (by with_reducible assumption) | with_reducible exact List.mem_append_right _ (by with_reducible assumption) | ((with_reducible refine List.mem_cons_of_mem _ ?_); walk_at "my in"))
  k_with "my all" => (first | with_reducible exact List.forall_mem_nil _ | ((with_reducible refine List.forall_mem_cons.mpr ⟨by walk_at "my mem", ?_⟩); walk_at "my all") | (intro _ _; walk_at "my in"))
  k_with "my news" => (first | with_reducible assumption | (refine' news_sub (by with_reducible assumption) (by intro _ _; walk_at "my in")))
  k_with "my led" => ((try simp only [List.cons_append]); with_reducible assumption)
  k_with "my slice" => (k_here; (with_reducible show wpAny _ _ (subscriptTail _ (PySem.Expr.Slice _ _ none _) (Value.ref _) (Value.ref _)) _ _ _); k_dflt (refine' kmk_slice (by k_asm) (by k_asm) (by exact isL_of (by with_reducible assumption) (by walk_at "my mem")) (by kmk_part) (by kmk_part) ?_ (by with_unfolding_all rfl) (by kmk_pure) (by first | walk_at "my size" | (simp only [List.size_toArray, intVals, List.length_map]; rw [sizeLine_eq]; omega))); intro _ _ _ _ _)
  k_with "my fold" => (refine fold_ae ?_; intro _ _)
  k_with "storeName" => (k_here; k_dflt (refine' store_let (by k_asm) (by k_asm) ?_ (by rfl) (by rfl); k_whole; intro _ _ _ _ _ _; (try k_sweep)))
  k_with "exec If" => (k_here; (refine if_let ?_); intro _)
  k_with "execs cons" => (k_here; (refine cons_let ?_); intro _ _ _ _)
  k_with "execs cons" => (k_here; (with_reducible show wpAny _ _ (execs (_ :: []) _) _ _ _); (refine execs_1 ?_); intro _ _ _)
  k_with "execs cons" => (k_here; k_gentoks; (refine st_let2 ?_); intro _)
  k_with "my room" => (k_dflt (first | exact room1 (k := 1) rfl rfl (by with_reducible assumption) | exact room1 (k := 2) rfl rfl (by with_reducible assumption) | exact room1 (k := 3) rfl rfl (by with_reducible assumption) | exact room0 (k := 1) rfl rfl (by with_reducible assumption) | exact room0 (k := 2) rfl rfl (by with_reducible assumption) | exact room0 (k := 3) rfl rfl (by with_reducible assumption) | ktr_room | (show Around.depth (Around.deeper _ _) + _ < recursionLimit; first | ktr_room) | (show Around.depth (Around.deeper _ _) < recursionLimit; first | ktr_room)))
  k_with "my units" => (k_dflt (first | exact unit1 (k := 3) rfl rfl (by with_reducible assumption) | exact unit1 (k := 4) rfl rfl (by with_reducible assumption) | exact unit1 (k := 5) rfl rfl (by with_reducible assumption) | exact unit1 (k := 6) rfl rfl (by with_reducible assumption) | exact unit1 (k := 7) rfl rfl (by with_reducible assumption) | exact unit1 (k := 8) rfl rfl (by with_reducible assumption) | exact unit0 (k := 3) rfl rfl (by with_reducible assumption) | exact unit0 (k := 6) rfl rfl (by with_reducible assumption) | ktr_units | (show Around.units (Around.deeper _ _) + _ < cLine; first | ktr_units)))
  k_with "my steps" => (repeat' (first | ((fail_if_success (fail_if_success k_unfold)); (first | (show wpAny _ _ _ _ _ _) | (k_unfold; (try dsimp only)))) | (k_end; wrow_close) | walk1 | (dsimp only; walk1) | (leave1; (try dsimp only)) | fail "no step"))
  k_with "my off" => (first | with_reducible exact rfl | ((refine map_off ?_ ?_); (next => assumption); walk_at "my off") | exact rfl)
  k_with "enter dflt" => (refine wpAny_call ?_; k_dflt (refine' code_def (by k_asm) (by k_asm) (by k_asm) (by k_asm) (by k_asm) rfl rfl (by assumption) (by k_is) (by k_is) (by walk_at "my room") (by exact binds_K (by k_in) rfl (by k_is) rfl rfl rfl) (by exact locs rfl) ?_ (by exact rfl) (by exact rfl) (by exact rfl) (by decide); k_whole; intro _ _ _ _ _ _ B' _ _; (try dsimp only); (try k_lift B'); (try k_fold); (try walk_at "my fold")))
  k_with "enter here" => (refine wpAny_call ?_; k_dflt (refine' code_def (by k_asm) (by k_asm) (by k_asm) (by k_asm) (by k_asm) rfl rfl rfl (by k_is) (by k_is) (by walk_at "my room") (by exact BindsTo.of_eq rfl) (by exact locs rfl) ?_ (by exact rfl) (by exact rfl) (by exact rfl) (by decide); k_whole; intro _ _ _ _ _ _ B' _ _; (try dsimp only); (try k_lift B'); (try k_fold); (try walk_at "my fold")))
  k_with "call ref" => (k_here; (with_reducible show wpAny _ _ (call (Value.ref 498) _) _ _ _); walk_at "enter here")
  k_with "call ref" => (k_here; (with_reducible show wpAny _ _ (call (Value.ref 505) _) _ _ _); walk_at "enter here")
  k_with "call ref" => (k_here; (with_reducible show wpAny _ _ (call (Value.ref 187) _) _ _ _); walk_at "enter here")
  k_with "subscriptTail Attribute Name Slice str ref" => (walk_at "subscriptTail Name Slice str ref")
  k_with "subscriptTail BinOp Subscript Add Constant Slice str ref" => (walk_at "subscriptTail Name Slice str ref")
  trivial
theorem d_punct {X D SX PB FS PC : Addr} {T : ShT} {st tok : Value} {news : List (Addr × Obj)} {dp un : Nat} {gd : Option (List Code)} {cn : Str} {cs : Scope} {a : Addr} {ccd : Value} {cl : List (Str × Addr)} {outer : List Env} {A₀ : Around} {base h₀ : Heap} {L : Addr} {m : Str → Option Value} {s : Shared} {Q E : Value → Shared → Prop}
    (k1 : Below A₀ base outer h₀) (k2 : Fr h₀ L s.heap m) (k3 : (kf w.params).In h₀) (k4 : News h₀ L s.heap news) (k5 : Top p loose mean mg mb h₀) (kK : cs.kind = .function) (h1 : (X, instObj 856 D) ∈ news) (h2 : (D, shD w.params T SX PB FS PC st tok) ∈ news) (kd : dp + 2 < recursionLimit) (ku : un + 8 * 2 < cLine)
    (h : ∀ h' tk', Fr h₀ L h' m → News h₀ L h' news → Q (.str (Str.ofString "()") T.v8) { s with heap := h', toks := tk' }) :
    wpAny (model pw w) (ktrTop dp un gd cn cs L a ccd cl outer) (getAttr (.ref X) (Str.ofString "punctuation_chars") true) Q E s := by
  have lN := news_more (news_more k4 h2) (List.mem_cons_of_mem _ h1)
  refine' get_prop ?q1 ?q2 ?q3 ?q4 ?q5 ?q6 ?q7 ?q8 ?q9 ?_
  case q1 => exact k2
  case q2 => exact k3
  case q3 => k_inst
  case q4 => k_is
  case q5 => k_is
  case q6 => k_is
  case q7 => k_is
  case q8 => k_is
  case q9 => k_is
  (k_dflt cell_enter; (try walk_at "my fold"))
  walk_at "my steps"
  rename Fr _ _ _ _ => F9
  rename News _ _ _ _ => N9
  exact h _ _ F9 (news_tl2 N9)
theorem d_readX {a : LxA} {T : ShT} {x : Str} {i : Nat} {q1 q2 q3 tn tb tp : Tok} {ps : Int} {pcs : List Value} {st tok : Value} {rest : List (Addr × Obj)} {t1 : Tok} {dp un : Nat} {gd : Option (List Code)} {cn : Str} {cs : Scope} {aa : Addr} {ccd : Value} {cl : List (Str × Addr)} {outer : List Env} {A₀ : Around} {base h₀ : Heap} {L : Addr} {m : Str → Option Value} {s : Shared} {Q E : Value → Shared → Prop}
    (k1 : Below A₀ base outer h₀) (k2 : Fr h₀ L s.heap m) (k3 : (kf w.params).In h₀) (k4 : News h₀ L s.heap (lxL w.params a T x i q1 q2 q3 tn tb tp ps pcs st tok rest)) (k5 : Top p loose mean mg mb h₀) (kK : cs.kind = .function) (O : LxO a rest) (hx : x.length ≤ 1000) (hn : ∀ c ∈ x.cps.toList, c ≠ 10) (kd : dp + 3 < recursionLimit) (ku : un + 8 * 3 < cLine)
    (h1 : ∀ c, x.cps[i]? = some c → ((⟨#[c]⟩ : Str) == Str.ofString "\n") = false → ∀ (t tp : Tok) h' tk', Fr h₀ L h' m → News h₀ L h' (lxL w.params a T x (i + 1) q1 q2 q3 tn tb tp ps pcs st tok rest) → Q (.str ⟨#[c]⟩ t) { s with heap := h', toks := tk' })
    (h2 : x.cps[i]? = none → ∀ (t : Tok) h' tk', Fr h₀ L h' m → News h₀ L h' (lxL w.params a T x i q1 q2 q3 tn tb tp ps pcs st tok rest) → Q (.str (Str.ofString "") t) { s with heap := h', toks := tk' }) :
    wpAny (model pw w) (ktrTop dp un gd cn cs L aa ccd cl outer) (call (.ref 667) [.ref a.SX, .int 1 t1]) Q E s :=
  use_claimN (d_read x i a.SX a.SD t1 q1 q2 q3 tn tb tp _) k1 k2 k3 (lx_perm.mp k4) k5 kK ⟨rfl, lx_apart O, neN (Nat.ne_of_gt O.o3), hx⟩ kd ku
    ⟨fun c hc t tp h' tk' F N => h1 c hc (one_ne (hn c (mem_at hc))) t tp h' tk' F (lx_perm.mpr N), fun hc t h' tk' F N => h2 hc t h' tk' F (lx_perm.mpr N)⟩

end

noncomputable section
open PySem PySem.W PyProof.Rows PySem.Calls PySem.Spec Mine
variable {w : World} {p : Program} {loose : List Str} {mean : ExcName → Option Value} {mg mb : Str → Option Value}
set_option maxHeartbeats 4000000
set_option rowWalk.seconds 0
theorem rows13 : True := by
  k_with_none
  k_with "my fits" => (first | with_reducible assumption | (simp only [sizeLine_eq] at *; omega))
  k_with "call builtin:issubclass" => (k_here; (with_reducible show wpAny _ _ (call (Value.builtin "issubclass") [Value.type "str", Value.ref _]) _ _ _); (refine' call_issub (isTup_of (by k_asm) (by news_mem)) ?_))
  k_with "my size" => (first | with_reducible assumption | (simp only [strValues, List.size_toArray, List.length_map, List.length_append, List.length_cons, List.length_nil, sizeLine_eq]; omega))
  k_with "call builtin:list.append" => (k_here; (with_reducible show wpAny _ _ (call (Value.builtin _) [Value.ref _, _]) _ _ _); k_dflt (refine' append_K (by k_asm) (by k_asm) (by k_upd) ?_ (by walk_at "my size"); k_whole); intro _ _ _)
  k_with "truthy ref" => (k_here; (with_reducible show wpAny _ _ (truthy (Value.ref _)) _ _ _); refine' truthy_L (by exact isL_of (by with_reducible assumption) (by walk_at "my mem")) (by walk_at "my size") ?_ ?_; intro _ _)
  k_with "call builtin:list.pop" => (k_here; (try dsimp only); k_dflt (refine' pop_L (by k_asm) (by k_asm) (by k_upd) (by walk_at "my size") ?_); intro _ _ _)
  k_with "subscriptTail Name UnaryOp ref int" => (k_here; (with_reducible show wpAny _ _ (subscriptTail _ _ (Value.ref _) (Value.int (-1) _)) _ _ _); refine' item_last (by exact isL_of (by with_reducible assumption) (by walk_at "my mem")) (by walk_at "my size") (by exact List.getLast?_concat) ?_ (by with_unfolding_all rfl))
  k_with "truthy ref" => (k_here; (with_reducible show wpAny _ _ (truthy (Value.ref _)) _ _ _); refine' truthy_L1 (by exact isL_of (by with_reducible assumption) (by walk_at "my mem")) (by walk_at "my size") ?_; intro _)
  k_with "call builtin:str.join" => (k_here; (with_reducible show wpAny _ _ (call (Value.builtin "str.join") [Value.str _ _, Value.ref _]) _ _ _); first
  | (refine' my_join (by exact isL_of (by with_reducible assumption) (by walk_at "my mem")) (by decide +kernel) (by omega) (by walk_at "my parts") ?_; intro _ _)
  | (refine' my_join2 (by exact isL_of (by with_reducible assumption) (by walk_at "my mem")) (by decide +kernel) (by omega) (by walk_at "my parts") (by walk_at "my len") ?_; intro _ _))
  k_with "my mem" => (with_reducible (first | exact List.mem_cons_self | (refine List.mem_cons_of_mem _ ?_; walk_at "my mem")))
  k_with "my parts" => (assumption)
  k_with "my len" => (first | (simp only []; omega) | omega)
  k_with "my in" => (first | with_reducible assumption | with_reducible exact List.mem_cons_self | with_reducible exact List.mem_append_left _ (by with_reducible assumption) | with_reducible exact List.mem_append_right _ (by with_reducible assumption) | ((with_reducible refine List.mem_cons_of_mem _ ?_); walk_at "my in"))
  k_with "my all" => (first | with_reducible exact List.forall_mem_nil _ | ((with_reducible refine List.forall_mem_cons.mpr ⟨by walk_at "my mem", ?_⟩); walk_at "my all") | (intro _ _; walk_at "my in"))
  k_with "my news" => (first | with_reducible assumption | (refine' news_sub (by with_reducible assumption) (by intro _ _; walk_at "my in")))
  k_with "my led" => ((try simp only [List.cons_append]); with_reducible assumption)
  k_with "my slice" => (k_here; (with_reducible show wpAny _ _ (subscriptTail _ (PySem.Expr.Slice _ _ none _) (Value.ref _) (Value.ref _)) _ _ _); k_dflt (refine' kmk_slice (by k_asm) (by k_asm) (by exact isL_of (by with_reducible assumption) (by walk_at "my mem")) (by kmk_part) (by kmk_part) ?_ (by with_unfolding_all rfl) (by kmk_pure) (by first | walk_at "my size" | (simp only [List.size_toArray, intVals, List.length_map]; rw [sizeLine_eq]; omega))); intro _ _ _ _ _)
  k_with "my fold" => (refine fold_ae ?_; intro _ _)
  k_with "storeName" => (k_here; k_dflt (refine' store_let (by k_asm) (by k_asm) ?_ (by rfl) (by rfl); k_whole; intro _ _ _ _ _ _; (try k_sweep)))
  k_with "exec If" => (k_here; (refine if_let ?_); intro _)
  k_with "execs cons" => (k_here; (refine cons_let ?_); intro _ _ _ _)
  k_with "execs cons" => (k_here; (with_reducible show wpAny _ _ (execs (_ :: []) _) _ _ _); (refine execs_1 ?_); intro _ _ _)
  k_with "execs cons" => (k_here; k_gentoks; (refine st_let2 ?_); intro _)
  k_with "my room" => (k_dflt (first | exact room1 (k := 1) rfl rfl (by with_reducible assumption) | exact room1 (k := 2) rfl rfl (by with_reducible assumption) | exact room1 (k := 3) rfl rfl (by with_reducible assumption) | exact room0 (k := 1) rfl rfl (by with_reducible assumption) | exact room0 (k := 2) rfl rfl (by with_reducible assumption) | exact room0 (k := 3) rfl rfl (by with_reducible assumption) | ktr_room | (show Around.depth (Around.deeper _ _) + _ < recursionLimit; first | ktr_room) | (show Around.depth (Around.deeper _ _) < recursionLimit; first | ktr_room)))
  k_with "my units" => (k_dflt (first | exact unit1 (k := 3) rfl rfl (by with_reducible assumption) | exact unit1 (k := 4) rfl rfl (by with_reducible assumption) | exact unit1 (k := 5) rfl rfl (by with_reducible assumption) | exact unit1 (k := 6) rfl rfl (by with_reducible assumption) | exact unit1 (k := 7) rfl rfl (by with_reducible assumption) | exact unit1 (k := 8) rfl rfl (by with_reducible assumption) | exact unit0 (k := 3) rfl rfl (by with_reducible assumption) | exact unit0 (k := 6) rfl rfl (by with_reducible assumption) | ktr_units | (show Around.units (Around.deeper _ _) + _ < cLine; first | ktr_units)))
  k_with "my steps" => (repeat' (first | ((fail_if_success (fail_if_success k_unfold)); (first | (show wpAny _ _ _ _ _ _) | (k_unfold; (try dsimp only)))) | (k_end; wrow_close) | walk1 | (dsimp only; walk1) | (leave1; (try dsimp only)) | fail "no step"))
  k_with "my off" => (first | with_reducible exact rfl | ((refine map_off ?_ ?_); (next => assumption); walk_at "my off") | exact rfl)
  k_with "exec While BoolOp cons nil" => (k_here; refine halt_at ?_)
  k_with "exec While Compare cons nil" => (k_here; refine halt_at ?_)
  k_with "exec While Constant cons nil" => (k_here; refine halt_at ?_)
  k_with "exec For Name Name cons nil" => (k_here; refine halt_at ?_)
  k_with "exec For Name Call cons nil" => (k_here; refine halt_at ?_)
  k_with "exec For Tuple Call cons nil" => (k_here; refine halt_at ?_)
  k_with "eval ListComp IfExp cons" => (k_here; refine halt_at ?_)
  k_with "call type:zip cons nil" => (k_here; refine halt_at ?_)
  k_with "call type:collections.deque" => (k_here; k_dflt (refine' dq_new (by k_asm) (by k_asm) ?_; k_whole); intro _ _ _ _ l1; (try k_lt l1); (try k_sweep); (try (revert l1; intro _)))
  k_with "truthy ref" => (k_here; (with_reducible show wpAny _ _ (truthy (Value.ref _)) _ _ _); k_dflt (refine' dq_truthy (by k_asm) (by walk_at "my mem") (by exact Nat.le_of_ble_eq_true rfl) ?_; k_whole))
  k_with "getMethod ref" => (k_here; k_dflt (first | (refine' dq_getMethod (by k_asm) (by k_mem) dq_slot_append dq_type_append ?_; k_whole) | (refine' dq_getMethod (by k_asm) (by k_mem) dq_slot_pop dq_type_pop ?_; k_whole)))
  k_with "call builtin:collections.deque.append" => (k_here; k_dflt (refine' dq_append (by k_asm) (by k_asm) (by k_upd) ?_; k_whole); intro _ _ _)
  k_with "call builtin:collections.deque.pop" => (k_here; k_dflt (refine' dq_pop (by k_asm) (by k_asm) (by k_upd) ?_; k_whole); intro _ _ _)
  k_with "enter kw" => (k_dflt (refine' code_def (by k_asm) (by k_asm) (by k_asm) (by k_asm) (by k_asm) rfl rfl (by assumption) (by k_is) (by k_is) (by walk_at "my room") (by (refine' kp_binds ?kx ?ke; (case kx => k_in); (case ke => exact fun _ => rfl))) (by exact locs rfl) ?_ (by exact rfl) (by exact rfl) (by exact rfl) (by decide); k_whole; intro _ _ _ _ _ _ B' _ _; (try dsimp only); (try k_lift B'); (try k_fold); (try walk_at "my fold")))
  k_with "getMethod str" => (k_here; (with_reducible show wpAny _ _ (getMethod (Value.str _ _) (PySem.Str.ofString "maketrans") _) _ _ _); k_dflt (refine gm_maketrans ?_))
  k_with "getMethod type:dict" => (k_here; k_dflt (refine' gm_fromkeys (by k_asm) (by k_asm) (by k_asm) ?_; k_whole); intro _ _ _ _ l1; (try k_lt l1); (try (revert l1; intro _)))
  k_with "callWith ref" => (k_here; (with_reducible show wpAny _ _ (callWith _ (Value.ref _) [] (backTo _ (starEach (_ :: _) _)) []) _ _ _); (refine callWith_bf (B := _) ?_))
  k_with "And" => ((with_reducible show _ = some bfObj ∧ _); (refine' bf_there (by k_asm) (by k_mem) ?_); (try dsimp only [List.nil_append, List.cons_append]))
  k_with "call ref" => (k_here; (with_reducible show wpAny _ _ (call (Value.ref _) [Value.str _ _]) _ _ _); k_dflt (refine' call_bf (P := _) (by exact rfl) (by k_asm) (by k_asm) (by k_asm) (by k_mem) ?_); intro _ _ _ _ _ _ _ l1 _; (try k_lt l1); (try (revert l1; intro _)))
  k_with "call builtin:str.maketrans" => (k_here; k_dflt (refine' mt_run (by exact sys_lt (by k_in)) (by assumption) (by assumption) (by k_asm) (by k_asm) (by k_mem) ?_); intro _ _ _ _ _ _ _ l1 _; (try k_lt l1); (try (revert l1; intro _)))
  k_with "getMethod str" => (k_here; (with_reducible show wpAny _ _ (getMethod (Value.str _ _) (PySem.Str.ofString "translate") _) _ _ _); k_dflt (refine gm_translate ?_))
  k_with "call builtin:str.translate" => (k_here; k_dflt (refine' tr_run (by exact rfl) (by assumption) (by assumption) (by k_asm) (by k_asm) (by k_mem) (by decide +kernel) (by decide +kernel) (by decide +kernel) ?_); intro _ _ _ _ _)
  k_with "Eq some" => ((with_reducible show _ = some bfObj); (refine' bf_at (by k_asm) (by k_mem)))
  k_with "getAttr ref true" => (k_here; (with_reducible show wpAny _ _ (getAttr (Value.ref _) (Str.ofString "punctuation_chars") true) _ _ _); k_dflt (refine' d_punct (by k_asm) (by k_asm) (by k_asm) (by k_asm) (by k_asm) (by first | exact rfl | assumption) (by walk_at "my mem") (by walk_at "my mem") (by walk_at "my room") (by walk_at "my units") ?_); intro _ _ _ _)
  k_with "call ref" => (k_here; (with_reducible show wpAny _ _ (call (Value.ref 667) _) _ _ _); k_dflt (refine' d_readX (by k_asm) (by k_asm) (by k_asm) (by k_asm) (by k_asm) (by first | exact rfl | assumption) (by assumption) (by assumption) (by assumption) (by walk_at "my room") (by walk_at "my units") ?_ ?_); (first | (intro _ hc' _ t' _ h' tk' F' N') | (intro _ _ _ _ _ _)))
  k_with "my occ" => (first | with_reducible assumption | decide +kernel)
  k_with "compareOp In str str" => (k_here; first | (refine in_no (by walk_at "my occ") ?_) | (refine in_yes (by walk_at "my occ") ?_))
  k_with "truthy str" => (k_here; (refine tr_yes (by with_reducible assumption) (by with_reducible assumption) ?_); intro _)
  k_with "my toks" => (k_here; k_gentoks; (try dsimp only))
  k_with "getAttr ref true" => (walk_at "my toks")
  k_with "isTrue" => (walk_at "my toks")
  k_with "eval Name" => (walk_at "my toks")
  k_with "compareOp" => (walk_at "my toks")
  k_with "compareOp NotIn str str" => (k_here; (refine notin_yes (by walk_at "my occ") ?_))
  k_with "truthy ref" => (k_here; k_dflt (first | (refine' dq_truthy2 (b := true) (by k_asm) (by walk_at "my mem") (by exact Nat.le_of_ble_eq_true rfl) (by exact rfl) ?_) | (refine' dq_truthy2 (b := false) (by k_asm) (by walk_at "my mem") (by exact Nat.le_of_ble_eq_true rfl) (by exact rfl) ?_)); intro _)
  k_with "my lx" => (first | with_reducible assumption | exact news_tl (by with_reducible assumption) | exact news_tl (news_tl (by with_reducible assumption)))
  k_with "getAttr ref" => (k_here; k_dflt (refine' lx_get (by k_asm) (by k_asm) (by walk_at "my lx") (by kernel_rfl) (by k_get) (by k_handed) ?_; k_whole); intro _)
  k_with "setAttr ref" => (k_here; (with_reducible show wpAny _ _ (setAttr _ (Str.ofString "state") _) _ _ _); k_dflt (refine lx_set_state (by k_asm) (by k_asm) (by walk_at "my lx") (by assumption) ?_); intro _ _ _ _; (try k_sweep))
  k_with "setAttr ref" => (k_here; (with_reducible show wpAny _ _ (setAttr _ (Str.ofString "token") _) _ _ _); k_dflt (refine lx_set_token (by k_asm) (by k_asm) (by walk_at "my lx") (by assumption) ?_); intro _ _ _ _; (try k_sweep))
  k_with "truthy ref" => (k_here; k_dflt (first | (refine lx_true (b := true) (by walk_at "my lx") rfl rfl ?_) | (refine lx_true (b := false) (by walk_at "my lx") rfl rfl ?_)); intro _)
  k_with "getMethod ref" => (k_here; (with_reducible show wpAny _ _ (getMethod _ (Str.ofString "pop") _) _ _ _); k_dflt (refine lx_mpop (by walk_at "my lx") ?_))
  k_with "getMethod ref" => (k_here; (with_reducible show wpAny _ _ (getMethod _ (Str.ofString "append") _) _ _ _); k_dflt (refine lx_mapp (by walk_at "my lx") ?_))
  k_with "call builtin:collections.deque.append" => (k_here; k_dflt (refine lx_push (by k_asm) (by walk_at "my lx") (by assumption) ?_); intro _ _ _; (try k_sweep))
  k_with "call builtin:collections.deque.pop" => (k_here; k_dflt (refine lx_pop (by k_asm) (by walk_at "my lx") (by assumption) ?_); intro _ _ _; (try k_sweep))
  trivial
theorem d_tok (a : LxA) (T : ShT) (x : Str) (i : Nat) (q1 q2 q3 tn tb tp ts tt : Tok) (ps : Int) (pcs : List Value) (st st' : LS) (r r' : List Nat) (res : Option (List Nat)) (rest : List (Addr × Obj)) :
    Cn w p loose mean mg mb 5 824 [.ref a.X] (fun news => news = lxL w.params a T x i q1 q2 q3 tn tb tp ps pcs (stV ts st) (.str ⟨#[]⟩ tt) rest ∧ LxO a rest ∧ x.length ≤ 1000 ∧ (∀ c ∈ x.cps.toList, c ≠ 10) ∧ LeftR x i pcs r ∧ (st = .sp ∨ st = .z) ∧ lexGo st [] r = some (res, st', r'))
      (fun h₀ L m _ s Q => ∀ i' tp' ps' pcs' ts' tt' v h' tk', TokV res v → LeftR x i' pcs' r' → Fr h₀ L h' m → News h₀ L h' (lxL w.params a T x i' q1 q2 q3 tn tb tp' ps' pcs' (stV ts' st') (.str ⟨#[]⟩ tt') rest) → Q v { s with heap := h', toks := tk' }) := by
  dsimp only [Cn]; intros; rename_i hpre _ _ hret; obtain ⟨rfl, O, hx, hn10, hr, hq, hgo⟩ := hpre; refine wpAny_call ?_; (k_dflt cell_enter; (try walk_at "my fold"))
  rename Fr _ _ _ _ => lF
  replace lF := fr_to (fun y => List.lookup y [(S "self", .ref a.X)]) lF
  walk_at "my steps"
  refine Halt.go ?_
  rename Fr _ _ _ _ => lF
  rename News _ _ _ _ => lN
  obtain ⟨m₀, hm₀, lF⟩ : ∃ m₀, m₀ = _ ∧ Fr _ _ _ m₀ := ⟨_, rfl, lF⟩
  refine' While_G (G := fun g => g = _) (tkJ w.params a T x q1 q2 q3 tn tb rest (some (res, st', r')) m₀) r.length lF lN ?hj rfl ?turn ?hE
  case hE => passes_own
  case hj =>
    refine ⟨st, [], r, i, pcs, ps, tp, ts, tt, false, m₀ (S "nextchar"), m₀ (S "escapedstate"), (by rcases hq with rfl | rfl <;> exact rfl), rfl, hgo, hr, left_sp hr hq hgo, Nat.zero_le _, (fun e => (by rcases hq with h | h <;> rw [h] at e <;> cases e)), rfl, ?_⟩
    rw [show some (Value.bool false) = m₀ (S "quoted") by rw [hm₀]; rfl]
    exact map3_self _ _ _ _
  case turn =>
    intro n m₁ nx h5 tk5 g5 hJ0 hg5 F5 N5
    refine q_let ?_
    intro q9 e9
    obtain ⟨st, tok, r, i, pcs, ps, tp, ts, tt, b, vn, ve, hQB, hn, hgo, hr, hps, htk, he, rfl, rfl⟩ := hJ0
    subst hm₀
    have O' := O
    obtain ⟨o1, o2, o3, o4, o5, o6, or1, or2, or3⟩ := O'
    obtain ⟨hix, hr⟩ := hr
    rcases hr with ⟨rfl, hr⟩ | ⟨c, tc, rfl, hr⟩
    · clear hps
      walk_at "my steps"
      · rename News _ _ _ _ => N8
        rename x.cps[i]? = some _ => hc9
        rcases hx9 : x.cps[i]? with _ | c9
        · rw [hx9] at hc9; cases hc9
        rw [hx9] at hc9
        injection hc9 with e9
        subst e9
        rw [drop_one hx9] at hr
        subst hr
        have hi := lt_at hx9
        have hl1 := one_len c9
        have hl2 : ({ cps := #[c9] } : Str).length ≤ 2000 := by show 1 ≤ 2000; decide
        have hle : LeftR x (i + 1) [] (x.cps.toList.drop (i + 1)) := ⟨hi, .inl ⟨rfl, rfl⟩⟩
        have hlt9 : (x.cps.toList.drop (i + 1)).length < n := by rw [← hn]; exact Nat.lt_succ_self _
        have htk2 : ({ cps := tok.toArray } : Str).length ≤ 2000 := by simp only [Str.length, List.size_toArray]; (first | lia | omega)
        cases st with
        | sp =>
          obtain rfl : b = false := hQB
          simp only [stV, stS] at N8
          rw [lexGo_sp] at hgo
          by_cases h34 : c9 = 34
          · subst h34
            rw [if_pos rfl] at hgo
            have b3 := wc_no 34 (.inl rfl)
            rw [show ({ cps := #[34] } : Str) = Str.ofString "\"" from rfl] at *
            walk_at "my steps"
            rename News _ _ _ _ => N9
            refine tk_end (st2 := .q) (tok2 := tok) (by k_asm) N9 hlt9 hgo hle (.inl rfl) (by (first | lia | omega)) (fun e => by cases e ) trivial rfl (fun z h1 h2 h3 => by walk_at "my off") (by assumption)
          · rw [if_neg h34] at hgo
            by_cases hp : c9 = 40 ∨ c9 = 41
            · rw [if_pos hp] at hgo
              obtain ⟨b1, b2, b3, b4, b5⟩ := par_occ hp
              walk_at "my steps"
              rename News _ _ _ _ => N9
              refine tk_end (st2 := .c) (tok2 := [c9]) (by k_asm) N9 hlt9 hgo hle (.inl rfl) (by simp) (fun e => by cases e ) rfl rfl (fun z h1 h2 h3 => by walk_at "my off") (by assumption)
            · rw [if_neg hp] at hgo; cases hgo
        | q =>
          simp only [stV, stS] at N8
          rw [lexGo_q] at hgo
          by_cases h34 : c9 = 34
          · subst h34
            rw [if_pos rfl] at hgo
            rw [show ({ cps := #[34] } : Str) = Str.ofString "\"" from rfl] at *
            walk_at "my steps"
            rename News _ _ _ _ => N9
            refine tk_end (st2 := .a) (tok2 := tok) (by k_asm) N9 hlt9 hgo hle (.inl rfl) (by (first | lia | omega)) (fun e => by cases e ) rfl rfl (fun z h1 h2 h3 => by walk_at "my off") (by assumption)
          · rw [if_neg h34] at hgo
            have b1 : (({ cps := #[c9] } : Str) == Str.ofString "\"") = false := one_ne h34
            by_cases h92 : c9 = 92
            · subst h92
              rw [if_pos rfl] at hgo
              rw [show ({ cps := #[92] } : Str) = Str.ofString "\\" from rfl] at *
              walk_at "my steps"
              rename News _ _ _ _ => N9
              refine tk_end (st2 := .e) (tok2 := tok) (by k_asm) N9 hlt9 hgo hle (.inl rfl) (by (first | lia | omega)) (fun e => ⟨_, rfl⟩ ) rfl rfl (fun z h1 h2 h3 => by walk_at "my off") (by assumption)
            · rw [if_neg h92] at hgo
              by_cases h10 : c9 = 10
              · rw [if_pos h10] at hgo; cases hgo
              rw [if_neg h10] at hgo
              have b2 : (Builtin.Str.occurrences (Str.ofString "\\") ⟨#[c9]⟩ 0 (Str.ofString "\\").length 1).isEmpty = true := occ_no (show c9 ∉ [92] from by simpa using h92)
              walk_at "my steps"
              rename News _ _ _ _ => N9
              rw [tok_snoc] at N9
              refine tk_end (st2 := .q) (tok2 := tok ++ [c9]) (by k_asm) N9 hlt9 hgo hle (.inl rfl) (by simp; (first | lia | omega)) (fun e => by cases e ) trivial rfl (fun z h1 h2 h3 => by walk_at "my off") (by assumption)
        | e =>
          obtain rfl : b = true := hQB
          simp only [stV, stS] at N8
          rw [lexGo_e] at hgo
          obtain ⟨te, rfl⟩ := he rfl
          by_cases h34 : c9 = 34
          · subst h34
            rw [if_pos rfl] at hgo
            rw [show ({ cps := #[34] } : Str) = Str.ofString "\"" from rfl] at *
            walk_at "my steps"
            rename News _ _ _ _ => N9
            rw [show Str.ofString "\"" = ({ cps := #[34] } : Str) from rfl, tok_snoc] at N9
            refine tk_end (st2 := .q) (tok2 := tok ++ [34]) (by k_asm) N9 hlt9 hgo hle (.inl rfl) (by simp; (first | lia | omega)) (fun e => by cases e ) trivial rfl (fun z h1 h2 h3 => by walk_at "my off") (by assumption)
          · rw [if_neg h34] at hgo; cases hgo
        | a =>
          obtain rfl : b = true := hQB
          simp only [stV, stS] at N8
          rw [lexGo_a] at hgo
          by_cases h40 : c9 = 40 ∧ tok ≠ []
          · rw [if_pos h40] at hgo
            obtain ⟨rfl, hne⟩ := h40
            obtain ⟨b4, b5⟩ := tok_len hne
            have b3 := wc_no 40 (.inr (.inl rfl))
            rw [show ({ cps := #[40] } : Str) = Str.ofString "(" from rfl] at *
            walk_at "my steps"
            rename News _ _ _ _ => N9
            injection hgo with hgo
            injection hgo with e1 e2
            injection e2 with e2 e3
            subst e1 e2 e3 hg5
            exact hret _ _ _ _ _ _ _ _ _ ⟨_, rfl⟩ ⟨hi, .inr ⟨40, _, rfl, rfl⟩⟩ (by k_asm) N9
          · rw [if_neg h40] at hgo; cases hgo
        | c =>
          obtain rfl : b = false := hQB
          simp only [stV, stS] at N8
          rw [lexGo_c] at hgo
          by_cases hp : c9 = 40 ∨ c9 = 41
          · rw [if_pos hp] at hgo
            obtain ⟨b1, b2, b3, b4, b5⟩ := par_occ hp
            walk_at "my steps"
            rename News _ _ _ _ => N9
            rw [tok_snoc] at N9
            refine tk_end (st2 := .c) (tok2 := tok ++ [c9]) (by k_asm) N9 hlt9 hgo hle (.inl rfl) (by simp; (first | lia | omega)) (fun e => by cases e ) rfl rfl (fun z h1 h2 h3 => by walk_at "my off") (by assumption)
          · rw [if_neg hp] at hgo
            by_cases h34 : c9 = 34 ∧ tok ≠ []
            · rw [if_pos h34] at hgo
              obtain ⟨rfl, hne⟩ := h34
              obtain ⟨b4, b5⟩ := tok_len hne
              rw [show ({ cps := #[34] } : Str) = Str.ofString "\"" from rfl] at *
              walk_at "my steps"
              rename News _ _ _ _ => N9
              injection hgo with hgo
              injection hgo with e1 e2
              injection e2 with e2 e3
              subst e1 e2 e3 hg5
              exact hret _ _ _ _ _ _ _ _ _ ⟨_, rfl⟩ ⟨hi, .inr ⟨34, _, rfl, rfl⟩⟩ (by k_asm) N9
            · rw [if_neg h34] at hgo; cases hgo
        | z => cases hgo
      · rename News _ _ _ _ => N8
        rename x.cps[i]? = none => hx9
        rw [drop_end hx9] at hr
        subst hr
        cases st with
        | c =>
          simp only [stV, stS] at N8
          obtain rfl : b = false := hQB
          rw [lexGo_c0] at hgo
          by_cases hne : tok = []
          · rw [if_pos hne] at hgo; cases hgo
          rw [if_neg hne] at hgo
          have htk2 : ({ cps := tok.toArray } : Str).length ≤ 2000 := by simp only [Str.length, List.size_toArray]; (first | lia | omega)
          obtain ⟨b4, b5⟩ := tok_len hne
          walk_at "my steps"
          rename News _ _ _ _ => N9
          injection hgo with hgo
          injection hgo with e1 e2
          injection e2 with e2 e3
          subst e1 e2 e3 hg5
          exact hret _ _ _ _ 0 _ _ _ _ ⟨_, rfl⟩ ⟨hix, .inl ⟨rfl, (drop_end hx9).symm⟩⟩ (by k_asm) N9
        | z =>
          simp only [stV, stS] at N8
          obtain rfl : b = false := hQB
          rw [lexGo_z0] at hgo
          walk_at "my steps"
          rename News _ _ _ _ => N9
          injection hgo with hgo
          injection hgo with e1 e2
          injection e2 with e2 e3
          subst e1 e2 e3 hg5
          exact hret _ _ _ _ 0 _ _ _ _ rfl ⟨hix, .inl ⟨rfl, (drop_end hx9).symm⟩⟩ (by k_asm) N9
        | _ => cases hgo
    · obtain rfl : st = .sp := by rcases hps with h | h; cases h; exact h
      subst hr
      have hle : LeftR x i [] (x.cps.toList.drop i) := ⟨hix, .inl ⟨rfl, rfl⟩⟩
      have hlt9 : (x.cps.toList.drop i).length < n := by rw [← hn]; exact Nat.lt_succ_self _
      have hl1 := one_len c
      have hl2 : ({ cps := #[c] } : Str).length ≤ 2000 := by show 1 ≤ 2000; decide
      obtain rfl : b = false := hQB
      rw [lexGo_sp] at hgo
      simp only [stV, stS] at N5
      by_cases h34 : c = 34
      · subst h34
        rw [if_pos rfl] at hgo
        have b3 := wc_no 34 (.inl rfl)
        rw [show ({ cps := #[34] } : Str) = Str.ofString "\"" from rfl] at *
        walk_at "my steps"
        rename News _ _ _ _ => N9
        refine tk_end (st2 := .q) (tok2 := tok) (by k_asm) N9 hlt9 hgo hle (.inl rfl) (by (first | lia | omega)) (fun e => by cases e) trivial rfl (fun z h1 h2 h3 => by walk_at "my off") (by assumption)
      · rw [if_neg h34] at hgo
        by_cases hp : c = 40 ∨ c = 41
        · rw [if_pos hp] at hgo
          obtain ⟨b1, b2, b3, b4, b5⟩ := par_occ hp
          have hb : (({ cps := #[c] } : Str) == Str.ofString "\n") = false := one_ne (show c ≠ 10 by (first | lia | omega))
          walk_at "my steps"
          rename News _ _ _ _ => N9
          refine tk_end (st2 := .c) (tok2 := [c]) (by k_asm) N9 hlt9 hgo hle (.inl rfl) (by simp) (fun e => by cases e) rfl rfl (fun z h1 h2 h3 => by walk_at "my off") (by assumption)
        · rw [if_neg hp] at hgo; cases hgo

end

noncomputable section
open PySem PySem.W PyProof.Rows PySem.Calls PySem.Spec Mine
variable {w : World} {p : Program} {loose : List Str} {mean : ExcName → Option Value} {mg mb : Str → Option Value}
set_option maxHeartbeats 4000000
set_option rowWalk.seconds 0
theorem rows14 : True := by
  k_with_none
  k_with "my fits" => (first | with_reducible assumption | (simp only [sizeLine_eq] at *; omega))
  k_with "call builtin:issubclass" => (k_here; (with_reducible show wpAny _ _ (call (Value.builtin "issubclass") [Value.type "str", Value.ref _]) _ _ _); (refine' call_issub (isTup_of (by k_asm) (by news_mem)) ?_))
  k_with "my size" => (first | with_reducible assumption | (simp only [strValues, List.size_toArray, List.length_map, List.length_append, List.length_cons, List.length_nil, sizeLine_eq]; omega))
  k_with "call builtin:list.append" => (k_here; (with_reducible show wpAny _ _ (call (Value.builtin _) [Value.ref _, _]) _ _ _); k_dflt (refine' append_K (by k_asm) (by k_asm) (by k_upd) ?_ (by walk_at "my size"); k_whole); intro _ _ _)
  k_with "truthy ref" => (k_here; (with_reducible show wpAny _ _ (truthy (Value.ref _)) _ _ _); refine' truthy_L (by exact isL_of (by with_reducible assumption) (by walk_at "my mem")) (by walk_at "my size") ?_ ?_; intro _ _)
  k_with "call builtin:list.pop" => (k_here; (try dsimp only); k_dflt (refine' pop_L (by k_asm) (by k_asm) (by k_upd) (by walk_at "my size") ?_); intro _ _ _)
  k_with "subscriptTail Name UnaryOp ref int" => (k_here; (with_reducible show wpAny _ _ (subscriptTail _ _ (Value.ref _) (Value.int (-1) _)) _ _ _); refine' item_last (by exact isL_of (by with_reducible assumption) (by walk_at "my mem")) (by walk_at "my size") (by exact List.getLast?_concat) ?_ (by with_unfolding_all rfl))
  k_with "truthy ref" => (k_here; (with_reducible show wpAny _ _ (truthy (Value.ref _)) _ _ _); refine' truthy_L1 (by exact isL_of (by with_reducible assumption) (by walk_at "my mem")) (by walk_at "my size") ?_; intro _)
  k_with "call builtin:str.join" => (k_here; (with_reducible show wpAny _ _ (call (Value.builtin "str.join") [Value.str _ _, Value.ref _]) _ _ _); first
  | (refine' my_join (by exact isL_of (by with_reducible assumption) (by walk_at "my mem")) (by decide +kernel) (by omega) (by walk_at "my parts") ?_; intro _ _)
  | (refine' my_join2 (by exact isL_of (by with_reducible assumption) (by walk_at "my mem")) (by decide +kernel) (by omega) (by walk_at "my parts") (by walk_at "my len") ?_; intro _ _))
  k_with "my mem" => (with_reducible (first | exact List.mem_cons_self | (refine List.mem_cons_of_mem _ ?_; walk_at "my mem")))
  k_with "my parts" => (assumption)
  k_with "my len" => (first | (simp only []; omega) | omega)
  k_with "my in" => (first | with_reducible assumption | with_reducible exact List.mem_cons_self | with_reducible exact List.mem_append_left _ (by with_reducible assumption) | with_reducible exact List.mem_append_right _ (by with_reducible assumption) | ((with_reducible refine List.mem_cons_of_mem _ ?_); walk_at "my in"))
  k_with "my all" => (first | with_reducible exact List.forall_mem_nil _ | ((with_reducible refine List.forall_mem_cons.mpr ⟨by walk_at "my mem", ?_⟩); walk_at "my all") | (intro _ _; walk_at "my in"))
  k_with "my news" => (first | with_reducible assumption | (refine' news_sub (by with_reducible assumption) (by intro _ _; walk_at "my in")))
  k_with "my led" => ((try simp only [List.cons_append]); with_reducible assumption)
  k_with "my slice" => (k_here; (with_reducible show wpAny _ _ (subscriptTail _ (PySem.Expr.Slice _ _ none _) (Value.ref _) (Value.ref _)) _ _ _); k_dflt (refine' kmk_slice (by k_asm) (by k_asm) (by exact isL_of (by with_reducible assumption) (by walk_at "my mem")) (by kmk_part) (by kmk_part) ?_ (by with_unfolding_all rfl) (by kmk_pure) (by first | walk_at "my size" | (simp only [List.size_toArray, intVals, List.length_map]; rw [sizeLine_eq]; omega))); intro _ _ _ _ _)
  k_with "my fold" => (refine fold_ae ?_; intro _ _)
  k_with "storeName" => (k_here; k_dflt (refine' store_let (by k_asm) (by k_asm) ?_ (by rfl) (by rfl); k_whole; intro _ _ _ _ _ _; (try k_sweep)))
  k_with "exec If" => (k_here; (refine if_let ?_); intro _)
  k_with "execs cons" => (k_here; (refine cons_let ?_); intro _ _ _ _)
  k_with "execs cons" => (k_here; (with_reducible show wpAny _ _ (execs (_ :: []) _) _ _ _); (refine execs_1 ?_); intro _ _ _)
  k_with "execs cons" => (k_here; k_gentoks; (refine st_let2 ?_); intro _)
  k_with "my room" => (k_dflt (first | exact room1 (k := 1) rfl rfl (by with_reducible assumption) | exact room1 (k := 2) rfl rfl (by with_reducible assumption) | exact room1 (k := 3) rfl rfl (by with_reducible assumption) | exact room0 (k := 1) rfl rfl (by with_reducible assumption) | exact room0 (k := 2) rfl rfl (by with_reducible assumption) | exact room0 (k := 3) rfl rfl (by with_reducible assumption) | ktr_room | (show Around.depth (Around.deeper _ _) + _ < recursionLimit; first | ktr_room) | (show Around.depth (Around.deeper _ _) < recursionLimit; first | ktr_room)))
  k_with "my units" => (k_dflt (first | exact unit1 (k := 3) rfl rfl (by with_reducible assumption) | exact unit1 (k := 4) rfl rfl (by with_reducible assumption) | exact unit1 (k := 5) rfl rfl (by with_reducible assumption) | exact unit1 (k := 6) rfl rfl (by with_reducible assumption) | exact unit1 (k := 7) rfl rfl (by with_reducible assumption) | exact unit1 (k := 8) rfl rfl (by with_reducible assumption) | exact unit0 (k := 3) rfl rfl (by with_reducible assumption) | exact unit0 (k := 6) rfl rfl (by with_reducible assumption) | ktr_units | (show Around.units (Around.deeper _ _) + _ < cLine; first | ktr_units)))
  k_with "my steps" => (repeat' (first | ((fail_if_success (fail_if_success k_unfold)); (first | (show wpAny _ _ _ _ _ _) | (k_unfold; (try dsimp only)))) | (k_end; wrow_close) | walk1 | (dsimp only; walk1) | (leave1; (try dsimp only)) | fail "no step"))
  k_with "my off" => (first | with_reducible exact rfl | ((refine map_off ?_ ?_); (next => assumption); walk_at "my off") | exact rfl)
  k_with "call type:collections.deque" => (k_here; k_dflt (refine' dq_new (by k_asm) (by k_asm) ?_; k_whole); intro _ _ _ _ l1; (try k_lt l1); (try k_sweep); (try (revert l1; intro _)))
  k_with "truthy ref" => (k_here; (with_reducible show wpAny _ _ (truthy (Value.ref _)) _ _ _); k_dflt (refine' dq_truthy (by k_asm) (by walk_at "my mem") (by exact Nat.le_of_ble_eq_true rfl) ?_; k_whole))
  k_with "getMethod ref" => (k_here; k_dflt (first | (refine' dq_getMethod (by k_asm) (by k_mem) dq_slot_append dq_type_append ?_; k_whole) | (refine' dq_getMethod (by k_asm) (by k_mem) dq_slot_pop dq_type_pop ?_; k_whole)))
  k_with "call builtin:collections.deque.append" => (k_here; k_dflt (refine' dq_append (by k_asm) (by k_asm) (by k_upd) ?_; k_whole); intro _ _ _)
  k_with "call builtin:collections.deque.pop" => (k_here; k_dflt (refine' dq_pop (by k_asm) (by k_asm) (by k_upd) ?_; k_whole); intro _ _ _)
  k_with "enter kw" => (k_dflt (refine' code_def (by k_asm) (by k_asm) (by k_asm) (by k_asm) (by k_asm) rfl rfl (by assumption) (by k_is) (by k_is) (by walk_at "my room") (by (refine' kp_binds ?kx ?ke; (case kx => k_in); (case ke => exact fun _ => rfl))) (by exact locs rfl) ?_ (by exact rfl) (by exact rfl) (by exact rfl) (by decide); k_whole; intro _ _ _ _ _ _ B' _ _; (try dsimp only); (try k_lift B'); (try k_fold); (try walk_at "my fold")))
  k_with "getMethod str" => (k_here; (with_reducible show wpAny _ _ (getMethod (Value.str _ _) (PySem.Str.ofString "maketrans") _) _ _ _); k_dflt (refine gm_maketrans ?_))
  k_with "getMethod type:dict" => (k_here; k_dflt (refine' gm_fromkeys (by k_asm) (by k_asm) (by k_asm) ?_; k_whole); intro _ _ _ _ l1; (try k_lt l1); (try (revert l1; intro _)))
  k_with "callWith ref" => (k_here; (with_reducible show wpAny _ _ (callWith _ (Value.ref _) [] (backTo _ (starEach (_ :: _) _)) []) _ _ _); (refine callWith_bf (B := _) ?_))
  k_with "And" => ((with_reducible show _ = some bfObj ∧ _); (refine' bf_there (by k_asm) (by k_mem) ?_); (try dsimp only [List.nil_append, List.cons_append]))
  k_with "call ref" => (k_here; (with_reducible show wpAny _ _ (call (Value.ref _) [Value.str _ _]) _ _ _); k_dflt (refine' call_bf (P := _) (by exact rfl) (by k_asm) (by k_asm) (by k_asm) (by k_mem) ?_); intro _ _ _ _ _ _ _ l1 _; (try k_lt l1); (try (revert l1; intro _)))
  k_with "call builtin:str.maketrans" => (k_here; k_dflt (refine' mt_run (by exact sys_lt (by k_in)) (by assumption) (by assumption) (by k_asm) (by k_asm) (by k_mem) ?_); intro _ _ _ _ _ _ _ l1 _; (try k_lt l1); (try (revert l1; intro _)))
  k_with "getMethod str" => (k_here; (with_reducible show wpAny _ _ (getMethod (Value.str _ _) (PySem.Str.ofString "translate") _) _ _ _); k_dflt (refine gm_translate ?_))
  k_with "call builtin:str.translate" => (k_here; k_dflt (refine' tr_run (by exact rfl) (by assumption) (by assumption) (by k_asm) (by k_asm) (by k_mem) (by decide +kernel) (by decide +kernel) (by decide +kernel) ?_); intro _ _ _ _ _)
  k_with "Eq some" => ((with_reducible show _ = some bfObj); (refine' bf_at (by k_asm) (by k_mem)))
  k_with "getAttr ref true" => (k_here; (with_reducible show wpAny _ _ (getAttr (Value.ref _) (Str.ofString "punctuation_chars") true) _ _ _); k_dflt (refine' d_punct (by k_asm) (by k_asm) (by k_asm) (by k_asm) (by k_asm) (by first | exact rfl | assumption) (by walk_at "my mem") (by walk_at "my mem") (by walk_at "my room") (by walk_at "my units") ?_); intro _ _ _ _)
  k_with "call ref" => (k_here; (with_reducible show wpAny _ _ (call (Value.ref 667) _) _ _ _); k_dflt (refine' d_readX (by k_asm) (by k_asm) (by k_asm) (by k_asm) (by k_asm) (by first | exact rfl | assumption) (by assumption) (by assumption) (by assumption) (by walk_at "my room") (by walk_at "my units") ?_ ?_); (first | (intro _ hc' _ t' _ h' tk' F' N') | (intro _ _ _ _ _ _)))
  k_with "my occ" => (first | with_reducible assumption | decide +kernel)
  k_with "compareOp In str str" => (k_here; first | (refine in_no (by walk_at "my occ") ?_) | (refine in_yes (by walk_at "my occ") ?_))
  k_with "truthy str" => (k_here; (refine tr_yes (by with_reducible assumption) (by with_reducible assumption) ?_); intro _)
  k_with "my toks" => (k_here; k_gentoks; (try dsimp only))
  k_with "getAttr ref true" => (walk_at "my toks")
  k_with "isTrue" => (walk_at "my toks")
  k_with "eval Name" => (walk_at "my toks")
  k_with "compareOp" => (walk_at "my toks")
  k_with "compareOp NotIn str str" => (k_here; (refine notin_yes (by walk_at "my occ") ?_))
  k_with "truthy ref" => (k_here; k_dflt (first | (refine' dq_truthy2 (b := true) (by k_asm) (by walk_at "my mem") (by exact Nat.le_of_ble_eq_true rfl) (by exact rfl) ?_) | (refine' dq_truthy2 (b := false) (by k_asm) (by walk_at "my mem") (by exact Nat.le_of_ble_eq_true rfl) (by exact rfl) ?_)); intro _)
  trivial
theorem d_get (a : LxA) (T : ShT) (x : Str) (i : Nat) (q1 q2 q3 tn tb tp ts tt : Tok) (ps : Int) (pcs : List Value) (st st' : LS) (r r' : List Nat) (res : Option (List Nat)) (rest : List (Addr × Obj)) :
    Cn w p loose mean mg mb 7 817 [.ref a.X] (fun news => news = lxL w.params a T x i q1 q2 q3 tn tb tp ps pcs (stV ts st) (.str ⟨#[]⟩ tt) rest ∧ LxO a rest ∧ x.length ≤ 1000 ∧ (∀ c ∈ x.cps.toList, c ≠ 10) ∧ LeftR x i pcs r ∧ (st = .sp ∨ st = .z) ∧ lexGo st [] r = some (res, st', r'))
      (fun h₀ L m _ s Q => ∀ i' tp' ps' pcs' ts' tt' v h' tk', TokV res v → LeftR x i' pcs' r' → Fr h₀ L h' m → News h₀ L h' (lxL w.params a T x i' q1 q2 q3 tn tb tp' ps' pcs' (stV ts' st') (.str ⟨#[]⟩ tt') rest) → Q v { s with heap := h', toks := tk' }) := by
  dsimp only [Cn]; intros; rename_i hpre _ _ hret; obtain ⟨rfl, O, hx, hn10, hr, hq, hgo⟩ := hpre; refine wpAny_call ?_; (k_dflt cell_enter; (try walk_at "my fold"))
  rename Fr _ _ _ _ => lF
  replace lF := fr_to (fun y => List.lookup y [(S "self", .ref a.X)]) lF
  walk_at "my steps"
  dsimp only [List.append_nil]
  refine' use_claimN (d_tok a T x i q1 q2 q3 tn tb tp ts tt ps pcs st st' r r' res rest) ?k1 ?k2 ?k3 ?k4 ?k5 ?kK ?kp ?kd ?ku ?_
  case k1 => k_asm
  case k2 => k_asm
  case k3 => k_asm
  case k4 => k_asm
  case k5 => k_asm
  case kK => exact rfl
  case kp => exact ⟨rfl, O, hx, hn10, hr, hq, hgo⟩
  case kd => walk_at "my room"
  case ku => walk_at "my units"
  intro i' tp' ps' pcs' ts' tt' v h7 tk7 hv hr' F7 N7
  cases res with
  | some l =>
    obtain ⟨tv, rfl⟩ := hv
    walk_at "my steps"
    exact hret _ _ _ _ _ _ _ _ _ ⟨_, rfl⟩ hr' (by k_asm) (by k_asm)
  | none =>
    obtain rfl : v = .none := hv
    walk_at "my steps"
    exact hret _ _ _ _ _ _ _ _ _ rfl hr' (by k_asm) (by k_asm)

end

noncomputable section
open PySem PySem.W PyProof.Rows PySem.Calls PySem.Spec Mine
variable {w : World} {p : Program} {loose : List Str} {mean : ExcName → Option Value} {mg mb : Str → Option Value}
set_option maxHeartbeats 4000000
set_option rowWalk.seconds 0
theorem rows15 : True := by
  k_with_none
  k_with "my fits" => (first | with_reducible assumption | (simp only [sizeLine_eq] at *; omega))
  k_with "call builtin:issubclass" => (k_here; (with_reducible show wpAny _ _ (call (Value.builtin "issubclass") [Value.type "str", Value.ref _]) _ _ _); (refine' call_issub (isTup_of (by k_asm) (by news_mem)) ?_))
  k_with "my size" => (first | with_reducible assumption | (simp only [strValues, List.size_toArray, List.length_map, List.length_append, List.length_cons, List.length_nil, sizeLine_eq]; omega))
  k_with "call builtin:list.append" => (k_here; (with_reducible show wpAny _ _ (call (Value.builtin _) [Value.ref _, _]) _ _ _); k_dflt (refine' append_K (by k_asm) (by k_asm) (by k_upd) ?_ (by walk_at "my size"); k_whole); intro _ _ _)
  k_with "truthy ref" => (k_here; (with_reducible show wpAny _ _ (truthy (Value.ref _)) _ _ _); refine' truthy_L (by exact isL_of (by with_reducible assumption) (by walk_at "my mem")) (by walk_at "my size") ?_ ?_; intro _ _)
  k_with "call builtin:list.pop" => (k_here; (try dsimp only); k_dflt (refine' pop_L (by k_asm) (by k_asm) (by k_upd) (by walk_at "my size") ?_); intro _ _ _)
  k_with "subscriptTail Name UnaryOp ref int" => (k_here; (with_reducible show wpAny _ _ (subscriptTail _ _ (Value.ref _) (Value.int (-1) _)) _ _ _); refine' item_last (by exact isL_of (by with_reducible assumption) (by walk_at "my mem")) (by walk_at "my size") (by exact List.getLast?_concat) ?_ (by with_unfolding_all rfl))
  k_with "truthy ref" => (k_here; (with_reducible show wpAny _ _ (truthy (Value.ref _)) _ _ _); refine' truthy_L1 (by exact isL_of (by with_reducible assumption) (by walk_at "my mem")) (by walk_at "my size") ?_; intro _)
  k_with "call builtin:str.join" => (k_here; (with_reducible show wpAny _ _ (call (Value.builtin "str.join") [Value.str _ _, Value.ref _]) _ _ _); first
  | (refine' my_join (by exact isL_of (by with_reducible assumption) (by walk_at "my mem")) (by decide +kernel) (by omega) (by walk_at "my parts") ?_; intro _ _)
  | (refine' my_join2 (by exact isL_of (by with_reducible assumption) (by walk_at "my mem")) (by decide +kernel) (by omega) (by walk_at "my parts") (by walk_at "my len") ?_; intro _ _))
  k_with "my mem" => (with_reducible (first | exact List.mem_cons_self | (refine List.mem_cons_of_mem _ ?_; walk_at "my mem")))
  k_with "my parts" => (assumption)
  k_with "my len" => (first | (simp only []; omega) | omega)
  k_with "my in" => (first | with_reducible assumption | with_reducible exact List.mem_cons_self | with_reducible exact List.mem_append_left _ (by with_reducible assumption) | with_reducible exact List.mem_append_right _ (by with_reducible assumption) | ((with_reducible refine List.mem_cons_of_mem _ ?_); walk_at "my in"))
  k_with "my all" => (first | with_reducible exact List.forall_mem_nil _ | ((with_reducible refine List.forall_mem_cons.mpr ⟨by walk_at "my mem", ?_⟩); walk_at "my all") | (intro _ _; walk_at "my in"))
  k_with "my news" => (first | with_reducible assumption | (refine' news_sub (by with_reducible assumption) (by intro _ _; walk_at "my in")))
  k_with "my led" => ((try simp only [List.cons_append]); with_reducible assumption)
  k_with "my slice" => (k_here; (with_reducible show wpAny _ _ (subscriptTail _ (PySem.Expr.Slice _ _ none _) (Value.ref _) (Value.ref _)) _ _ _); k_dflt (refine' kmk_slice (by k_asm) (by k_asm) (by exact isL_of (by with_reducible assumption) (by walk_at "my mem")) (by kmk_part) (by kmk_part) ?_ (by with_unfolding_all rfl) (by kmk_pure) (by first | walk_at "my size" | (simp only [List.size_toArray, intVals, List.length_map]; rw [sizeLine_eq]; omega))); intro _ _ _ _ _)
  k_with "my fold" => (refine fold_ae ?_; intro _ _)
  k_with "storeName" => (k_here; k_dflt (refine' store_let (by k_asm) (by k_asm) ?_ (by rfl) (by rfl); k_whole; intro _ _ _ _ _ _; (try k_sweep)))
  k_with "exec If" => (k_here; (refine if_let ?_); intro _)
  k_with "execs cons" => (k_here; (refine cons_let ?_); intro _ _ _ _)
  k_with "execs cons" => (k_here; (with_reducible show wpAny _ _ (execs (_ :: []) _) _ _ _); (refine execs_1 ?_); intro _ _ _)
  k_with "execs cons" => (k_here; k_gentoks; (refine st_let2 ?_); intro _)
  k_with "my room" => (k_dflt (first | exact room1 (k := 1) rfl rfl (by with_reducible assumption) | exact room1 (k := 2) rfl rfl (by with_reducible assumption) | exact room1 (k := 3) rfl rfl (by with_reducible assumption) | exact room0 (k := 1) rfl rfl (by with_reducible assumption) | exact room0 (k := 2) rfl rfl (by with_reducible assumption) | exact room0 (k := 3) rfl rfl (by with_reducible assumption) | ktr_room | (show Around.depth (Around.deeper _ _) + _ < recursionLimit; first | ktr_room) | (show Around.depth (Around.deeper _ _) < recursionLimit; first | ktr_room)))
  k_with "my units" => (k_dflt (first | exact unit1 (k := 3) rfl rfl (by with_reducible assumption) | exact unit1 (k := 4) rfl rfl (by with_reducible assumption) | exact unit1 (k := 5) rfl rfl (by with_reducible assumption) | exact unit1 (k := 6) rfl rfl (by with_reducible assumption) | exact unit1 (k := 7) rfl rfl (by with_reducible assumption) | exact unit1 (k := 8) rfl rfl (by with_reducible assumption) | exact unit0 (k := 3) rfl rfl (by with_reducible assumption) | exact unit0 (k := 6) rfl rfl (by with_reducible assumption) | ktr_units | (show Around.units (Around.deeper _ _) + _ < cLine; first | ktr_units)))
  k_with "my steps" => (repeat' (first | ((fail_if_success (fail_if_success k_unfold)); (first | (show wpAny _ _ _ _ _ _) | (k_unfold; (try dsimp only)))) | (k_end; wrow_close) | walk1 | (dsimp only; walk1) | (leave1; (try dsimp only)) | fail "no step"))
  k_with "my off" => (first | with_reducible exact rfl | ((refine map_off ?_ ?_); (next => assumption); walk_at "my off") | exact rfl)
  k_with "exec While BoolOp cons nil" => (k_here; refine halt_at ?_)
  k_with "exec While Compare cons nil" => (k_here; refine halt_at ?_)
  k_with "exec While Constant cons nil" => (k_here; refine halt_at ?_)
  k_with "exec For Name Name cons nil" => (k_here; refine halt_at ?_)
  k_with "exec For Name Call cons nil" => (k_here; refine halt_at ?_)
  k_with "exec For Tuple Call cons nil" => (k_here; refine halt_at ?_)
  k_with "eval ListComp IfExp cons" => (k_here; refine halt_at ?_)
  k_with "call type:zip cons nil" => (k_here; refine halt_at ?_)
  k_with "call type:collections.deque" => (k_here; k_dflt (refine' dq_new (by k_asm) (by k_asm) ?_; k_whole); intro _ _ _ _ l1; (try k_lt l1); (try k_sweep); (try (revert l1; intro _)))
  k_with "truthy ref" => (k_here; (with_reducible show wpAny _ _ (truthy (Value.ref _)) _ _ _); k_dflt (refine' dq_truthy (by k_asm) (by walk_at "my mem") (by exact Nat.le_of_ble_eq_true rfl) ?_; k_whole))
  k_with "getMethod ref" => (k_here; k_dflt (first | (refine' dq_getMethod (by k_asm) (by k_mem) dq_slot_append dq_type_append ?_; k_whole) | (refine' dq_getMethod (by k_asm) (by k_mem) dq_slot_pop dq_type_pop ?_; k_whole)))
  k_with "call builtin:collections.deque.append" => (k_here; k_dflt (refine' dq_append (by k_asm) (by k_asm) (by k_upd) ?_; k_whole); intro _ _ _)
  k_with "call builtin:collections.deque.pop" => (k_here; k_dflt (refine' dq_pop (by k_asm) (by k_asm) (by k_upd) ?_; k_whole); intro _ _ _)
  k_with "enter kw" => (k_dflt (refine' code_def (by k_asm) (by k_asm) (by k_asm) (by k_asm) (by k_asm) rfl rfl (by assumption) (by k_is) (by k_is) (by walk_at "my room") (by (refine' kp_binds ?kx ?ke; (case kx => k_in); (case ke => exact fun _ => rfl))) (by exact locs rfl) ?_ (by exact rfl) (by exact rfl) (by exact rfl) (by decide); k_whole; intro _ _ _ _ _ _ B' _ _; (try dsimp only); (try k_lift B'); (try k_fold); (try walk_at "my fold")))
  k_with "getMethod str" => (k_here; (with_reducible show wpAny _ _ (getMethod (Value.str _ _) (PySem.Str.ofString "maketrans") _) _ _ _); k_dflt (refine gm_maketrans ?_))
  k_with "getMethod type:dict" => (k_here; k_dflt (refine' gm_fromkeys (by k_asm) (by k_asm) (by k_asm) ?_; k_whole); intro _ _ _ _ l1; (try k_lt l1); (try (revert l1; intro _)))
  k_with "callWith ref" => (k_here; (with_reducible show wpAny _ _ (callWith _ (Value.ref _) [] (backTo _ (starEach (_ :: _) _)) []) _ _ _); (refine callWith_bf (B := _) ?_))
  k_with "And" => ((with_reducible show _ = some bfObj ∧ _); (refine' bf_there (by k_asm) (by k_mem) ?_); (try dsimp only [List.nil_append, List.cons_append]))
  k_with "call ref" => (k_here; (with_reducible show wpAny _ _ (call (Value.ref _) [Value.str _ _]) _ _ _); k_dflt (refine' call_bf (P := _) (by exact rfl) (by k_asm) (by k_asm) (by k_asm) (by k_mem) ?_); intro _ _ _ _ _ _ _ l1 _; (try k_lt l1); (try (revert l1; intro _)))
  k_with "call builtin:str.maketrans" => (k_here; k_dflt (refine' mt_run (by exact sys_lt (by k_in)) (by assumption) (by assumption) (by k_asm) (by k_asm) (by k_mem) ?_); intro _ _ _ _ _ _ _ l1 _; (try k_lt l1); (try (revert l1; intro _)))
  k_with "getMethod str" => (k_here; (with_reducible show wpAny _ _ (getMethod (Value.str _ _) (PySem.Str.ofString "translate") _) _ _ _); k_dflt (refine gm_translate ?_))
  k_with "call builtin:str.translate" => (k_here; k_dflt (refine' tr_run (by exact rfl) (by assumption) (by assumption) (by k_asm) (by k_asm) (by k_mem) (by decide +kernel) (by decide +kernel) (by decide +kernel) ?_); intro _ _ _ _ _)
  k_with "Eq some" => ((with_reducible show _ = some bfObj); (refine' bf_at (by k_asm) (by k_mem)))
  k_with "storeName" => (k_here; k_dflt (refine' store_led (by k_asm) (by k_asm) ?_ (by rfl) (by rfl); k_whole; intro _ _ _ _ _ _ _; (try k_sweep)))
  trivial
noncomputable abbrev Ckc (w : World) (p : Program) (loose : List Str) (mean : ExcName → Option Value) (mg mb : Str → Option Value) (r : Nat) (f : Addr) (vs : List Value) (kw : List (Str × Value)) (pre : List (Addr × Obj) → Prop)
    (RET : Heap → Addr → (Str → Option Value) → List (Addr × Obj) → Shared → (Value → Shared → Prop) → Prop) : Prop :=
  ∀ (news : List (Addr × Obj)) (dp un : Nat) (gd : Option (List Code)) (cn : Str) (cs : Scope) (a : Addr) (ccd : Value) (cl : List (Str × Addr)) (outer : List Env) (A₀ : Around) (base h₀ : Heap) (L : Addr) (m : Str → Option Value) (s : Shared) (R : Result → Shared → Prop),
    Below A₀ base outer h₀ → Fr h₀ L s.heap m → (kf w.params).In h₀ → News h₀ L s.heap news → Top p loose mean mg mb h₀ → cs.kind = .function →
    pre news → dp + r < recursionLimit → un + 8 * r < cLine → RET h₀ L m news s (fun v s' => R (.ok (.ret v)) s') →
      codeAny (model pw w) (ktrTop dp un gd cn cs L a ccd cl outer) (.call (.ref f) ⟨vs, kw⟩) R s
theorem rows16 : True := by
  k_with "call ref" => (k_here; (with_reducible show wpAny _ _ (call (Value.ref 721) [Value.str _ _]) _ _ _); k_dflt (refine' use_claim (d_sio _ _) (by k_asm) (by k_asm) (by k_asm) (by k_asm) (by k_asm) (by first | exact rfl | assumption) (by first | assumption | omega) (by walk_at "my room") (by walk_at "my units") ?_); intro _ _ _ _ _ _ _ _ _ _ _ _ l1 l2; (try k_lt l1); (try k_lt2 l2); (try (revert l1; intro _)); (try (revert l2; intro _)))
  trivial

theorem d_shinit (x : Str) (t t1 : Tok) (X D : Addr) (rest : List (Addr × Obj)) : Ckc w p loose mean mg mb 7 780 [.ref X, .str x t] [(S "posix", .bool true), (S "punctuation_chars", .str (S "()") t1)] (fun news => news = (X, instObj 856 D) :: (D, emptyDict) :: rest ∧ (∀ p ∈ rest, p.1 < D) ∧ D < X ∧ x.length ≤ 1000)
    (fun h₀ L m _ s Q => ∀ (T : ShT) (SX SD PB FS PC : Addr) (k1 k2 k3 tn tb tp t2 t3 : Tok) h' tk', @LT.lt Nat _ X SD → @LT.lt Nat _ SD SX → @LT.lt Nat _ SX PB → @LT.lt Nat _ PB FS → @LT.lt Nat _ FS PC → Fr h₀ L h' m →
      News h₀ L h' ((PC, dqObj 0 []) :: (FS, dqObj 0 []) :: (PB, dqObj 0 []) :: (SX, instObj 721 SD) :: (SD, sioD w.params x 0 k1 k2 k3 tn tb tp) :: (X, instObj 856 D) :: (D, shD w.params T SX PB FS PC (.str (Str.ofString " ") t2) (.str (Str.ofString "") t3)) :: rest) → Q .none { s with heap := h', toks := tk' }) := by
  dsimp only [Ckc]; intros; rename_i hpre _ _ hret; obtain ⟨rfl, hlt, hDX, hx⟩ := hpre
  replace hlt := allLt_of hlt
  k_lt2 hDX
  walk_at "enter kw"
  rename Fr _ _ _ _ => lF
  replace lF := fr_to (fun y => List.lookup y [(S "punctuation_chars", .str (S "()") t1), (S "posix", .bool true), (S "infile", .none), (S "instream", .str x t), (S "self", .ref X)]) lF
  walk_at "my steps"
  refine' hret (ShT.mk _ _ _ _ _ _ _ _ _ _ _ _ _ _ _ _ _ _ _ _ _ _ _ _ _ _ _ _ _) _ _ _ _ _ _ _ _ _ _ _ _ _ _ _ ?ra ?rb ?rc ?rd ?re ?rF ?rN
  case rN => exact news_tl (news_tl2 (by k_asm))
  case rF => k_asm
  all_goals omega

end

noncomputable section
open PySem PySem.W PyProof.Rows PySem.Calls PySem.Spec Mine
variable {w : World} {p : Program} {loose : List Str} {mean : ExcName → Option Value} {mg mb : Str → Option Value}
set_option maxHeartbeats 4000000
set_option rowWalk.seconds 0
theorem rows17 : True := by
  k_with_none
  k_with "my fits" => (first | with_reducible assumption | (simp only [sizeLine_eq] at *; omega))
  k_with "call builtin:issubclass" => (k_here; (with_reducible show wpAny _ _ (call (Value.builtin "issubclass") [Value.type "str", Value.ref _]) _ _ _); (refine' call_issub (isTup_of (by k_asm) (by news_mem)) ?_))
  k_with "my size" => (first | with_reducible assumption | (simp only [strValues, List.size_toArray, List.length_map, List.length_append, List.length_cons, List.length_nil, sizeLine_eq]; omega))
  k_with "call builtin:list.append" => (k_here; (with_reducible show wpAny _ _ (call (Value.builtin _) [Value.ref _, _]) _ _ _); k_dflt (refine' append_K (by k_asm) (by k_asm) (by k_upd) ?_ (by walk_at "my size"); k_whole); intro _ _ _)
  k_with "truthy ref" => (k_here; (with_reducible show wpAny _ _ (truthy (Value.ref _)) _ _ _); refine' truthy_L (by exact isL_of (by with_reducible assumption) (by walk_at "my mem")) (by walk_at "my size") ?_ ?_; intro _ _)
  k_with "call builtin:list.pop" => (k_here; (try dsimp only); k_dflt (refine' pop_L (by k_asm) (by k_asm) (by k_upd) (by walk_at "my size") ?_); intro _ _ _)
  k_with "subscriptTail Name UnaryOp ref int" => (k_here; (with_reducible show wpAny _ _ (subscriptTail _ _ (Value.ref _) (Value.int (-1) _)) _ _ _); refine' item_last (by exact isL_of (by with_reducible assumption) (by walk_at "my mem")) (by walk_at "my size") (by exact List.getLast?_concat) ?_ (by with_unfolding_all rfl))
  k_with "truthy ref" => (k_here; (with_reducible show wpAny _ _ (truthy (Value.ref _)) _ _ _); refine' truthy_L1 (by exact isL_of (by with_reducible assumption) (by walk_at "my mem")) (by walk_at "my size") ?_; intro _)
  k_with "call builtin:str.join" => (k_here; (with_reducible show wpAny _ _ (call (Value.builtin "str.join") [Value.str _ _, Value.ref _]) _ _ _); first
  | (refine' my_join (by exact isL_of (by with_reducible assumption) (by walk_at "my mem")) (by decide +kernel) (by omega) (by walk_at "my parts") ?_; intro _ _)
  | (refine' my_join2 (by exact isL_of (by with_reducible assumption) (by walk_at "my mem")) (by decide +kernel) (by omega) (by walk_at "my parts") (by walk_at "my len") ?_; intro _ _))
  k_with "my mem" => (with_reducible (first | exact List.mem_cons_self | (refine List.mem_cons_of_mem _ ?_; walk_at "my mem")))
  k_with "my parts" => (assumption)
  k_with "my len" => (first | (simp only []; omega) | omega)
  k_with "my in" => (first | with_reducible assumption | with_reducible exact List.mem_cons_self | with_reducible exact List.mem_append_left _ (by with_reducible assumption) | with_reducible exact List.mem_append_right _ (by with_reducible assumption) | ((with_reducible refine List.mem_cons_of_mem _ ?_); walk_at "my in"))
  k_with "my all" => (first | with_reducible exact List.forall_mem_nil _ | ((with_reducible refine List.forall_mem_cons.mpr ⟨by walk_at "my mem", ?_⟩); walk_at "my all") | (intro _ _; walk_at "my in"))
  k_with "my news" => (first | with_reducible assumption | (refine' news_sub (by with_reducible assumption) (by intro _ _; walk_at "my in")))
  k_with "my led" => ((try simp only [List.cons_append]); with_reducible assumption)
  k_with "my slice" => (k_here; (with_reducible show wpAny _ _ (subscriptTail _ (PySem.Expr.Slice _ _ none _) (Value.ref _) (Value.ref _)) _ _ _); k_dflt (refine' kmk_slice (by k_asm) (by k_asm) (by exact isL_of (by with_reducible assumption) (by walk_at "my mem")) (by kmk_part) (by kmk_part) ?_ (by with_unfolding_all rfl) (by kmk_pure) (by first | walk_at "my size" | (simp only [List.size_toArray, intVals, List.length_map]; rw [sizeLine_eq]; omega))); intro _ _ _ _ _)
  k_with "my fold" => (refine fold_ae ?_; intro _ _)
  k_with "storeName" => (k_here; k_dflt (refine' store_let (by k_asm) (by k_asm) ?_ (by rfl) (by rfl); k_whole; intro _ _ _ _ _ _; (try k_sweep)))
  k_with "exec If" => (k_here; (refine if_let ?_); intro _)
  k_with "execs cons" => (k_here; (refine cons_let ?_); intro _ _ _ _)
  k_with "execs cons" => (k_here; (with_reducible show wpAny _ _ (execs (_ :: []) _) _ _ _); (refine execs_1 ?_); intro _ _ _)
  k_with "execs cons" => (k_here; k_gentoks; (refine st_let2 ?_); intro _)
  k_with "my room" => (k_dflt (first | exact room1 (k := 1) rfl rfl (by with_reducible assumption) | exact room1 (k := 2) rfl rfl (by with_reducible assumption) | exact room1 (k := 3) rfl rfl (by with_reducible assumption) | exact room0 (k := 1) rfl rfl (by with_reducible assumption) | exact room0 (k := 2) rfl rfl (by with_reducible assumption) | exact room0 (k := 3) rfl rfl (by with_reducible assumption) | ktr_room | (show Around.depth (Around.deeper _ _) + _ < recursionLimit; first | ktr_room) | (show Around.depth (Around.deeper _ _) < recursionLimit; first | ktr_room)))
  k_with "my units" => (k_dflt (first | exact unit1 (k := 3) rfl rfl (by with_reducible assumption) | exact unit1 (k := 4) rfl rfl (by with_reducible assumption) | exact unit1 (k := 5) rfl rfl (by with_reducible assumption) | exact unit1 (k := 6) rfl rfl (by with_reducible assumption) | exact unit1 (k := 7) rfl rfl (by with_reducible assumption) | exact unit1 (k := 8) rfl rfl (by with_reducible assumption) | exact unit0 (k := 3) rfl rfl (by with_reducible assumption) | exact unit0 (k := 6) rfl rfl (by with_reducible assumption) | ktr_units | (show Around.units (Around.deeper _ _) + _ < cLine; first | ktr_units)))
  k_with "my steps" => (repeat' (first | ((fail_if_success (fail_if_success k_unfold)); (first | (show wpAny _ _ _ _ _ _) | (k_unfold; (try dsimp only)))) | (k_end; wrow_close) | walk1 | (dsimp only; walk1) | (leave1; (try dsimp only)) | fail "no step"))
  k_with "my off" => (first | with_reducible exact rfl | ((refine map_off ?_ ?_); (next => assumption); walk_at "my off") | exact rfl)
  k_with "exec While BoolOp cons nil" => (k_here; refine halt_at ?_)
  k_with "exec While Compare cons nil" => (k_here; refine halt_at ?_)
  k_with "exec While Constant cons nil" => (k_here; refine halt_at ?_)
  k_with "exec For Name Name cons nil" => (k_here; refine halt_at ?_)
  k_with "exec For Name Call cons nil" => (k_here; refine halt_at ?_)
  k_with "exec For Tuple Call cons nil" => (k_here; refine halt_at ?_)
  k_with "eval ListComp IfExp cons" => (k_here; refine halt_at ?_)
  k_with "call type:zip cons nil" => (k_here; refine halt_at ?_)
  k_with "my look" => (first | with_reducible assumption | exact rfl | (refine map_put rfl ?_; walk_at "my look"))
  k_with "eval Name" => (k_here; k_dflt (refine' nameX_L (by k_asm) (by with_reducible assumption) ?_ (by exact rfl) (by exact rfl)))
  k_with "eval Name" => (k_here; k_dflt (refine' nameX_L (by k_asm) (by (refine map_put rfl ?_; with_reducible assumption)) ?_ (by exact rfl) (by exact rfl)))
  k_with "call builtin:str.strip" => (k_here; (refine strip_ends (by with_reducible assumption) (by with_reducible assumption) ?_); intro _ _)
  k_with "truthy str" => (k_here; (refine tr_yes (by with_reducible assumption) (by with_reducible assumption) ?_); intro _)
  k_with "truthy str" => (k_here; (refine tr_no rfl ?_); intro _)
  k_with "call ref" => (k_here; (with_reducible show wpAny _ _ (call (Value.ref 154) [Value.str _ _, Value.str _ _]) _ _ _); refine' use_claim (d_join _ _ _ _) (by k_asm) (by k_asm) (by k_asm) (by k_asm) (by k_asm) (by first | exact rfl | assumption) (by (refine' ⟨?_, ?_, ?_, ?_⟩ <;> first | assumption | omega)) (by walk_at "my room") (by walk_at "my units") ?_; (dsimp only [RetS]; intro _ _ _ _ _); (try dsimp only); (try k_fold))
  k_with "call ref" => (k_here; (with_reducible show wpAny _ _ (call (Value.ref 168) [Value.str _ _]) _ _ _); refine' use_claim (d_normpath _ _) (by k_asm) (by k_asm) (by k_asm) (by k_asm) (by k_asm) (by first | exact rfl | assumption) (by (refine' ⟨?_, ?_, ?_, ?_, ?_⟩ <;> assumption)) (by walk_at "my room") (by walk_at "my units") ?_; (dsimp only [RetS]; intro _ _ _ _ _); (try dsimp only); (try k_fold))
  k_with "exec If" => (k_here; (with_reducible show wpAny _ _ (exec (PySem.Stmt.If (PySem.Expr.Call _ _ _ _) _ _ _) _) _ _ _); refine halt_at ?_)
  trivial
noncomputable def wkOk (a b : Str) : Prop :=
  a.length ≤ 500 ∧ b.length ≤ 500 ∧ (a.length : Int) ≠ 0 ∧ Txt.startswith b (Str.ofString "/") = false ∧ (jn a b).length ≤ 1000 ∧ ((jn a b).length : Int) ≠ 0 ∧
    Txt.slice (jn a b) none (some 1) = Str.ofString "/" ∧ Txt.slice (jn a b) (some 1) (some 2) ≠ Str.ofString "/" ∧ npOk (Txt.split (Txt.slice (jn a b) (some 1) none) (Str.ofString "/"))
noncomputable def wkSigns : List Str → Str → List Nat → List Str → Prop
  | pl, _, [], out => out = pl
  | pl, name, c :: r, out => (c = 40 ∨ c = 41) ∧ pl.length ≤ 500 ∧ ∃ a, pl.getLast? = some a ∧ wkOk a (if c = 40 then name else Str.ofString "..") ∧ wkSigns (pl ++ [npath (jn a (if c = 40 then name else Str.ofString ".."))]) name r out
noncomputable def wkRun : Nat → Option (List Nat) → LS → List Nat → List Str → Str → List Str → Prop
  | _, none, _, _, pl, _, out => out = pl
  | 0, some _, _, _, _, _, _ => False
  | n + 1, some tok, st, r, pl, name, out => (st = .sp ∨ st = .z) ∧ tok.length ≤ 500 ∧ ∃ res' st' r', lexGo st [] r = some (res', st', r') ∧
      ((((Txt.stripChars ⟨tok.toArray⟩ (Str.ofString "()")).length : Int) ≠ 0 ∧ (Txt.stripChars ⟨tok.toArray⟩ (Str.ofString "()")).length ≤ 2000 ∧ wkRun n res' st' r' pl ⟨tok.toArray⟩ out) ∨
       (Txt.stripChars ⟨tok.toArray⟩ (Str.ofString "()") = Str.ofString "" ∧ ∃ pl', wkSigns pl name tok pl' ∧ wkRun n res' st' r' pl' name out))
noncomputable abbrev RetL (out : List Str) (h₀ : Heap) (L : Addr) (m : Str → Option Value) (news : List (Addr × Obj)) (s : Shared) (Q : Value → Shared → Prop) : Prop :=
  ∀ D al k h' tk', al.map (fun z : Str × Tok => z.1) = out → (∀ p ∈ news, p.1 < D) → Fr h₀ L h' m → News h₀ L h' ((D, W.listOf (strValues al).toArray k) :: news) → Q (.ref D) { s with heap := h', toks := tk' }
theorem lx_start {P : Params} {h₀ h : Heap} {L : Addr} {a : LxA} {T : ShT} {x : Str} {i : Nat} {k1 k2 k3 tn tb tp : Tok} {ps : Int} {pcs : List Value} {st tok : Value} {q y : Addr × Obj} {rest : List (Addr × Obj)}
    (N : News h₀ L h (q :: y :: lxL P a T x i k1 k2 k3 tn tb tp ps pcs st tok rest)) : News h₀ L h (lxL P a T x i k1 k2 k3 tn tb tp ps pcs st tok (y :: rest)) := by
  refine news_sub N fun p hp => ?_
  simp only [lxL, List.mem_cons] at hp ⊢
  rcases hp with e | e | e | e | e | e | e | e | e <;> simp only [e, true_or, or_true]
theorem lx_head {P : Params} {h₀ h : Heap} {L : Addr} {a : LxA} {T : ShT} {x : Str} {i : Nat} {k1 k2 k3 tn tb tp : Tok} {ps : Int} {pcs : List Value} {st tok : Value} {y : Addr × Obj} {rest : List (Addr × Obj)}
    (N : News h₀ L h (lxL P a T x i k1 k2 k3 tn tb tp ps pcs st tok (y :: rest))) : News h₀ L h (y :: lxL P a T x i k1 k2 k3 tn tb tp ps pcs st tok rest) := by
  refine news_sub N fun p hp => ?_
  simp only [lxL, List.mem_cons] at hp ⊢
  rcases hp with e | e | e | e | e | e | e | e | e <;> simp only [e, true_or, or_true]
theorem lx_back {P : Params} {h₀ h : Heap} {L : Addr} {a : LxA} {T : ShT} {x : Str} {i : Nat} {k1 k2 k3 tn tb tp : Tok} {ps : Int} {pcs : List Value} {st tok : Value} {y : Addr × Obj} {rest : List (Addr × Obj)}
    (N : News h₀ L h (y :: lxL P a T x i k1 k2 k3 tn tb tp ps pcs st tok rest)) : News h₀ L h (lxL P a T x i k1 k2 k3 tn tb tp ps pcs st tok (y :: rest)) := by
  refine news_sub N fun p hp => ?_
  simp only [lxL, List.mem_cons] at hp ⊢
  rcases hp with e | e | e | e | e | e | e | e | e <;> simp only [e, true_or, or_true]
theorem allLt_ne {d : Addr} {l : List (Addr × Obj)} (h : ∀ p ∈ l, p.1 < d) : ∀ p ∈ l, p.1 ≠ d := fun p hp => Nat.ne_of_lt (h p hp)
theorem lxo_of {a : LxA} {rest : List (Addr × Obj)} {ya : Addr} (o : Obj) (o1 : @LT.lt Nat _ a.D a.X) (o2 : @LT.lt Nat _ a.X a.SD) (o3 : @LT.lt Nat _ a.SD a.SX) (o4 : @LT.lt Nat _ a.SX a.PB) (o5 : @LT.lt Nat _ a.PB a.FS) (o6 : @LT.lt Nat _ a.FS a.PC) (l : ∀ p ∈ rest, p.1 < a.D) (ly : @LT.lt Nat _ a.PC ya) : LxO a ((ya, o) :: rest) := by
  refine ⟨o1, o2, o3, o4, o5, o6, ?_, ?_, ?_⟩ <;> intro p hp <;> rcases List.mem_cons.mp hp with rfl | hp
  · exact neN (by (first | lia | omega))
  · exact Nat.ne_of_lt (l p hp)
  · exact neN (by (first | lia | omega))
  · have : @LT.lt Nat _ p.1 a.D := l p hp
    exact neN (by (first | lia | omega))
  · exact neN (by (first | lia | omega))
  · have : @LT.lt Nat _ p.1 a.D := l p hp
    exact neN (by (first | lia | omega))
noncomputable def wkJ (P : Params) (a : LxA) (T : ShT) (x : Str) (q1 q2 q3 tn tb : Tok) (D : Addr) (nw : List (Addr × Obj)) (out : List Str) (n : Nat) (m : Str → Option Value) (nx : List (Addr × Obj)) : Prop :=
  ∃ (res : Option (List Nat)) (st : LS) (r : List Nat) (name : Str) (al : List (Str × Tok)) (ep i : Nat) (ps : Int) (pcs : List Value) (tp ts tt tm : Tok) (v : Value), wkRun n res st r (al.map (·.1)) name out ∧ TokV res v ∧ LeftR x i pcs r ∧
    nx = lxL P a T x i q1 q2 q3 tn tb tp ps pcs (stV ts st) (.str ⟨#[]⟩ tt) ((D, W.listOf (strValues al).toArray ep) :: nw) ∧
    m (S "token") = some v ∧ m (S "places") = some (.ref D) ∧ m (S "name") = some (.str name tm) ∧ m (S "lexer") = some (.ref a.X)
theorem lx_drop {P : Params} {h₀ h : Heap} {L : Addr} {a : LxA} {T : ShT} {x : Str} {i : Nat} {k1 k2 k3 tn tb tp : Tok} {ps : Int} {pcs : List Value} {st tok : Value} {y : Addr × Obj} {rest : List (Addr × Obj)}
    (N : News h₀ L h (lxL P a T x i k1 k2 k3 tn tb tp ps pcs st tok (y :: rest))) : News h₀ L h (y :: rest) := news_sub N fun p hp => by
  simp only [lxL, List.mem_cons] at hp ⊢
  rcases hp with e | e <;> simp only [e, true_or, or_true]
noncomputable def wkMid (g0 : Heap) (L0 : Addr) (nf : Addr × Obj → List (Addr × Obj)) (D X : Addr) (R : List Str → Str → Prop) (s0 : Shared) (fl : Flow) (s' : Shared) : Prop :=
  fl = .next ∧ ∃ h tk m name tm al ep, s' = { s0 with heap := h, toks := tk } ∧ R (al.map (fun z : Str × Tok => z.1)) name ∧ Fr g0 L0 h m ∧ News g0 L0 h (nf (D, W.listOf (strValues al).toArray ep)) ∧ m (S "places") = some (.ref D) ∧ m (S "name") = some (.str name tm) ∧ m (S "lexer") = some (.ref X)
noncomputable def wkI (P : Addr) (R : List (Addr × Obj)) (X : Addr) (pl : List Str) (name : Str) (tm : Tok) (tok : List Nat) (j : Nat) (m : Str → Option Value) (nx : List (Addr × Obj)) : Prop :=
  ∃ (al : List (Str × Tok)) (ep : Nat), nx = (P, W.listOf (strValues al).toArray ep) :: R ∧ wkSigns (al.map (fun z : Str × Tok => z.1)) name (tok.drop j) pl ∧ m (S "places") = some (.ref P) ∧ m (S "name") = some (.str name tm) ∧ m (S "lexer") = some (.ref X)
theorem wkI_mk {P : Addr} {R : List (Addr × Obj)} {X : Addr} {pl : List Str} {name : Str} {tm : Tok} {tok : List Nat} {j : Nat} {m : Str → Option Value} {bl : List (Str × Tok)} {b : Str} {tb : Tok} {y : Str} {t : Tok} {ep : Nat}
    (h : wkSigns ((bl ++ [(b, tb)]).map (fun z : Str × Tok => z.1) ++ [y]) name (tok.drop (j + 1)) pl) (m2 : m (S "places") = some (.ref P)) (m3 : m (S "name") = some (.str name tm)) (m4 : m (S "lexer") = some (.ref X)) :
    wkI P R X pl name tm tok (j + 1) m ((P, W.listOf ((strValues bl ++ [Value.str b tb]).toArray.push (Value.str y t)) ep) :: R) :=
  ⟨bl ++ [(b, tb)] ++ [(y, t)], ep, by simp [strValues], by simpa using h, m2, m3, m4⟩
theorem d_walk (x : Str) (t : Tok) (n : Nat) (out : List Str) (res : Option (List Nat)) (st : LS) (r : List Nat) : Cl w p loose mean mg mb 12 874 [.str x t] (x.length ≤ 1000 ∧ (∀ c ∈ x.cps.toList, c ≠ 10) ∧ lexGo .sp [] x.cps.toList = some (res, st, r) ∧ wkRun n res st r [Str.ofString "/"] (Str.ofString "") out) (RetL out) := by
  dsimp only [Cl]; intros; rename_i hpre _ _ hret; obtain ⟨hpre, hn10, hgo, hrun⟩ := hpre; refine wpAny_call ?_; (k_dflt cell_enter; (try walk_at "my fold"))
  rename_i g0 L0 hh0 FG0 lF lN B0 X0 T0 _ _
  replace lF := fr_to (fun y => List.lookup y [(S "line", .str x t)]) lF
  walk_at "my steps"
  rename Fr _ _ _ _ => F7
  rename News _ _ _ _ => N7
  rename Frag.In _ _ => X7
  rename List (Addr × Obj) => nw
  have KX := X7.keeps F7.keep
  refine wpAny_call ?_
  refine' make_K (K := kf w.params) F7 N7 KX ?hm ?hi ?hf ?_
  case hm => k_is
  case hi => k_is
  case hf => k_is
  intro X D h8 F8 N8 l1 l2
  refine' d_shinit x t _ X D nw _ _ _ _ _ _ _ _ _ _ _ _ _ _ _ _ _ ?k1 ?k2 ?k3 ?k4 ?k5 ?kK ?kp ?kd ?ku ?_
  case k1 => k_asm
  case k2 => k_asm
  case k3 => k_asm
  case k4 => exact N8
  case k5 => k_asm
  case kK => exact rfl
  case kp => exact ⟨rfl, l1, l2, hpre⟩
  case kd => (show _ + 1 + 1 + 7 < recursionLimit; dsimp only [ktrTop]; (first | lia | omega))
  case ku => (show _ + 1 + 1 + 8 * 7 < cLine; dsimp only [ktrTop]; (first | lia | omega))
  intro T SX SD PB FS PC k1 k2 k3 tn tb tp t2 t3 h9 tk9 o1 o2 o3 o4 o5 F9 N9
  refine ⟨rfl, ?_⟩
  clear KX F7 N7 F8 N8
  (try dsimp only)
  walk_at "my steps"
  rename_i s8 n7 q7 e7 qk7 P hb l3 Dt hc l4 hd ma he ka sa mb9 hf kb sb F8 N8 n8 q8 e8 qk8
  obtain ⟨l3, _, _, _, _, _, _, _⟩ := l3
  clear l4
  have N9 := lx_start (a := ⟨X, D, SX, SD, PB, FS, PC⟩) (T := T) (x := x) (i := 0) (k1 := k1) (k2 := k2) (k3 := k3) (tn := tn) (tb := tb) (tp := tp) (ps := 0) (pcs := []) (st := stV t2 .sp) (tok := .str ⟨#[]⟩ t3) (y := (P, W.listOf (strValues [(Str.ofString "/", s8.toks)]).toArray 0)) N8
  have O := fun o => lxo_of (a := ⟨X, D, SX, SD, PB, FS, PC⟩) (rest := nw) o l2 o1 o2 o3 o4 o5 l1 l3
  clear N8
  walk_at "my steps"
  (try dsimp only [List.append_nil])
  refine' use_claimN (d_get ⟨X, D, SX, SD, PB, FS, PC⟩ T x 0 k1 k2 k3 tn tb tp t2 t3 0 [] .sp st x.cps.toList r res ((P, W.listOf (strValues [(Str.ofString "/", s8.toks)]).toArray 0) :: nw)) ?k1 ?k2 ?k3 ?k4 ?k5 ?kK ?kp ?kd ?ku ?_
  case k1 => k_asm
  case k2 => k_asm
  case k3 => k_asm
  case k4 => exact N9
  case k5 => k_asm
  case kK => exact rfl
  case kp => (refine ⟨rfl, ?_, hpre, hn10, ⟨Nat.zero_le _, .inl ⟨rfl, rfl⟩⟩, .inl rfl, hgo⟩; exact O _)
  case kd => walk_at "my room"
  case ku => walk_at "my units"
  intro i' tp' ps' pcs' ts' tt' v h7 tk7 hv hr' F7 N7
  walk_at "my steps"
  refine Halt.go ?_
  rename Fr _ _ _ _ => lF
  rename News _ _ _ _ => lN
  rename AllLt P nw => lP
  rename Shared => s0
  refine' While_G (G := fun g => g = _) (wkJ w.params ⟨X, D, SX, SD, PB, FS, PC⟩ T x k1 k2 k3 tn tb P nw out) n lF lN ⟨res, st, r, _, [(_, s8.toks)], 0, i', ps', pcs', tp', ts', tt', _, v, hrun, hv, hr', rfl, rfl, rfl, rfl, rfl⟩ rfl ?turn ?hE
  case hE => passes_own
  case turn =>
    clear hrun hv hr' lF lN hgo
    intro n m₁ nx h5 tk5 g5 hJ0 hS0 F5 N5
    subst hS0
    refine q_let ?_
    intro q9 e9
    obtain ⟨res, st, r, name, al, ep, i, ps, pcs, tp, ts, tt, tm, v, hrun, hv, hr, rfl, m1, m2, m3, m4⟩ := hJ0
    cases res with
    | none =>
      obtain rfl : v = .none := hv
      walk_at "my steps"
      obtain rfl : out = _ := by cases n <;> exact hrun
      rename News _ _ _ _ => N6
      exact hret _ _ _ _ _ rfl (allLt_mem lP) (by k_asm) (lx_drop N6)
    | some tok =>
      obtain ⟨tv, rfl⟩ := hv
      cases n with
      | zero => exact hrun.elim
      | succ n =>
      rw [wkRun] at hrun
      obtain ⟨hst, htl, res', st', r', hgo, hrun⟩ := hrun
      have htk2 : ({ cps := tok.toArray } : Str).length ≤ 2000 := by simp only [Str.length, List.size_toArray]; (first | lia | omega)
      walk_at "my steps"
      refine Halt.go ?_
      refine wpAny_mono (Q := wkMid g0 L0 (fun y => lxL w.params ⟨X, D, SX, SD, PB, FS, PC⟩ T x i k1 k2 k3 tn tb tp ps pcs (stV ts st) (.str ⟨#[]⟩ tt) (y :: nw)) P X (fun pl name => wkRun n res' st' r' pl name out) s0) ?mif ?mrest (fun _ _ z => z)
      case mif =>
        refine wpAny_If ?_
        rcases hrun with ⟨hs1, hs2, hrun⟩ | ⟨hs1, pl', hsg, hrun⟩
        · obtain ⟨y, hy⟩ : ∃ y, Txt.stripChars { cps := tok.toArray } (Str.ofString "()") = y := ⟨_, rfl⟩
          rw [hy] at hs1 hs2
          walk_at "my steps"
          exact ⟨rfl, _, _, _, _, _, _, _, rfl, hrun, by k_asm, by assumption, map_put rfl m2, rfl, map_put rfl m4⟩
        · walk_at "my steps"
          refine Halt.go ?_
          rename Fr g0 _ _ _ => lF
          rename News g0 _ _ _ => lN
          replace lN := lx_head lN
          obtain ⟨R, hR⟩ : ∃ R, R = lxL w.params ⟨X, D, SX, SD, PB, FS, PC⟩ T x i k1 k2 k3 tn tb tp ps pcs (stV ts st) (.str ⟨#[]⟩ tt) nw := ⟨_, rfl⟩
          have hRP : ∀ q ∈ R, q.1 < P := by
            subst hR
            intro q hq
            have hq' := (show ∀ q ∈ lxL w.params ⟨X, D, SX, SD, PB, FS, PC⟩ T x i k1 k2 k3 tn tb tp ps pcs (stV ts st) (.str ⟨#[]⟩ tt) nw, @LT.lt Nat _ q.1 P by
              intro q hq
              simp only [lxL, List.mem_cons] at hq
              rcases hq with rfl | rfl | rfl | rfl | rfl | rfl | rfl | hq <;> first | assumption | exact allLt_mem lP q hq) q hq
            exact hq'
          rw [← hR] at lN
          refine' For_str (G := fun g => g = _) (keep := _) (wkI P R X pl' name tm tok) rfl lF lN ?hm [P] (fun q hq => hq) (chg1 ⟨_, List.mem_cons_self⟩) ⟨al, ep, rfl, hsg, m2, m3, m4⟩ rfl ?hx ?hy ?hks ?hd ?turn ?done ?hE
          case hm => exact m1
          case hx => kernel_rfl
          case hy => kernel_rfl
          case hks => kernel_rfl
          case hd => decide +kernel
          case hE => passes_own
          case done =>
            rintro m₉ nx h9 tk9 gens9 ⟨al9, ep9, rfl, hsg9, q2, q3, q4⟩ _ hg F9 N9
            subst hg
            have e9 : pl' = al9.map (fun z : Str × Tok => z.1) := by
              rw [show tok.drop ({ cps := tok.toArray } : Str).cps.size = [] from List.drop_eq_nil_iff.mpr (by simp)] at hsg9
              exact hsg9
            subst e9
            rw [hR] at N9
            exact ⟨rfl, _, _, _, _, _, _, _, rfl, hrun, F9, lx_back N9, q2, q3, q4⟩
          case turn =>
            intro j vj m₉ nx h9 tk9 gens9 own9 hj9 ho9 hJ0 _ hg F9 N9
            refine q_let ?_
            intro q9 e9
            obtain ⟨al9, ep9, rfl, hsg9, q2, q3, q4⟩ := hJ0
            obtain ⟨c, tc, hc, rfl⟩ := hj9
            have hc' : tok[j]? = some c := by simpa using hc
            have hdr : tok.drop j = c :: tok.drop (j + 1) := by
              obtain ⟨hl, he⟩ := List.getElem?_eq_some_iff.mp hc'
              rw [List.drop_eq_getElem_cons hl, he]
            rw [hdr] at hsg9
            obtain ⟨hcc, hal, a, ha, ⟨j1, j2, j3, j4, j5, j6, j7, j8, j9⟩, hsg9⟩ := hsg9
            obtain ⟨bl, b, rfl⟩ : ∃ bl b, al9 = bl ++ [b] := ⟨al9.dropLast, al9.getLast (by intro e; rw [e] at ha; cases ha), (List.dropLast_concat_getLast _).symm⟩
            obtain ⟨b, tb⟩ := b
            have e1 : strValues (bl ++ [(b, tb)]) = strValues bl ++ [.str b tb] := by simp [strValues]
            have e2 : b = a := by simpa using ha
            subst e2
            rw [e1] at N9
            simp only [List.cons_append] at N9
            rw [List.length_map, List.length_append, List.length_singleton] at hal
            have hR9 := hR
            clear hR
            have hne9 := led_ne2 hRP ho9
            rcases hcc with rfl | rfl
            · rw [if_pos rfl] at hsg9
              simp only [if_pos] at j2 j4 j5 j6 j7 j8 j9
              rw [show ({ cps := #[40] } : Str) = Str.ofString "(" from rfl] at F9
              walk_at "my steps"
              rename News g0 _ _ _ => N10
              exact EndG.mk1 (by k_asm) N10 (wkI_mk hsg9 (map_put rfl q2) (map_put rfl q3) (map_put rfl q4)) hg rfl
            · rw [if_neg (by decide)] at hsg9
              simp only [if_neg (show ¬ (41 = 40) by decide)] at j2 j4 j5 j6 j7 j8 j9
              rw [show ({ cps := #[41] } : Str) = Str.ofString ")" from rfl] at F9
              walk_at "my steps"
              rename News g0 _ _ _ => N10
              exact EndG.mk1 (by k_asm) N10 (wkI_mk hsg9 (map_put rfl q2) (map_put rfl q3) (map_put rfl q4)) hg rfl
      case mrest =>
        rintro fl s2 ⟨rfl, h6, tk6, m6, name6, tm6, al6, ep6, rfl, hrun, F6, N6, m2, m3, m4⟩
        (try dsimp only at N6 hrun)
        (try dsimp only)
        walk_at "my steps"
        (try dsimp only [List.append_nil])
        refine' use_claimN (d_get ⟨X, D, SX, SD, PB, FS, PC⟩ T x i k1 k2 k3 tn tb tp ts tt ps pcs st st' r r' res' ((P, W.listOf (strValues al6).toArray ep6) :: nw)) ?k1 ?k2 ?k3 ?k4 ?k5 ?kK ?kp ?kd ?ku ?_
        case k1 => k_asm
        case k2 => k_asm
        case k3 => k_asm
        case k4 => exact N6
        case k5 => k_asm
        case kK => exact rfl
        case kp => exact ⟨rfl, O _, hpre, hn10, hr, hst, hgo⟩
        case kd => walk_at "my room"
        case ku => walk_at "my units"
        intro i' tp' ps' pcs' ts' tt' v' h7 tk7 hv' hr' F7 N7
        walk_at "my steps"
        rename News _ _ _ _ => N9
        exact EndW.mk (by k_asm) N9 ⟨n, Nat.lt_succ_self _, res', st', r', name6, al6, ep6, i', ps', pcs', tp', ts', tt', tm6, v', hrun, hv', hr', rfl, rfl, map_put rfl m2, map_put rfl m3, map_put rfl m4⟩ rfl

end

noncomputable section
open PySem PySem.W PyProof.Rows PySem.Calls PySem.Spec Mine
variable {w : World} {p : Program} {loose : List Str} {mean : ExcName → Option Value} {mg mb : Str → Option Value}
set_option maxHeartbeats 4000000
set_option rowWalk.seconds 0
theorem rows18 : True := by
  k_with_none
  k_with "my fits" => (first | with_reducible assumption | (simp only [sizeLine_eq] at *; omega))
  k_with "call builtin:issubclass" => (k_here; (with_reducible show wpAny _ _ (call (Value.builtin "issubclass") [Value.type "str", Value.ref _]) _ _ _); (refine' call_issub (isTup_of (by k_asm) (by news_mem)) ?_))
  k_with "my size" => (first | with_reducible assumption | (simp only [strValues, List.size_toArray, List.length_map, List.length_append, List.length_cons, List.length_nil, sizeLine_eq]; omega))
  k_with "call builtin:list.append" => (k_here; (with_reducible show wpAny _ _ (call (Value.builtin _) [Value.ref _, _]) _ _ _); k_dflt (refine' append_K (by k_asm) (by k_asm) (by k_upd) ?_ (by walk_at "my size"); k_whole); intro _ _ _)
  k_with "truthy ref" => (k_here; (with_reducible show wpAny _ _ (truthy (Value.ref _)) _ _ _); refine' truthy_L (by exact isL_of (by with_reducible assumption) (by walk_at "my mem")) (by walk_at "my size") ?_ ?_; intro _ _)
  k_with "call builtin:list.pop" => (k_here; (try dsimp only); k_dflt (refine' pop_L (by k_asm) (by k_asm) (by k_upd) (by walk_at "my size") ?_); intro _ _ _)
  k_with "subscriptTail Name UnaryOp ref int" => (k_here; (with_reducible show wpAny _ _ (subscriptTail _ _ (Value.ref _) (Value.int (-1) _)) _ _ _); refine' item_last (by exact isL_of (by with_reducible assumption) (by walk_at "my mem")) (by walk_at "my size") (by exact List.getLast?_concat) ?_ (by with_unfolding_all rfl))
  k_with "truthy ref" => (k_here; (with_reducible show wpAny _ _ (truthy (Value.ref _)) _ _ _); refine' truthy_L1 (by exact isL_of (by with_reducible assumption) (by walk_at "my mem")) (by walk_at "my size") ?_; intro _)
  k_with "call builtin:str.join" => (k_here; (with_reducible show wpAny _ _ (call (Value.builtin "str.join") [Value.str _ _, Value.ref _]) _ _ _); first
  | (refine' my_join (by exact isL_of (by with_reducible assumption) (by walk_at "my mem")) (by decide +kernel) (by omega) (by walk_at "my parts") ?_; intro _ _)
  | (refine' my_join2 (by exact isL_of (by with_reducible assumption) (by walk_at "my mem")) (by decide +kernel) (by omega) (by walk_at "my parts") (by walk_at "my len") ?_; intro _ _))
  k_with "my mem" => (with_reducible (first | exact List.mem_cons_self | (refine List.mem_cons_of_mem _ ?_; walk_at "my mem")))
  k_with "my parts" => (assumption)
  k_with "my len" => (first | (simp only []; omega) | omega)
  k_with "my in" => (first | with_reducible assumption | with_reducible exact List.mem_cons_self | with_reducible exact List.mem_append_left _ (by with_reducible assumption) | with_reducible exact List.mem_append_right _ (by with_reducible assumption) | ((with_reducible refine List.mem_cons_of_mem _ ?_); walk_at "my in"))
  k_with "my all" => (first | with_reducible exact List.forall_mem_nil _ | ((with_reducible refine List.forall_mem_cons.mpr ⟨by walk_at "my mem", ?_⟩); walk_at "my all") | (intro _ _; walk_at "my in"))
  k_with "my news" => (first | with_reducible assumption | (refine' news_sub (by with_reducible assumption) (by intro _ _; walk_at "my in")))
  k_with "my led" => ((try simp only [List.cons_append]); with_reducible assumption)
  k_with "my slice" => (k_here; (with_reducible show wpAny _ _ (subscriptTail _ (PySem.Expr.Slice _ _ none _) (Value.ref _) (Value.ref _)) _ _ _); k_dflt (refine' kmk_slice (by k_asm) (by k_asm) (by exact isL_of (by with_reducible assumption) (by walk_at "my mem")) (by kmk_part) (by kmk_part) ?_ (by with_unfolding_all rfl) (by kmk_pure) (by first | walk_at "my size" | (simp only [List.size_toArray, intVals, List.length_map]; rw [sizeLine_eq]; omega))); intro _ _ _ _ _)
  k_with "my fold" => (refine fold_ae ?_; intro _ _)
  k_with "storeName" => (k_here; k_dflt (refine' store_let (by k_asm) (by k_asm) ?_ (by rfl) (by rfl); k_whole; intro _ _ _ _ _ _; (try k_sweep)))
  k_with "exec If" => (k_here; (refine if_let ?_); intro _)
  k_with "execs cons" => (k_here; (refine cons_let ?_); intro _ _ _ _)
  k_with "execs cons" => (k_here; (with_reducible show wpAny _ _ (execs (_ :: []) _) _ _ _); (refine execs_1 ?_); intro _ _ _)
  k_with "execs cons" => (k_here; k_gentoks; (refine st_let2 ?_); intro _)
  k_with "my room" => (k_dflt (first | exact room1 (k := 1) rfl rfl (by with_reducible assumption) | exact room1 (k := 2) rfl rfl (by with_reducible assumption) | exact room1 (k := 3) rfl rfl (by with_reducible assumption) | exact room0 (k := 1) rfl rfl (by with_reducible assumption) | exact room0 (k := 2) rfl rfl (by with_reducible assumption) | exact room0 (k := 3) rfl rfl (by with_reducible assumption) | ktr_room | (show Around.depth (Around.deeper _ _) + _ < recursionLimit; first | ktr_room) | (show Around.depth (Around.deeper _ _) < recursionLimit; first | ktr_room)))
  k_with "my units" => (k_dflt (first | exact unit1 (k := 3) rfl rfl (by with_reducible assumption) | exact unit1 (k := 4) rfl rfl (by with_reducible assumption) | exact unit1 (k := 5) rfl rfl (by with_reducible assumption) | exact unit1 (k := 6) rfl rfl (by with_reducible assumption) | exact unit1 (k := 7) rfl rfl (by with_reducible assumption) | exact unit1 (k := 8) rfl rfl (by with_reducible assumption) | exact unit0 (k := 3) rfl rfl (by with_reducible assumption) | exact unit0 (k := 6) rfl rfl (by with_reducible assumption) | ktr_units | (show Around.units (Around.deeper _ _) + _ < cLine; first | ktr_units)))
  k_with "my steps" => (repeat' (first | ((fail_if_success (fail_if_success k_unfold)); (first | (show wpAny _ _ _ _ _ _) | (k_unfold; (try dsimp only)))) | (k_end; wrow_close) | walk1 | (dsimp only; walk1) | (leave1; (try dsimp only)) | fail "no step"))
  k_with "my off" => (first | with_reducible exact rfl | ((refine map_off ?_ ?_); (next => assumption); walk_at "my off") | exact rfl)
  k_with "exec While BoolOp cons nil" => (k_here; refine halt_at ?_)
  k_with "exec While Compare cons nil" => (k_here; refine halt_at ?_)
  k_with "exec While Constant cons nil" => (k_here; refine halt_at ?_)
  k_with "exec For Name Name cons nil" => (k_here; refine halt_at ?_)
  k_with "exec For Name Call cons nil" => (k_here; refine halt_at ?_)
  k_with "exec For Tuple Call cons nil" => (k_here; refine halt_at ?_)
  k_with "eval ListComp IfExp cons" => (k_here; refine halt_at ?_)
  k_with "call type:zip cons nil" => (k_here; refine halt_at ?_)
  k_with "my look" => (first | with_reducible assumption | exact rfl | (refine map_put rfl ?_; walk_at "my look"))
  k_with "eval Name" => (k_here; k_dflt (refine' nameX_L (by k_asm) (by with_reducible assumption) ?_ (by exact rfl) (by exact rfl)))
  k_with "eval Name" => (k_here; k_dflt (refine' nameX_L (by k_asm) (by (refine map_put rfl ?_; with_reducible assumption)) ?_ (by exact rfl) (by exact rfl)))
  k_with "eval ListComp" => (k_here; refine halt_at ?_)
  trivial
noncomputable def beyond (n : Int) (p : Str) : Int := Txt.count (Txt.slice (Txt.rstripChars p (Str.ofString "/")) (some n) none) (Str.ofString "/")
noncomputable def sharedOf (x y : Str) : Int := ((Txt.rstripChars (cpath x y) (Str.ofString "/")).length : Int)
noncomputable def stepsOf (x y : Str) : Int := beyond (sharedOf x y) x + beyond (sharedOf x y) y
theorem cpre_mem : ∀ (xs ys : List Str), ∀ z ∈ cpre xs ys, z ∈ xs
  | [], _, z, h => by simp [cpre] at h
  | a :: as, [], z, h => by simp [cpre] at h
  | a :: as, b :: bs, z, h => by
    simp only [cpre] at h
    split at h
    · rcases List.mem_cons.mp h with rfl | h
      · exact List.mem_cons_self
      · exact List.mem_cons_of_mem _ (cpre_mem as bs z h)
    · simp at h
theorem cpre_len : ∀ (xs ys : List Str), (cpre xs ys).length ≤ xs.length
  | [], _ => by simp [cpre]
  | a :: as, [] => by simp [cpre]
  | a :: as, b :: bs => by
    simp only [cpre]
    split
    · simp only [List.length_cons]; exact Nat.succ_le_succ (cpre_len as bs)
    · simp
theorem cpath_le {x y : Str} (hx : x.length ≤ 900) : (cpath x y).length ≤ 16000000 := by
  have h : (Txt.join (S "/") (cpre (parts x) (parts y))).length ≤ 4004000 := join_small (fun z hz => Nat.le_trans (part_short (List.mem_filter.mp (cpre_mem _ _ z hz)).1) (by (first | lia | omega)))
    (Nat.le_trans (cpre_len _ _) (Nat.le_trans (Nat.le_trans (List.length_filter_le _ _) (split_le x (S "/"))) (by (first | lia | omega)))) (by decide +kernel)
  unfold cpath
  have e : ∀ a b : Str, (a ++ b).length = a.length + b.length := fun a b => by
    show (a.cps ++ b.cps).size = _
    simp [Str.length]
  rw [e]
  have : (S "/").length = 1 := rfl
  (first | lia | omega)
theorem rows19 : True := by
  k_with "call builtin:str.rstrip" => (k_here; (refine rstrip_ends (by first | with_reducible assumption | omega) ?_); intro _ _)
  trivial

theorem d_steps (x y : Str) (t u : Tok) : Cl w p loose mean mg mb 5 879 [.str x t, .str y u] (x.length ≤ 900 ∧ y.length ≤ 900 ∧ Txt.startswith x (Str.ofString "/") = true ∧ Txt.startswith y (Str.ofString "/") = true ∧ ltLs (parts y) (parts x) = false ∧ gtLs (parts y) (parts x) = true) (RetI (stepsOf x y)) := by
  dsimp only [Cl]; intros; rename_i hpre _ _ hret; obtain ⟨hx9, hy9, hsx, hsy, hlx, hgx⟩ := hpre; refine wpAny_call ?_
  k_dflt (refine' code_defC ?k1 ?k2 ?k3 ?k4 ?k5 ?kA ?kF ?kK ?k6 ?k7 ?k8 ?k9 ?kB ?kD ?_ ?c2 ?c3 ?c4; (case kA => exact rfl); (case kF => exact rfl); (case kK => assumption); (case k1 => k_asm); (case k2 => k_asm); (case k3 => k_asm); (case k4 => k_asm); (case k5 => k_asm); (case k6 => k_is); (case k7 => k_is); (case k8 => walk_at "my room"); (case k9 => exact BindsTo.of_eq rfl); (case kB => exact rfl); (case kD => decide +kernel); (case c2 => exact rfl); (case c3 => exact rfl); (case c4 => exact rfl); k_whole; intro g' L' h' tk' cells' FG' F' N' Y' B' X' T' l1; (try k_lt l1); k_cells Y'; (try simp only [List.cons_append, List.nil_append] at N'); (try dsimp only); (try k_lift B'); (try k_fold); (try walk_at "my fold"))
  rename Fr _ _ _ _ => lF
  obtain ⟨m1, q1, q2, lF⟩ : ∃ m1 : Str → Option Value, m1 (S "first") = some (.str x t) ∧ m1 (S "second") = some (.str y u) ∧ Fr _ _ _ m1 := ⟨_, rfl, rfl, lF⟩
  walk_at "my steps"
  rename L' + 1 < _ ∧ AllLt _ _ => l3
  have e3 : @LT.lt Nat _ (L' + 1) _ := l3.1
  obtain ⟨q3, q4⟩ := cell_off l1
  refine' use_claimN (d_commonpath x y t u _ _) ?k1 ?k2 ?k3 ?k4 ?k5 ?kK ?kp ?kd ?ku ?_
  case k1 => k_asm
  case k2 => k_asm
  case k3 => k_asm
  case k4 => k_asm
  case k5 => k_asm
  case kK => exact rfl
  case kp => exact ⟨by walk_at "my mem", hx9, hy9, hsx, hsy, hlx, hgx⟩
  case kd => walk_at "my room"
  case ku => walk_at "my units"
  intro t9 h9 tk9 F9 N9
  have hcl := cpath_le (y := y) hx9
  have hrl := Nat.le_trans (rstrip_le (cpath x y) (Str.ofString "/")) hcl
  walk_at "my steps"
  refine Halt.go ?_
  have hrx := Nat.le_trans (rstrip_le x (Str.ofString "/")) (Nat.le_trans hx9 (show 900 ≤ 1000 by decide))
  have hry := Nat.le_trans (rstrip_le y (Str.ofString "/")) (Nat.le_trans hy9 (show 900 ≤ 1000 by decide))
  refine ListComp_T (_F := by k_asm) (by rfl) (by decide) (by rfl) (by decide) (by rfl) ?_
  walk_at "my steps"
  refine SrcTAt.intro (by rfl) (by k_asm) (by k_asm) (by walk_at "my mem") (by size_fits) ?_
  intro g9
  lcg_lit
  walk_at "my steps"
  refine comp_end0 (by k_asm) (by assumption) (by assumption) (Or.inr ⟨_, by walk_at "my mem", rfl, _, rfl⟩) ?_
  walk_at "my steps"
  refine comp_end0 (by k_asm) (by assumption) (by assumption) (Or.inr ⟨_, by walk_at "my mem", rfl, _, rfl⟩) ?_
  walk_at "my steps"
  rw [show stepsOf x y = beyond (sharedOf x y) x + (beyond (sharedOf x y) y + 0) by unfold stepsOf; rw [Int.add_zero]] at hret
  (refine' hret _ _ _ ?e2 ?e3; (case e2 => k_asm); (case e3 => walk_at "my news"))

end

noncomputable section
open PySem PySem.W PyProof.Rows PySem.Calls PySem.Spec Mine
variable {w : World} {p : Program} {loose : List Str} {mean : ExcName → Option Value} {mg mb : Str → Option Value}
set_option maxHeartbeats 4000000
set_option rowWalk.seconds 0
theorem rows20 : True := by
  k_with_none
  k_with "my fits" => (first | with_reducible assumption | (simp only [sizeLine_eq] at *; omega))
  k_with "call builtin:issubclass" => (k_here; (with_reducible show wpAny _ _ (call (Value.builtin "issubclass") [Value.type "str", Value.ref _]) _ _ _); (refine' call_issub (isTup_of (by k_asm) (by news_mem)) ?_))
  k_with "my size" => (first | with_reducible assumption | (simp only [strValues, List.size_toArray, List.length_map, List.length_append, List.length_cons, List.length_nil, sizeLine_eq]; omega))
  k_with "call builtin:list.append" => (k_here; (with_reducible show wpAny _ _ (call (Value.builtin _) [Value.ref _, _]) _ _ _); k_dflt (refine' append_K (by k_asm) (by k_asm) (by k_upd) ?_ (by walk_at "my size"); k_whole); intro _ _ _)
  k_with "truthy ref" => (k_here; (with_reducible show wpAny _ _ (truthy (Value.ref _)) _ _ _); refine' truthy_L (by exact isL_of (by with_reducible assumption) (by walk_at "my mem")) (by walk_at "my size") ?_ ?_; intro _ _)
  k_with "call builtin:list.pop" => (k_here; (try dsimp only); k_dflt (refine' pop_L (by k_asm) (by k_asm) (by k_upd) (by walk_at "my size") ?_); intro _ _ _)
  k_with "subscriptTail Name UnaryOp ref int" => (k_here; (with_reducible show wpAny _ _ (subscriptTail _ _ (Value.ref _) (Value.int (-1) _)) _ _ _); refine' item_last (by exact isL_of (by with_reducible assumption) (by walk_at "my mem")) (by walk_at "my size") (by exact List.getLast?_concat) ?_ (by with_unfolding_all rfl))
  k_with "truthy ref" => (k_here; (with_reducible show wpAny _ _ (truthy (Value.ref _)) _ _ _); refine' truthy_L1 (by exact isL_of (by with_reducible assumption) (by walk_at "my mem")) (by walk_at "my size") ?_; intro _)
  k_with "call builtin:str.join" => (k_here; (with_reducible show wpAny _ _ (call (Value.builtin "str.join") [Value.str _ _, Value.ref _]) _ _ _); first
  | (refine' my_join (by exact isL_of (by with_reducible assumption) (by walk_at "my mem")) (by decide +kernel) (by omega) (by walk_at "my parts") ?_; intro _ _)
  | (refine' my_join2 (by exact isL_of (by with_reducible assumption) (by walk_at "my mem")) (by decide +kernel) (by omega) (by walk_at "my parts") (by walk_at "my len") ?_; intro _ _))
  k_with "my mem" => (with_reducible (first | exact List.mem_cons_self | (refine List.mem_cons_of_mem _ ?_; walk_at "my mem")))
  k_with "my parts" => (assumption)
  k_with "my len" => (first | (simp only []; omega) | omega)
  k_with "my in" => (first | with_reducible assumption | with_reducible exact List.mem_cons_self | with_reducible exact List.mem_append_left _ (by with_reducible assumption) | with_reducible exact List.mem_append_right _ (by with_reducible assumption) | ((with_reducible refine List.mem_cons_of_mem _ ?_); walk_at "my in"))
  k_with "my all" => (first | with_reducible exact List.forall_mem_nil _ | ((with_reducible refine List.forall_mem_cons.mpr ⟨by walk_at "my mem", ?_⟩); walk_at "my all") | (intro _ _; walk_at "my in"))
  k_with "my news" => (first | with_reducible assumption | (refine' news_sub (by with_reducible assumption) (by intro _ _; walk_at "my in")))
  k_with "my led" => ((try simp only [List.cons_append]); with_reducible assumption)
  k_with "my slice" => (k_here; (with_reducible show wpAny _ _ (subscriptTail _ (PySem.Expr.Slice _ _ none _) (Value.ref _) (Value.ref _)) _ _ _); k_dflt (refine' kmk_slice (by k_asm) (by k_asm) (by exact isL_of (by with_reducible assumption) (by walk_at "my mem")) (by kmk_part) (by kmk_part) ?_ (by with_unfolding_all rfl) (by kmk_pure) (by first | walk_at "my size" | (simp only [List.size_toArray, intVals, List.length_map]; rw [sizeLine_eq]; omega))); intro _ _ _ _ _)
  k_with "my fold" => (refine fold_ae ?_; intro _ _)
  k_with "storeName" => (k_here; k_dflt (refine' store_let (by k_asm) (by k_asm) ?_ (by rfl) (by rfl); k_whole; intro _ _ _ _ _ _; (try k_sweep)))
  k_with "exec If" => (k_here; (refine if_let ?_); intro _)
  k_with "execs cons" => (k_here; (refine cons_let ?_); intro _ _ _ _)
  k_with "execs cons" => (k_here; (with_reducible show wpAny _ _ (execs (_ :: []) _) _ _ _); (refine execs_1 ?_); intro _ _ _)
  k_with "execs cons" => (k_here; k_gentoks; (refine st_let2 ?_); intro _)
  k_with "my room" => (k_dflt (first | exact room1 (k := 1) rfl rfl (by with_reducible assumption) | exact room1 (k := 2) rfl rfl (by with_reducible assumption) | exact room1 (k := 3) rfl rfl (by with_reducible assumption) | exact room0 (k := 1) rfl rfl (by with_reducible assumption) | exact room0 (k := 2) rfl rfl (by with_reducible assumption) | exact room0 (k := 3) rfl rfl (by with_reducible assumption) | ktr_room | (show Around.depth (Around.deeper _ _) + _ < recursionLimit; first | ktr_room) | (show Around.depth (Around.deeper _ _) < recursionLimit; first | ktr_room)))
  k_with "my units" => (k_dflt (first | exact unit1 (k := 3) rfl rfl (by with_reducible assumption) | exact unit1 (k := 4) rfl rfl (by with_reducible assumption) | exact unit1 (k := 5) rfl rfl (by with_reducible assumption) | exact unit1 (k := 6) rfl rfl (by with_reducible assumption) | exact unit1 (k := 7) rfl rfl (by with_reducible assumption) | exact unit1 (k := 8) rfl rfl (by with_reducible assumption) | exact unit0 (k := 3) rfl rfl (by with_reducible assumption) | exact unit0 (k := 6) rfl rfl (by with_reducible assumption) | ktr_units | (show Around.units (Around.deeper _ _) + _ < cLine; first | ktr_units)))
  k_with "my steps" => (repeat' (first | ((fail_if_success (fail_if_success k_unfold)); (first | (show wpAny _ _ _ _ _ _) | (k_unfold; (try dsimp only)))) | (k_end; wrow_close) | walk1 | (dsimp only; walk1) | (leave1; (try dsimp only)) | fail "no step"))
  k_with "my off" => (first | with_reducible exact rfl | ((refine map_off ?_ ?_); (next => assumption); walk_at "my off") | exact rfl)
  k_with "exec While BoolOp cons nil" => (k_here; refine halt_at ?_)
  k_with "exec While Compare cons nil" => (k_here; refine halt_at ?_)
  k_with "exec While Constant cons nil" => (k_here; refine halt_at ?_)
  k_with "exec For Name Name cons nil" => (k_here; refine halt_at ?_)
  k_with "exec For Name Call cons nil" => (k_here; refine halt_at ?_)
  k_with "exec For Tuple Call cons nil" => (k_here; refine halt_at ?_)
  k_with "eval ListComp IfExp cons" => (k_here; refine halt_at ?_)
  k_with "call type:zip cons nil" => (k_here; refine halt_at ?_)
  k_with "my look" => (first | with_reducible assumption | exact rfl | (refine map_put rfl ?_; walk_at "my look"))
  k_with "eval Name" => (k_here; k_dflt (refine' nameX_L (by k_asm) (by with_reducible assumption) ?_ (by exact rfl) (by exact rfl)))
  k_with "eval Name" => (k_here; k_dflt (refine' nameX_L (by k_asm) (by (refine map_put rfl ?_; with_reducible assumption)) ?_ (by exact rfl) (by exact rfl)))
  k_with "exec Assign cons DictComp" => (k_here; refine halt_at ?_)
  k_with "subscriptTail Name Name ref str" => (k_here; (refine item_D (by k_asm) (by with_reducible assumption) (by with_reducible assumption) (by with_reducible assumption) ?_); intro _)
  k_with "subscriptTail Subscript Name ref str" => (k_here; (refine item_D (by k_asm) (by with_reducible assumption) (by with_reducible assumption) (by with_reducible assumption) ?_); intro _)
  k_with "setItem ref str" => (k_here; refine halt_at ?_)
  k_with "compareOp Lt str str" => (k_here; first | (refine lt_yes (by with_reducible assumption) ?_) | (refine lt_no (by with_reducible assumption) ?_))
  k_with "call ref" => (k_here; (with_reducible show wpAny _ _ (call (Value.ref 879) [Value.str _ _, Value.str _ _]) _ _ _); refine' use_claim (d_steps _ _ _ _) (by k_asm) (by k_asm) (by k_asm) (by k_asm) (by k_asm) (by first | exact rfl | assumption) (by (assumption)) (by walk_at "my room") (by walk_at "my units") ?_; (dsimp only [RetI]; intro _ _ _ _ _); (try dsimp only); (try k_fold))
  trivial
noncomputable def dist (a b : Str) : Int := if a = b then 0 else if lt2 a b then stepsOf a b else stepsOf b a
noncomputable def stepsPre (x y : Str) : Prop := x.length ≤ 900 ∧ y.length ≤ 900 ∧ Txt.startswith x (Str.ofString "/") = true ∧ Txt.startswith y (Str.ofString "/") = true ∧ ltLs (parts y) (parts x) = false ∧ gtLs (parts y) (parts x) = true
structure TabRows (w : World) (ps : List Str) (kvs : List (Str × Value)) (nw : List (Addr × Obj)) (P : Str → Str → Prop) (n : Nat) : Prop where
  row : ∀ a ∈ ps, ∃ R o kv, valueAt kvs a = some (.ref R) ∧ (R, o) ∈ nw ∧ o.IsDictOf (PySem.strKind pw w) kv ∧ kv.length ≤ n ∧ ∀ b ∈ ps, P a b → ∃ t, valueAt kv b = some (.int (dist a b) t)
  inj : ∀ x y R, valueAt kvs x = some (.ref R) → valueAt kvs y = some (.ref R) → x = y
theorem TabRows.mono {w : World} {ps : List Str} {kvs : List (Str × Value)} {nw : List (Addr × Obj)} {P P' : Str → Str → Prop} {n n' : Nat} (h : TabRows w ps kvs nw P n) (hP : ∀ a ∈ ps, ∀ b ∈ ps, P' a b → P a b) (hn : n ≤ n') : TabRows w ps kvs nw P' n' :=
  ⟨fun a ha => by obtain ⟨R, o, kv, e1, e2, e3, e4, e5⟩ := h.row a ha; exact ⟨R, o, kv, e1, e2, e3, Nat.le_trans e4 hn, fun b hb hp => e5 b hb (hP a ha b hb hp)⟩, h.inj⟩
theorem TabRows.set {w : World} {ps : List Str} {kvs : List (Str × Value)} {nw : List (Addr × Obj)} {P : Str → Str → Prop} {n : Nat} (h : TabRows w ps kvs nw P n) {a b : Str} {R : Addr} {o o' : Obj} {kv : List (Str × Value)} {t : Tok}
    (e1 : valueAt kvs a = some (.ref R)) (e2 : (R, o) ∈ nw) (e4 : kv.length ≤ n) (e5 : ∀ b ∈ ps, P a b → ∃ t, valueAt kv b = some (.int (dist a b) t)) (ho : o'.IsDictOf (PySem.strKind pw w) (stored kv b (.int (dist a b) t))) :
    TabRows w ps kvs (upd R o' nw) (fun x y => P x y ∨ (x = a ∧ y = b)) (n + 1) := by
  refine ⟨fun x hx => ?_, h.inj⟩
  by_cases hxa : x = a
  · subst hxa
    refine ⟨R, o', _, e1, upd_in e2, ho, Nat.le_trans (stored_length_le _ _ _) (Nat.succ_le_succ e4), fun y hy hp => ?_⟩
    rw [valueAt_stored]
    by_cases hyb : y = b
    · subst hyb; exact ⟨t, if_pos rfl⟩
    · rw [if_neg hyb]
      rcases hp with hp | hp
      · exact e5 y hy hp
      · exact absurd hp.2 hyb
  · obtain ⟨R', o2, kv', d1, d2, d3, d4, d5⟩ := h.row x hx
    refine ⟨R', o2, kv', d1, upd_other d2 (fun e => hxa (h.inj x a R (e ▸ d1) e1)), d3, Nat.le_succ_of_le d4, fun y hy hp => ?_⟩
    rcases hp with hp | hp
    · exact d5 y hy hp
    · exact absurd hp.1 hxa
theorem TabRows.start {w : World} {xs : List Str} {kvs : List (Str × Value)} {nw : List (Addr × Obj)} (h : RowsAt pw w xs kvs nw) : TabRows w xs kvs nw (fun a b => a = b) 1 :=
  ⟨fun a ha => by
    obtain ⟨R, o, t, e1, e2, e3⟩ := h.row a ha
    refine ⟨R, o, _, e1, e2, e3, Nat.le_refl _, fun b hb e => ⟨t, ?_⟩⟩
    subst e
    rw [valueAt_cons, if_pos rfl, show dist a a = 0 from if_pos rfl], h.inj⟩
noncomputable def filled (us : List Str) (i j : Nat) (a b : Str) : Prop := a = b ∨ ∃ lo hi, lt2 lo hi ∧ ((a = lo ∧ b = hi) ∨ (a = hi ∧ b = lo)) ∧ (lo ∈ us.take i ∨ (us[i]? = some lo ∧ hi ∈ us.take j))
noncomputable abbrev RetT (ps : List Str) (w : World) (h₀ : Heap) (L : Addr) (m : Str → Option Value) (news : List (Addr × Obj)) (s : Shared) (Q : Value → Shared → Prop) : Prop :=
  ∀ F oF kvs nw h' tk', oF.IsDictOf (PySem.strKind pw w) kvs → TabRows w ps kvs nw (fun _ _ => True) 1000 → (∀ p ∈ news, @LT.lt Nat _ p.1 F) → (∀ q ∈ nw, @LT.lt Nat _ F q.1) → Fr h₀ L h' m → News h₀ L h' (nw ++ (F, oF) :: news) → Q (.ref F) { s with heap := h', toks := tk' }
noncomputable def tbI (w : World) (ps us : List Str) (kvs : List (Str × Value)) (F : Addr) (oF : Obj) (adr : List Addr) (news : List (Addr × Obj)) (i : Nat) (a : Str) (ta : Tok) (j : Nat) (m : Str → Option Value) (nx : List (Addr × Obj)) : Prop :=
  ∃ nw, nx = nw ++ (F, oF) :: news ∧ nw.map (·.1) = adr ∧ TabRows w ps kvs nw (filled us i j) (1 + 40 * i + 2 * j) ∧ m (S "far") = some (.ref F) ∧ m (S "first") = some (.str a ta)
noncomputable def tbO (w : World) (ps us : List Str) (kvs : List (Str × Value)) (F : Addr) (oF : Obj) (adr : List Addr) (news : List (Addr × Obj)) (i : Nat) (m : Str → Option Value) (nx : List (Addr × Obj)) : Prop :=
  ∃ nw, nx = nw ++ (F, oF) :: news ∧ nw.map (·.1) = adr ∧ TabRows w ps kvs nw (filled us i 0) (1 + 40 * i) ∧ m (S "far") = some (.ref F)
theorem lt2_irr {a : Str} (h : lt2 a a) : False := List.lt_irrefl _ h
theorem dist_sym {a b : Str} (h : lt2 a b) : dist b a = dist a b := by
  have hn : ¬ lt2 b a := fun h2 => lt2_irr (List.lt_trans h h2)
  have h1 : ¬ a = b := fun e => lt2_irr (e ▸ h)
  have h2 : ¬ b = a := fun e => h1 e.symm
  unfold dist
  rw [if_neg h2, if_neg hn, if_neg h1, if_pos h]
theorem dist_lt {a b : Str} (h : lt2 a b) : dist a b = stepsOf a b := by
  have h1 : ¬ a = b := fun e => lt2_irr (e ▸ h)
  unfold dist
  rw [if_neg h1, if_pos h]
theorem take_snoc {us : List Str} {j : Nat} {b x : Str} (hj : us[j]? = some b) (h : x ∈ us.take (j + 1)) : x ∈ us.take j ∨ x = b := by
  rw [List.take_add_one, hj] at h
  rcases List.mem_append.mp h with h | h
  · exact .inl h
  · exact .inr (List.mem_singleton.mp h)
theorem filled_no {us : List Str} {i j : Nat} {a b : Str} (hi : us[i]? = some a) (hj : us[j]? = some b) (hlt : ¬ lt2 a b) {x y : Str} (h : filled us i (j + 1) x y) : filled us i j x y := by
  rcases h with h | ⟨lo, hh, h1, h2, h3 | ⟨h3, h4⟩⟩
  · exact .inl h
  · exact .inr ⟨lo, hh, h1, h2, .inl h3⟩
  · rcases take_snoc hj h4 with h4 | h4
    · exact .inr ⟨lo, hh, h1, h2, .inr ⟨h3, h4⟩⟩
    · rw [hi] at h3
      injection h3 with h3
      rw [h3, ← h4] at hlt
      exact absurd h1 hlt
theorem filled_yes {us : List Str} {i j : Nat} {a b : Str} (hi : us[i]? = some a) (hj : us[j]? = some b) {x y : Str} (h : filled us i (j + 1) x y) : (filled us i j x y ∨ (x = a ∧ y = b)) ∨ (x = b ∧ y = a) := by
  rcases h with h | ⟨lo, hh, h1, h2, h3 | ⟨h3, h4⟩⟩
  · exact .inl (.inl (.inl h))
  · exact .inl (.inl (.inr ⟨lo, hh, h1, h2, .inl h3⟩))
  · rcases take_snoc hj h4 with h4 | h4
    · exact .inl (.inl (.inr ⟨lo, hh, h1, h2, .inr ⟨h3, h4⟩⟩))
    · rw [hi] at h3
      injection h3 with h3
      subst h3 h4
      rcases h2 with h2 | h2
      · exact .inl (.inr h2)
      · exact .inr h2
theorem filled_row {us : List Str} {i : Nat} {a : Str} (hi : us[i]? = some a) {x y : Str} (hx : x ∈ us) (hy : y ∈ us) (h : filled us (i + 1) 0 x y) : filled us i us.length x y := by
  rcases h with h | ⟨lo, hh, h1, h2, h3 | ⟨h3, h4⟩⟩
  · exact .inl h
  · rcases take_snoc hi h3 with h3 | h3
    · exact .inr ⟨lo, hh, h1, h2, .inl h3⟩
    · refine .inr ⟨lo, hh, h1, h2, .inr ⟨h3 ▸ hi, ?_⟩⟩
      rw [List.take_length]
      rcases h2 with ⟨_, e⟩ | ⟨e, _⟩
      · exact e ▸ hy
      · exact e ▸ hx
  · simp at h4
theorem filled_all {us : List Str} {x y : Str} (hx : x ∈ us) (hy : y ∈ us) : filled us us.length 0 x y := by
  by_cases e : x = y
  · exact .inl e
  · have hne : x.cps.toList ≠ y.cps.toList := fun h => e (Str.ext' (Array.toList_inj.mp h))
    by_cases h : lt2 x y
    · exact .inr ⟨x, y, h, .inl ⟨rfl, rfl⟩, .inl (by rw [List.take_length]; exact hx)⟩
    · have h2 : lt2 y x := by
        rcases Std.Trichotomous.rel_or_eq_or_rel_swap (r := fun a b : List Nat => a < b) (a := x.cps.toList) (b := y.cps.toList) with h1 | h1 | h1
        · exact absurd h1 h
        · exact absurd h1 hne
        · exact h1
      exact .inr ⟨y, x, h2, .inr ⟨rfl, rfl⟩, .inl (by rw [List.take_length]; exact hy)⟩
theorem d_table (D : Addr) (al : List (Str × Tok)) (k : Nat) : Cn w p loose mean mg mb 8 884 [.ref D] (fun news => (D, W.listOf (strValues al).toArray k) ∈ news ∧ al.length ≤ 20 ∧ ∀ a ∈ al.map (·.1), ∀ b ∈ al.map (·.1), lt2 a b → stepsPre a b) (RetT (al.map (·.1)) w) := by
  dsimp only [Cn]; intros; rename_i hpre _ _ hret; obtain ⟨hD, hal, hst⟩ := hpre; refine wpAny_call ?_; (k_dflt cell_enter; (try walk_at "my fold"))
  rename_i g0 L0 hh0 FG0 lF lN B0 X0 T0 _ _
  obtain ⟨m1, q1, lF⟩ : ∃ m1 : Str → Option Value, m1 (S "places") = some (.ref D) ∧ Fr _ _ _ m1 := ⟨_, rfl, lF⟩
  rename List (Addr × Obj) => nw0
  walk_at "my steps"
  refine Halt.go ?_
  refine Assign_rows (_F := by k_asm) (by rfl) (by with_unfolding_all rfl) (by rfl) hD (by (first | lia | omega)) (by rfl) (by decide) (by rfl) (by decide) (by rfl) (by intro _; rfl) (by decide) (by rfl) (by rfl) ?src ?hQ
  case src =>
    refine' nameX_L ?k1 ?k2 ?_ ?k4 ?k5
    case k4 => exact rfl
    case k5 => exact rfl
    case k1 => k_asm
    case k2 => exact q1
    exact ⟨rfl, _, _, rfl, by k_asm, by k_asm⟩
  case hQ =>
    intro F oF kvs nw h5 tk5 hoF hR lFL lF1 lF2 F5 N5
    have hus : kvs.map (·.1) = uniq (al.map (·.1)) := hR.keys
    have hkl : kvs.length ≤ 20 := by
      have h1 : kvs.length = (uniq (al.map (·.1))).length := by rw [← hR.keys, List.length_map]
      have h2 := uniq_len (al.map (·.1))
      rw [List.length_map] at h2
      (first | lia | omega)
    have hT := TabRows.start hR
    obtain ⟨m2, r1, F6⟩ : ∃ m2 : Str → Option Value, m2 (S "far") = some (.ref F) ∧ Fr _ _ _ m2 := ⟨_, rfl, F5⟩
    clear F5
    walk_at "my steps"
    refine Halt.go ?_
    have hsys : (F == sysModules) = false := by
      rw [beq_eq_false_iff_ne]
      exact Nat.ne_of_gt (Nat.lt_trans (Nat.lt_of_lt_of_le (sys_lt X0) F6.above) lFL)
    refine' For_G (G := fun g => g = _) (h₀ := g0) (m₀ := m2) (keep := nw ++ (F, oF) :: nw0) (chg := nw.map (·.1)) kvs.length (fun i v => ∃ k x, kvs[i]? = some (k, x) ∧ (PySem.strKind pw w).is k v = true) (tbO w (al.map (·.1)) (kvs.map (·.1)) kvs F oF (nw.map (·.1)) nw0) ?src ⟨nw, rfl, rfl, ?start, r1⟩ rfl ?hx ?hks ?turn ?done (by intro _; rfl) ?hE
    case hx => kernel_rfl
    case hks => kernel_rfl
    case hE => passes_own
    case start => exact hT.mono (fun a _ b _ h => by rcases h with h | ⟨_, _, _, _, h | ⟨_, h⟩⟩; exact h; simp at h; simp at h) (by (first | lia | omega))
    case src =>
      refine' nameX_L ?k1 ?k2 ?_ ?k4 ?k5
      case k4 => exact rfl
      case k5 => exact rfl
      case k1 => k_asm
      case k2 => exact r1
      exact src_dict rfl F6 N5 (List.mem_append_right _ List.mem_cons_self) hoF hsys (fun q hq => hq) (fun b hb => by obtain ⟨q, hq, rfl⟩ := List.mem_map.mp hb; exact Nat.ne_of_gt (lF2 q hq)) (fun b hb => by obtain ⟨q, hq, rfl⟩ := List.mem_map.mp hb; exact ⟨_, List.mem_append_left _ hq⟩)
    case done =>
      rintro m₉ nx h9 tk9 gens9 ⟨nw9, rfl, ha9, hT9, r9⟩ _ hg F9 N9
      subst hg
      have hnw : ∀ q ∈ nw9, @LT.lt Nat _ F q.1 := fun q hq => by
        have : q.1 ∈ nw.map (·.1) := ha9 ▸ List.mem_map.mpr ⟨q, hq, rfl⟩
        obtain ⟨r, hr, e⟩ := List.mem_map.mp this
        exact e ▸ lF2 r hr
      have hT10 := hT9.mono (P' := fun _ _ => True) (n' := 1000) (fun a ha b hb _ => by
        have hla : (kvs.map (·.1)).length = kvs.length := by rw [List.length_map]
        rw [← hla]
        exact filled_all (by rw [hus, mem_uniq]; exact ha) (by rw [hus, mem_uniq]; exact hb)) (by (first | lia | omega))
      walk_at "my steps"
      rename News _ _ _ _ => N10
      exact hret _ _ _ _ _ _ hoF hT10 lF1 hnw (by k_asm) N10
    case turn =>
      intro i v m₉ nx h9 tk9 gens9 own9 hi hJ0 ho9 hJ1 _ hg F9 N9
      refine q_let ?_
      intro q9 e9
      obtain ⟨a, ra, hia, hv⟩ := hJ0
      obtain ⟨nw9, rfl, ha9, hT9, r9⟩ := hJ1
      obtain ⟨ta, rfl⟩ := strKind_str hv
      rw [List.append_assoc, List.cons_append] at N9
      have hsi : (kvs.map (·.1))[i]? = some a := by rw [List.getElem?_map, hia]; rfl
      have hus2 : ∀ x ∈ al.map (·.1), x ∈ kvs.map (·.1) := fun x hx => by rw [hus, mem_uniq]; exact hx
      have hau : a ∈ al.map (·.1) := by
        have := List.mem_of_getElem? hsi
        rwa [hus, mem_uniq] at this
      obtain ⟨m3, s1, s2, F10⟩ : ∃ m3 : Str → Option Value, m3 (S "far") = some (.ref F) ∧ m3 (S "first") = some (.str a ta) ∧ Fr _ _ _ m3 := ⟨_, map_put rfl r9, rfl, F9⟩
      clear F9 F6 N5 hR hT
      walk_at "my steps"
      refine Halt.go ?_
      have offc : ∀ b ∈ nw.map (·.1), b ≠ F := fun b hb => by obtain ⟨q, hq, rfl⟩ := List.mem_map.mp hb; exact Nat.ne_of_gt (lF2 q hq)
      refine' For_G (G := fun g => g = _) (h₀ := g0) (m₀ := m3) (keep := nw9 ++ (F, oF) :: (nw0 ++ own9)) (chg := nw.map (·.1)) kvs.length (fun i v => ∃ k x, kvs[i]? = some (k, x) ∧ (PySem.strKind pw w).is k v = true) (tbI w (al.map (·.1)) (kvs.map (·.1)) kvs F oF (nw.map (·.1)) (nw0 ++ own9) i a ta) ?src ⟨nw9, rfl, ha9, hT9, s1, s2⟩ rfl ?hx ?hks ?turn ?done (by intro _; rfl) ?hE
      case hx => kernel_rfl
      case hks => kernel_rfl
      case hE => passes_own
      case src =>
        refine' nameX_L ?k1 ?k2 ?_ ?k4 ?k5
        case k4 => exact rfl
        case k5 => exact rfl
        case k1 => k_asm
        case k2 => exact s1
        refine src_dict rfl F10 N9 (List.mem_append_right _ List.mem_cons_self) hoF hsys (fun q hq => hq) offc fun b hb => ?_
        rw [← ha9] at hb
        obtain ⟨q, hq, rfl⟩ := List.mem_map.mp hb
        exact ⟨_, List.mem_append_left _ hq⟩
      case done =>
        rintro m₈ nx h8 tk8 gens8 ⟨nw8, rfl, ha8, hT8, r8, r88⟩ _ hg8 F8 N8
        have hN8 : News g0 L0 h8 ((nw8 ++ (F, oF) :: nw0) ++ own9) := by rw [List.append_assoc, List.cons_append]; exact N8
        refine EndG.intro (hg8.trans hg) F8 hN8 ⟨nw8, rfl, ha8, hT8.mono (fun x hx y hy h => ?_) (by (first | lia | omega)), r8⟩ ?_ (fun p hp => List.mem_append_left _ hp) (fun p hp => List.mem_append_right _ hp)
        · have hla : (kvs.map (·.1)).length = kvs.length := by rw [List.length_map]
          rw [← hla]
          exact filled_row hsi (hus2 x hx) (hus2 y hy) h
        · rw [List.map_append, List.map_append, ha8]
      case turn =>
        intro j v m₈ nx h8 tk8 gens8 own8 hj hJ0 ho8 hJ1 _ hg8 F8 N8
        refine q_let ?_
        intro q9 e9
        obtain ⟨b, rb, hjb, hv8⟩ := hJ0
        obtain ⟨nw8, rfl, ha8, hT8, r8, r88⟩ := hJ1
        obtain ⟨tb, rfl⟩ := strKind_str hv8
        have hsj : (kvs.map (·.1))[j]? = some b := by rw [List.getElem?_map, hjb]; rfl
        have hbu : b ∈ al.map (·.1) := by
          have := List.mem_of_getElem? hsj
          rwa [hus, mem_uniq] at this
        obtain ⟨m4, u1, u2, u3, F7⟩ : ∃ m4 : Str → Option Value, m4 (S "far") = some (.ref F) ∧ m4 (S "first") = some (.str a ta) ∧ m4 (S "second") = some (.str b tb) ∧ Fr _ _ _ m4 := ⟨_, map_put rfl r8, map_put rfl r88, rfl, F8⟩
        clear F8
        by_cases hlt : lt2 a b
        · have hsp := hst a hau b hbu hlt
          unfold stepsPre at hsp
          obtain ⟨rest, hrest⟩ : ∃ rest, rest = (F, oF) :: (nw0 ++ own9) ++ own8 := ⟨_, rfl⟩
          have hoff : ∀ R ∈ nw.map (·.1), ∀ p ∈ rest, p.1 ≠ R := fun R hR p hp => by
            subst hrest
            rcases List.mem_append.mp hp with hp | hp
            · rcases List.mem_cons.mp hp with rfl | hp
              · exact Ne.symm (offc R hR)
              · rcases List.mem_append.mp hp with hp | hp
                · obtain ⟨q, hq, rfl⟩ := List.mem_map.mp hR
                  exact Nat.ne_of_lt (Nat.lt_trans (lF1 p hp) (lF2 q hq))
                · exact ho9 p hp R hR
            · exact ho8 p hp R hR
          rw [List.append_assoc, ← hrest] at N8
          have hF1 : (F, oF) ∈ nw8 ++ rest := List.mem_append_right _ (hrest ▸ List.mem_append_left _ List.mem_cons_self)
          obtain ⟨Ra, oa, ka, a1, a2, a3, a4, a5⟩ := hT8.row a hau
          have hRa : Ra ∈ nw.map (·.1) := ha8 ▸ List.mem_map.mpr ⟨_, a2, rfl⟩
          have a2' : (Ra, oa) ∈ nw8 ++ rest := List.mem_append_left _ a2
          walk_at "my steps"
          refine Halt.go ?_
          rw [← dist_lt hlt]
          refine setItem_D (by k_asm) (by k_asm) a2' a3 (by (first | lia | omega)) ?_
          intro h6 oa' tk6 ho6 F6 N6
          rw [upd_append, upd_off (hoff Ra hRa)] at N6
          have hT6 := hT8.set a1 a2 a4 a5 ho6
          have ha6 : (upd Ra oa' nw8).map (·.1) = nw.map (·.1) := by rw [upd_keys]; exact ha8
          obtain ⟨nw6, hnw6⟩ : ∃ nw6, nw6 = upd Ra oa' nw8 := ⟨_, rfl⟩
          rw [← hnw6] at N6 hT6 ha6
          clear a1 a2 a3 a4 a5 a2' ho6 hF1 hnw6
          have hF2 : (F, oF) ∈ nw6 ++ rest := List.mem_append_right _ (hrest ▸ List.mem_append_left _ List.mem_cons_self)
          obtain ⟨Rc, oc, kc, c1, c2, c3, c4, c5⟩ := hT6.row a hau
          obtain ⟨tc, c6⟩ := c5 b hbu (.inr ⟨rfl, rfl⟩)
          obtain ⟨Rb, ob, kb, b1, b2, b3, b4, b5⟩ := hT6.row b hbu
          have c2' : (Rc, oc) ∈ nw6 ++ rest := List.mem_append_left _ c2
          have b2' : (Rb, ob) ∈ nw6 ++ rest := List.mem_append_left _ b2
          have hRb : Rb ∈ nw.map (·.1) := ha6 ▸ List.mem_map.mpr ⟨_, b2, rfl⟩
          walk_at "my steps"
          refine Halt.go ?_
          rw [← dist_sym hlt]
          refine setItem_D (by k_asm) (by k_asm) b2' b3 (by (first | lia | omega)) ?_
          intro h5 ob' tk5 ho5 F5 N5
          rw [upd_append, upd_off (hoff Rb hRb)] at N5
          have hT5 := hT6.set b1 b2 b4 b5 ho5
          have ha5 : (upd Rb ob' nw6).map (·.1) = nw.map (·.1) := by rw [upd_keys]; exact ha6
          walk_at "my steps"
          subst hrest
          refine EndG.intro (nx := upd Rb ob' nw6 ++ (F, oF) :: (nw0 ++ own9)) hg8 (by k_asm) (by k_asm) ⟨_, rfl, ha5, hT5.mono (fun x _ y _ h => filled_yes hsi hsj h) (by (first | lia | omega)), u1, u2⟩ (by rw [List.map_append, List.map_append, ha5, ha9]) (fun p hp => ?_) (fun p hp => ?_)
          · rw [← List.append_assoc]; exact List.mem_append_left _ hp
          · rw [← List.append_assoc]; exact List.mem_append_right _ hp
        · walk_at "my steps"
          refine EndG.intro (nx := nw8 ++ (F, oF) :: (nw0 ++ own9)) hg8 (by k_asm) (by k_asm) ⟨_, rfl, ha8, hT8.mono (fun x _ y _ h => filled_no hsi hsj hlt h) (by (first | lia | omega)), u1, u2⟩ (by rw [List.map_append, List.map_append, ha8, ha9]) (fun p hp => List.mem_append_left _ hp) (fun p hp => List.mem_append_right _ hp)

end

noncomputable section
open PySem PySem.W PyProof.Rows PySem.Calls PySem.Spec Mine
variable {w : World} {p : Program} {loose : List Str} {mean : ExcName → Option Value} {mg mb : Str → Option Value}
set_option maxHeartbeats 4000000
set_option rowWalk.seconds 0
theorem rows21 : True := by
  k_with_none
  k_with "my fits" => (first | with_reducible assumption | (simp only [sizeLine_eq] at *; omega))
  k_with "call builtin:issubclass" => (k_here; (with_reducible show wpAny _ _ (call (Value.builtin "issubclass") [Value.type "str", Value.ref _]) _ _ _); (refine' call_issub (isTup_of (by k_asm) (by news_mem)) ?_))
  k_with "my size" => (first | with_reducible assumption | (simp only [strValues, List.size_toArray, List.length_map, List.length_append, List.length_cons, List.length_nil, sizeLine_eq]; omega))
  k_with "call builtin:list.append" => (k_here; (with_reducible show wpAny _ _ (call (Value.builtin _) [Value.ref _, _]) _ _ _); k_dflt (refine' append_K (by k_asm) (by k_asm) (by k_upd) ?_ (by walk_at "my size"); k_whole); intro _ _ _)
  k_with "truthy ref" => (k_here; (with_reducible show wpAny _ _ (truthy (Value.ref _)) _ _ _); refine' truthy_L (by exact isL_of (by with_reducible assumption) (by walk_at "my mem")) (by walk_at "my size") ?_ ?_; intro _ _)
  k_with "call builtin:list.pop" => (k_here; (try dsimp only); k_dflt (refine' pop_L (by k_asm) (by k_asm) (by k_upd) (by walk_at "my size") ?_); intro _ _ _)
  k_with "subscriptTail Name UnaryOp ref int" => (k_here; (with_reducible show wpAny _ _ (subscriptTail _ _ (Value.ref _) (Value.int (-1) _)) _ _ _); refine' item_last (by exact isL_of (by with_reducible assumption) (by walk_at "my mem")) (by walk_at "my size") (by exact List.getLast?_concat) ?_ (by with_unfolding_all rfl))
  k_with "truthy ref" => (k_here; (with_reducible show wpAny _ _ (truthy (Value.ref _)) _ _ _); refine' truthy_L1 (by exact isL_of (by with_reducible assumption) (by walk_at "my mem")) (by walk_at "my size") ?_; intro _)
  k_with "call builtin:str.join" => (k_here; (with_reducible show wpAny _ _ (call (Value.builtin "str.join") [Value.str _ _, Value.ref _]) _ _ _); first
  | (refine' my_join (by exact isL_of (by with_reducible assumption) (by walk_at "my mem")) (by decide +kernel) (by omega) (by walk_at "my parts") ?_; intro _ _)
  | (refine' my_join2 (by exact isL_of (by with_reducible assumption) (by walk_at "my mem")) (by decide +kernel) (by omega) (by walk_at "my parts") (by walk_at "my len") ?_; intro _ _))
  k_with "my mem" => (with_reducible (first | exact List.mem_cons_self | (refine List.mem_cons_of_mem _ ?_; walk_at "my mem")))
  k_with "my parts" => (assumption)
  k_with "my len" => (first | (simp only []; omega) | omega)
  k_with "my in" => (first | with_reducible assumption | with_reducible exact List.mem_cons_self | with_reducible exact List.mem_append_left _ (by with_reducible assumption) | with_reducible exact List.mem_append_right _ (by with_reducible assumption) | ((with_reducible refine List.mem_cons_of_mem _ ?_); walk_at "my in"))
  k_with "my all" => (first | with_reducible exact List.forall_mem_nil _ | ((with_reducible refine List.forall_mem_cons.mpr ⟨by walk_at "my mem", ?_⟩); walk_at "my all") | (intro _ _; walk_at "my in"))
  k_with "my news" => (first | with_reducible assumption | (refine' news_sub (by with_reducible assumption) (by intro _ _; walk_at "my in")))
  k_with "my led" => ((try simp only [List.cons_append]); with_reducible assumption)
  k_with "my slice" => (k_here; (with_reducible show wpAny _ _ (subscriptTail _ (PySem.Expr.Slice _ _ none _) (Value.ref _) (Value.ref _)) _ _ _); k_dflt (refine' kmk_slice (by k_asm) (by k_asm) (by exact isL_of (by with_reducible assumption) (by walk_at "my mem")) (by kmk_part) (by kmk_part) ?_ (by with_unfolding_all rfl) (by kmk_pure) (by first | walk_at "my size" | (simp only [List.size_toArray, intVals, List.length_map]; rw [sizeLine_eq]; omega))); intro _ _ _ _ _)
  k_with "my fold" => (refine fold_ae ?_; intro _ _)
  k_with "storeName" => (k_here; k_dflt (refine' store_let (by k_asm) (by k_asm) ?_ (by rfl) (by rfl); k_whole; intro _ _ _ _ _ _; (try k_sweep)))
  k_with "exec If" => (k_here; (refine if_let ?_); intro _)
  k_with "execs cons" => (k_here; (refine cons_let ?_); intro _ _ _ _)
  k_with "execs cons" => (k_here; (with_reducible show wpAny _ _ (execs (_ :: []) _) _ _ _); (refine execs_1 ?_); intro _ _ _)
  k_with "execs cons" => (k_here; k_gentoks; (refine st_let2 ?_); intro _)
  k_with "my room" => (k_dflt (first | exact room1 (k := 1) rfl rfl (by with_reducible assumption) | exact room1 (k := 2) rfl rfl (by with_reducible assumption) | exact room1 (k := 3) rfl rfl (by with_reducible assumption) | exact room0 (k := 1) rfl rfl (by with_reducible assumption) | exact room0 (k := 2) rfl rfl (by with_reducible assumption) | exact room0 (k := 3) rfl rfl (by with_reducible assumption) | ktr_room | (show Around.depth (Around.deeper _ _) + _ < recursionLimit; first | ktr_room) | (show Around.depth (Around.deeper _ _) < recursionLimit; first | ktr_room)))
  k_with "my units" => (k_dflt (first | exact unit1 (k := 3) rfl rfl (by with_reducible assumption) | exact unit1 (k := 4) rfl rfl (by with_reducible assumption) | exact unit1 (k := 5) rfl rfl (by with_reducible assumption) | exact unit1 (k := 6) rfl rfl (by with_reducible assumption) | exact unit1 (k := 7) rfl rfl (by with_reducible assumption) | exact unit1 (k := 8) rfl rfl (by with_reducible assumption) | exact unit0 (k := 3) rfl rfl (by with_reducible assumption) | exact unit0 (k := 6) rfl rfl (by with_reducible assumption) | ktr_units | (show Around.units (Around.deeper _ _) + _ < cLine; first | ktr_units)))
  k_with "my steps" => (repeat' (first | ((fail_if_success (fail_if_success k_unfold)); (first | (show wpAny _ _ _ _ _ _) | (k_unfold; (try dsimp only)))) | (k_end; wrow_close) | walk1 | (dsimp only; walk1) | (leave1; (try dsimp only)) | fail "no step"))
  k_with "my off" => (first | with_reducible exact rfl | ((refine map_off ?_ ?_); (next => assumption); walk_at "my off") | exact rfl)
  k_with "exec While BoolOp cons nil" => (k_here; refine halt_at ?_)
  k_with "exec While Compare cons nil" => (k_here; refine halt_at ?_)
  k_with "exec While Constant cons nil" => (k_here; refine halt_at ?_)
  k_with "exec For Name Name cons nil" => (k_here; refine halt_at ?_)
  k_with "exec For Name Call cons nil" => (k_here; refine halt_at ?_)
  k_with "exec For Tuple Call cons nil" => (k_here; refine halt_at ?_)
  k_with "eval ListComp IfExp cons" => (k_here; refine halt_at ?_)
  k_with "call type:zip cons nil" => (k_here; refine halt_at ?_)
  k_with "my look" => (first | with_reducible assumption | exact rfl | (refine map_put rfl ?_; walk_at "my look"))
  k_with "eval Name" => (k_here; k_dflt (refine' nameX_L (by k_asm) (by with_reducible assumption) ?_ (by exact rfl) (by exact rfl)))
  k_with "eval Name" => (k_here; k_dflt (refine' nameX_L (by k_asm) (by (refine map_put rfl ?_; with_reducible assumption)) ?_ (by exact rfl) (by exact rfl)))
  k_with "subscriptTail Name BinOp ref int" => (k_here; (refine item_menu (isL_of (by k_asm) (by walk_at "my mem")) ?_); intro _)
  k_with "exec Expr" => (k_here; refine halt_at ?_)
  k_with "call builtin:str.replace" => (k_here; (refine SC.replaceW (by (first | lia | omega)) (by (first | lia | omega)) (by (first | lia | omega)) (by decide) (by (first | lia | omega)) (by decide) ?_); intro _ _)
  k_with "call builtin:list.append" => (k_here; k_dflt (refine' append_strs (by k_asm) (by k_asm) (by k_upd) (by first | assumption | (first | lia | omega)) ?_); intro _ _ _)
  k_with "binaryOp Add ref ref" => (k_here; k_dflt (refine' add_strs (by k_asm) (by k_asm) (by exact isL_of (by with_reducible assumption) (by walk_at "my mem")) (by exact isL_of (by with_reducible assumption) (by walk_at "my mem")) (by first | assumption | (first | lia | omega)) ?_); intro _ _ _ _ l1; (try k_lt l1); (try (revert l1; intro _)))
  k_with "subscriptTail Name Slice ref ref" => (k_here; refine halt_at ?_)
  k_with "call builtin:len" => (k_here; (refine len_strs (isL_of (by k_asm) (by walk_at "my mem")) (by (first | lia | omega)) ?_))
  k_with "callWith builtin:list.append" => (k_here; k_dflt (refine callWith_method1 ?_))
  k_with "subscriptTail List cons BinOp ref int" => (k_here; (refine item_menu (isL_of (by k_asm) (by walk_at "my mem")) ?_); intro _)
  trivial
set_option genInjectivity false in
set_option genSizeOf false in
structure PSt where
  pcs : List Str
  pls : List Str
  nms : List Str
noncomputable def pcShut (st : PSt) : PSt := ⟨st.pcs ++ [Str.ofString ")"], st.pls ++ [Str.ofString "/" ++ Txt.join (Str.ofString "/") st.nms.dropLast], st.nms.dropLast⟩
noncomputable def pcOpen (st : PSt) (nm : Str) : PSt := ⟨st.pcs ++ [(Str.ofString "\"" ++ Txt.replace nm (Str.ofString "\"") (Str.ofString "\\\"")) ++ Str.ofString "\"("], st.pls ++ [Str.ofString "/" ++ Txt.join (Str.ofString "/") (st.nms ++ [nm])], st.nms ++ [nm]⟩
noncomputable def shuts : Nat → PSt → PSt
  | 0, st => st
  | n + 1, st => shuts n (pcShut st)
noncomputable def nameOf (i : Nat) (c : Int) : Str := Str.ofString "x" ++ Txt.item (Str.ofString "abcd") (i : Int) ++ Str.ofString (toString (c.fdiv 24)) ++ menu4 (Str.ofString "") (Str.ofString "(") (Str.ofString ")") (Str.ofString "\"") (c.fmod 4)
noncomputable def howMany (i : Nat) (c : Int) (n : Nat) : Nat := if i = 3 then n else ((c.fdiv 4).fmod ((n : Int) + 1)).toNat
noncomputable def pcTurn (i : Nat) (c : Int) (st : PSt) : PSt := shuts (howMany i c (st.nms.length + 1)) (pcOpen st (nameOf i c))
noncomputable def pcAt (cs : List Int) : Nat → PSt
  | 0 => ⟨[], [Str.ofString "/"], []⟩
  | i + 1 => match cs[i]? with
    | some c => pcTurn i c (pcAt cs i)
    | none => pcAt cs i
noncomputable def pcJ (A1 A2 : Addr) (Wx : List Addr) (nw0 : List (Addr × Obj)) (st : PSt) (n k : Nat) (m : Str → Option Value) (nx : List (Addr × Obj)) : Prop :=
  ∃ (A3 : Addr) (p1 p2 p3 : List (Str × Tok)) (e1 e2 e3 : Nat), (p1.map (·.1) = st.pcs ∧ p2.map (·.1) = st.pls ∧ p3.map (·.1) = st.nms) ∧ (p1.length ≤ n ∧ p2.length ≤ n + 1 ∧ p3.length ≤ k ∧ (∀ y ∈ p1.map (·.1), y.length ≤ 60) ∧ ∀ y ∈ p3.map (·.1), y.length ≤ 20) ∧ @LT.lt Nat _ A2 A3 ∧ A3 ∉ Wx ∧
    nx = (A3, W.listOf (strValues p3).toArray e3) :: (A2, W.listOf (strValues p2).toArray e2) :: (A1, W.listOf (strValues p1).toArray e1) :: nw0 ∧
    m (S "pieces") = some (.ref A1) ∧ m (S "places") = some (.ref A2) ∧ m (S "names") = some (.ref A3)
noncomputable def lineOf (cs : List Int) : Str := Txt.join (Str.ofString "") (pcAt cs 4).pcs
noncomputable abbrev RetPc (cs : List Int) (h₀ : Heap) (L : Addr) (m : Str → Option Value) (news : List (Addr × Obj)) (s : Shared) (Q : Value → Shared → Prop) : Prop :=
  ∀ TP A2 al k t h' tk', al.map (fun z : Str × Tok => z.1) = (pcAt cs 4).pls → al.length ≤ 21 → (∀ p ∈ news, @LT.lt Nat _ p.1 A2) → @LT.lt Nat _ A2 TP → Fr h₀ L h' m →
    News h₀ L h' ((TP, { cls := .type "tuple", data := .seq #[.str (lineOf cs) t, .ref A2] }) :: (A2, W.listOf (strValues al).toArray k) :: news) → Q (.ref TP) { s with heap := h', toks := tk' }
theorem shuts_succ : ∀ (n : Nat) (st : PSt), shuts (n + 1) st = pcShut (shuts n st)
  | 0, _ => rfl
  | n + 1, st => by rw [shuts, shuts_succ n, shuts]
theorem news_13 {h₀ h : Heap} {L : Addr} {a b c d : Addr × Obj} {r : List (Addr × Obj)} (N : News h₀ L h (a :: b :: c :: d :: r)) : News h₀ L h (a :: c :: r) := news_sub N fun q hq => by
  simp only [List.mem_cons] at hq ⊢
  rcases hq with h | h | h
  · exact .inl h
  · exact .inr (.inr (.inl h))
  · exact .inr (.inr (.inr (.inr h)))
theorem pcJ.out {A1 A2 : Addr} {Wx : List Addr} {nw0 : List (Addr × Obj)} {st : PSt} {n k : Nat} {m : Str → Option Value} {nx : List (Addr × Obj)} {C : Prop} (h : pcJ A1 A2 Wx nw0 st n k m nx)
    (c : ∀ (A3 : Addr) (p1 p2 p3 : List (Str × Tok)) (e1 e2 e3 : Nat), nx = (A3, W.listOf (strValues p3).toArray e3) :: (A2, W.listOf (strValues p2).toArray e2) :: (A1, W.listOf (strValues p1).toArray e1) :: nw0 → p1.map (·.1) = st.pcs → p2.map (·.1) = st.pls → p3.map (·.1) = st.nms → p1.length ≤ n → p2.length ≤ n + 1 → p3.length ≤ k → (∀ y ∈ p1.map (·.1), y.length ≤ 60) → (∀ y ∈ p3.map (·.1), y.length ≤ 20) → @LT.lt Nat _ A2 A3 → A3 ∉ Wx → m (S "pieces") = some (.ref A1) → m (S "places") = some (.ref A2) → m (S "names") = some (.ref A3) → C) : C := by
  obtain ⟨A3, p1, p2, p3, e1, e2, e3, ⟨h1, h2, h3⟩, ⟨h4, h5, h6, h7, h8⟩, h9, h10, h11, h12, h13, h14⟩ := h
  exact c A3 p1 p2 p3 e1 e2 e3 h11 h1 h2 h3 h4 h5 h6 h7 h8 h9 h10 h12 h13 h14
theorem many_low {i n : Nat} {c : Int} (h : n ≤ i + 1) : howMany i c n ≤ i + 1 := by
  unfold howMany
  split
  · exact h
  · refine Nat.le_trans (Int.toNat_le.mpr (Int.le_of_lt_add_one (Int.fmod_lt_of_pos _ (Int.lt_add_one_of_le (Int.natCast_nonneg n))))) h
theorem bnd_1 {a i j : Nat} (h : a ≤ 5 * i + 1 + j) (hj : j < i + 1) (hi : i < 4) : a ≤ 1000 := by (first | lia | omega)
theorem bnd_2 {i j : Nat} (hj : j < i + 1) (hi : i < 4) : 5 * i + 1 + j + 1 ≤ 1000 := by (first | lia | omega)
theorem bnd_3 {a i h : Nat} (h1 : a ≤ 5 * i + 1 + h + 1) (h2 : h ≤ i + 1) (hi : i < 4) : a ≤ 5 * (i + 1) + 1 := by (first | lia | omega)
theorem bnd_4 {a i h : Nat} (h1 : a ≤ 5 * i + 1 + h) (h2 : h ≤ i + 1) (hi : i < 4) : a ≤ 5 * (i + 1) := by (first | lia | omega)
theorem bnd_5 {a i c : Nat} (h : a ≤ i + 1) (hi : i < 4) (hc : Nat.ble 4 c = true) : a ≤ c := Nat.le_trans h (Nat.le_trans (Nat.succ_le_of_lt hi) (Nat.le_of_ble_eq_true hc))
theorem d_pieces (D : Addr) (cl : List (Int × Tok)) (k : Nat) : Cn w p loose mean mg mb 3 867 [.ref D] (fun news => (D, W.listOf (intVals cl).toArray k) ∈ news ∧ cl.length = 4 ∧ (∀ c ∈ cl.map (·.1), 0 ≤ c ∧ c < 1000000) ∧ (∀ i c, (cl.map (·.1))[i]? = some c → (nameOf i c).length ≤ 20 ∧ (Txt.replace (nameOf i c) (Str.ofString "\"") (Str.ofString "\\\"")).length ≤ 40))  (RetPc (cl.map (·.1))) := by
  dsimp only [Cn]; intros; rename_i hpre _ _ hret; obtain ⟨hD, hcl, hcs, hnl⟩ := hpre; refine wpAny_call ?_; (k_dflt cell_enter; (try walk_at "my fold"))
  rename_i g0 L0 hh0 FG0 lF lN B0 X0 T0 _ _
  obtain ⟨m1, q1, lF⟩ : ∃ m1 : Str → Option Value, m1 (S "cells") = some (.ref D) ∧ Fr _ _ _ m1 := ⟨_, rfl, lF⟩
  rename List (Addr × Obj) => nw0
  walk_at "my steps"
  refine Halt.go ?_
  rename_i sq n7 q7 e7 k7 A1 ha l1 A2 hb l2 A3 hc l3 Dt hd l4 hx m61 h61 k61 s61 m62 h62 k62 s62 m63 h63 k63 s63 F5 N5 n8 q8 e8 k8
  replace N5 := news_tl N5
  obtain ⟨m2, F6, r0, r1, r2, r3⟩ : ∃ m2 : Str → Option Value, Fr _ _ _ m2 ∧ m2 (S "cells") = some (.ref D) ∧ m2 (S "pieces") = some (.ref A1) ∧ m2 (S "places") = some (.ref A2) ∧ m2 (S "names") = some (.ref A3) := ⟨_, F5, q1, rfl, rfl, rfl⟩
  clear l4 F5
  obtain ⟨l2, l2b⟩ := l2
  obtain ⟨l3, _, l3b⟩ := l3
  have hDA : ∀ b ∈ [A1, A2], b ≠ D := fun b hb => by
    have h1 : @LT.lt Nat _ D A1 := l1 _ hD
    have h2 : @LT.lt Nat _ A1 A2 := l2
    simp only [List.mem_cons, List.not_mem_nil, or_false] at hb
    rcases hb with rfl | rfl
    · exact Nat.ne_of_gt h1
    · exact Nat.ne_of_gt (Nat.lt_trans h1 h2)
  refine' For_P (G := fun g => g = _) (h₀ := g0) (m₀ := m2) (keep := (A3, W.listOf (strValues []).toArray 0) :: (A2, W.listOf (strValues [(Str.ofString "/", sq.toks)]).toArray 0) :: (A1, W.listOf (strValues []).toArray 0) :: nw0) (chg := [A1, A2]) (intVals cl).toArray.size (fun i v0 v1 => ∃ t, v0 = .int i t ∧ (intVals cl).toArray[i]? = some v1) (fun i => pcJ A1 A2 [] nw0 (pcAt (cl.map (·.1)) i) (5 * i) i) rfl ?src ⟨A3, [], [(_, sq.toks)], [], 0, 0, 0, ⟨rfl, rfl, rfl⟩, ⟨Nat.zero_le _, Nat.le_refl _, Nat.le_refl _, fun y hy => by simp at hy, fun y hy => by simp at hy⟩, l3, by simp, rfl, r1, r2, r3⟩ rfl ?hxi ?hxc ?hp ?turn ?done (by intro _; rfl) ?hE
  case hxi => kernel_rfl
  case hxc => kernel_rfl
  case hp => rfl
  case hE => passes_own
  case src =>
    walk_at "my steps"
    exact src_enum rfl F6 N5 ⟨_, (N5 _ (List.mem_cons_of_mem _ (List.mem_cons_of_mem _ (List.mem_cons_of_mem _ hD)))).1, rfl, _, rfl⟩ (N5 _ (List.mem_cons_of_mem _ (List.mem_cons_of_mem _ (List.mem_cons_of_mem _ hD)))).2.1 (fun q hq => hq) hDA (fun b hb => by
      simp only [List.mem_cons, List.not_mem_nil, or_false] at hb
      rcases hb with rfl | rfl
      · exact ⟨_, List.mem_cons_of_mem _ (List.mem_cons_of_mem _ List.mem_cons_self)⟩
      · exact ⟨_, List.mem_cons_of_mem _ List.mem_cons_self⟩)
  case done =>
    intro m₉ nx h9 tk9 gens9 hJ hg F9 N9
    refine pcJ.out hJ ?_
    intro B3 p1 p2 p3 e1 e2 e3 hnx hp1 hp2 hp3 hz1 hz2 hz3 hy1 hy3 hlt _ s1 s2 s3
    subst hnx
    subst hg
    have hs4 : (intVals cl).toArray.size = 4 := by simp [intVals, hcl]
    rw [hs4] at hp1 hp2 hz1 hz2
    have hpar : ∀ y ∈ p1.map (·.1), y.length ≤ 4000 := fun y hy => Nat.le_trans (hy1 y hy) (by decide)
    have hjl : (Txt.join (Str.ofString "") (List.map (fun x => x.fst) p1)).length ≤ 4004000 := join_small hpar (by rw [List.length_map]; (first | lia | omega)) (by decide +kernel)
    walk_at "my steps"
    rename News _ _ _ _ => N10
    rename _ ∧ _ ∧ _ ∧ AllLt _ nw0 => l5
    obtain ⟨_, l6, _, _⟩ := l5
    rw [show Txt.join (Str.ofString "") (List.map (fun x => x.fst) p1) = lineOf (cl.map (·.1)) by rw [hp1]; rfl] at N10
    exact hret _ _ _ _ _ _ _ hp2 (by (first | lia | omega)) (allLt_mem l2b) l6 (by k_asm) (news_13 N10)
  case turn =>
    rintro i v0 v1 m₉ nx h9 tk9 gens9 W9 own9 hi hv hW ho9 hoff hJ hg F9 N9
    refine cps ?_
    intro R9 hR9
    obtain ⟨t0, rfl, hv1⟩ := hv
    refine pcJ.out hJ ?_
    intro B3 p1 p2 p3 e1 e2 e3 hnx hp1 hp2 hp3 hz1 hz2 hz3 hy1 hy3 hlt _ s1 s2 s3
    subst hnx
    obtain ⟨c, tc, hci, rfl⟩ : ∃ c tc, (cl.map (·.1))[i]? = some c ∧ v1 = .int c tc := by
      have h' : (intVals cl)[i]? = some v1 := by simpa using hv1
      simp only [intVals, List.getElem?_map, Option.map_eq_some_iff] at h'
      obtain ⟨z, hz, rfl⟩ := h'
      exact ⟨_, _, by rw [List.getElem?_map, hz]; rfl, rfl⟩
    have hi4 : i < 4 := by
      have := (List.getElem?_eq_some_iff.mp hci).1
      rw [List.length_map, hcl] at this; exact this
    obtain ⟨hc0, hc1⟩ := hcs c (List.mem_of_getElem? hci)
    simp only [List.cons_append] at N9
    obtain ⟨m3, F10, u0, u1, u2, u3, u4⟩ : ∃ m3 : Str → Option Value, Fr _ _ _ m3 ∧ m3 (S "cell") = some (.int c tc) ∧ m3 (S "spot") = some (.int i t0) ∧ m3 (S "pieces") = some (.ref A1) ∧ m3 (S "places") = some (.ref A2) ∧ m3 (S "names") = some (.ref B3) := ⟨_, F9, rfl, rfl, s1, s2, s3⟩
    clear F9
    have hml := menu4_len (n := 1) (a := Str.ofString "") (b := Str.ofString "(") (c := Str.ofString ")") (d := Str.ofString "\"") (by decide) (by decide) (by decide) (by decide) (c.fmod 4)
    have hA1 : ∀ p ∈ nw0 ++ own9, p.1 ≠ A1 := fun p hp => by
      rcases List.mem_append.mp hp with hp | hp
      · exact Nat.ne_of_lt (l1 p hp)
      · exact ho9 p hp A1 List.mem_cons_self
    have hA2 : ∀ p ∈ nw0 ++ own9, p.1 ≠ A2 := fun p hp => by
      rcases List.mem_append.mp hp with hp | hp
      · exact Nat.ne_of_lt (Nat.lt_trans (l1 p hp) l2)
      · exact ho9 p hp A2 (List.mem_cons_of_mem _ List.mem_cons_self)
    have l2' : @LT.lt Nat _ A1 A2 := l2
    walk_at "my steps"
    refine Halt.go ?_
    obtain ⟨nm, hnm⟩ : ∃ nm, nm = nameOf i c := ⟨_, rfl⟩
    rename Fr _ _ _ _ => F11
    rename News _ _ _ _ => N11
    obtain ⟨m4, tn, F12, v0, v1, v2, v3, v4, v5⟩ : ∃ (m4 : Str → Option Value) (tn : Tok), Fr _ _ _ m4 ∧ m4 (S "name") = some (.str nm tn) ∧ m4 (S "cell") = some (.int c tc) ∧ m4 (S "spot") = some (.int i t0) ∧ m4 (S "pieces") = some (.ref A1) ∧ m4 (S "places") = some (.ref A2) ∧ m4 (S "names") = some (.ref B3) := ⟨_, _, F11, by rw [hnm]; rfl, map_put rfl u0, map_put rfl u1, map_put rfl u2, map_put rfl u3, map_put rfl u4⟩
    replace N11 := news_tl N11
    obtain ⟨hnl9, hnl8⟩ := hnl i c hci
    rw [← hnm] at hnl9 hnl8
    clear F11 u0 u1 u2 u3 u4 hml
    refine wpAny_Expr ?_
    walk_at "my steps"
    refine Halt.go ?_
    rename_i B4 hb4 l13 m64 hc4 k64 s64 F13 N13 n9 q9 e9 k9
    obtain ⟨l6, l7, l8, l9, l10⟩ := l13
    have l8' : @LT.lt Nat _ A2 B4 := l8
    have l9' : @LT.lt Nat _ A1 B4 := l9
    have hB4 : B4 ∉ W9 := new_off hW (all := nw0 ++ own9) (fun q hq => List.mem_append_right _ hq) (allLt_mem l10)
    obtain ⟨m5, F14, w1, w2, w3, w4, w5⟩ : ∃ m5 : Str → Option Value, Fr _ _ _ m5 ∧ m5 (S "cell") = some (.int c tc) ∧ m5 (S "spot") = some (.int i t0) ∧ m5 (S "pieces") = some (.ref A1) ∧ m5 (S "places") = some (.ref A2) ∧ m5 (S "names") = some (.ref B4) := ⟨_, F13, map_put rfl v1, map_put rfl v2, map_put rfl v3, map_put rfl v4, rfl⟩
    obtain ⟨q1, q2, hq1, hq2, N14⟩ : ∃ (q1 q2 : List (Str × Tok)), q1 = p1 ++ [((Str.ofString "\"" ++ Txt.replace nm (Str.ofString "\"") (Str.ofString "\\\"")) ++ Str.ofString "\"(", _)] ∧ q2 = p3 ++ [(nm, tn)] ∧ News g0 L0 hc4 ((B4, W.listOf (strValues q2).toArray 0) :: (A2, W.listOf (strValues p2).toArray e2) :: (A1, W.listOf (strValues q1).toArray (e1 + 1)) :: (nw0 ++ own9)) :=
      ⟨_, _, rfl, rfl, news_sub N13 (fun q hq => by
        simp only [List.mem_cons] at hq ⊢
        rcases hq with h | h | h | h
        · exact .inl h
        · exact .inr (.inr (.inr (.inl h)))
        · exact .inr (.inr (.inr (.inr (.inl h))))
        · exact .inr (.inr (.inr (.inr (.inr h)))))⟩
    have hq3 : ∀ y ∈ q1.map (·.1), y.length ≤ 60 := by
      subst hq1
      intro y hy
      rw [List.map_append] at hy
      rcases List.mem_append.mp hy with hy | hy
      · exact hy1 y hy
      · rw [List.mem_singleton.mp hy]
        show ((Str.ofString "\"" ++ Txt.replace nm (Str.ofString "\"") (Str.ofString "\\\"")) ++ Str.ofString "\"(").length ≤ 60
        rw [str_len_add, str_len_add]
        have a1 : (Str.ofString "\"").length = 1 := rfl
        have a2 : (Str.ofString "\"(").length = 2 := rfl
        (first | lia | omega)
    have hq4 : ∀ y ∈ q2.map (·.1), y.length ≤ 20 := by
      subst hq2
      intro y hy
      rw [List.map_append] at hy
      rcases List.mem_append.mp hy with hy | hy
      · exact hy3 y hy
      · rw [List.mem_singleton.mp hy]; exact hnl9
    have hq5 : q1.length ≤ 5 * i + 1 := by subst hq1; rw [List.length_append, List.length_singleton]; (first | lia | omega)
    have hq6 : q2.length ≤ i + 1 := by subst hq2; rw [List.length_append, List.length_singleton]; (first | lia | omega)
    have hq7 : q1.map (·.1) = (pcOpen (pcAt (cl.map (·.1)) i) nm).pcs := by
      subst hq1; rw [List.map_append, hp1]; rfl
    have hq8 : q2.map (·.1) = (pcOpen (pcAt (cl.map (·.1)) i) nm).nms := by
      subst hq2; rw [List.map_append, hp3]; rfl
    have hq9 : p2.map (·.1) ++ [Str.ofString "/" ++ Txt.join (Str.ofString "/") (q2.map (·.1))] = (pcOpen (pcAt (cl.map (·.1)) i) nm).pls := by
      subst hq2; rw [hp2, List.map_append, hp3]; rfl
    clear hq1 hq2 F13 N13 v0 v1 v2 v3 v4 v5 hnl8 hnl9 hy1 hy3 hp1 hp2 hp3 hz1 hz3 l6 l7 l8 l9 s1 s2 s3
    have hpar : ∀ y ∈ q2.map (·.1), y.length ≤ 4000 := fun y hy => Nat.le_trans (hq4 y hy) (by decide)
    have hjl : (Txt.join (Str.ofString "/") (List.map (fun x => x.fst) q2)).length ≤ 4004000 := join_small hpar (by rw [List.length_map]; exact bnd_5 hq6 hi4 rfl) (by decide +kernel)
    refine wpAny_Expr ?_
    walk_at "my steps"
    refine Halt.go ?_
    rename Fr g0 _ _ _ => F15
    rename News g0 _ _ _ => N15
    obtain ⟨q3, hq10, hq11, N16⟩ : ∃ q3 : List (Str × Tok), q3.map (·.1) = p2.map (·.1) ++ [Str.ofString "/" ++ Txt.join (Str.ofString "/") (q2.map (·.1))] ∧ q3.length = p2.length + 1 ∧ News g0 L0 _ ((B4, W.listOf (strValues q2).toArray 0) :: (A2, W.listOf (strValues q3).toArray (e2 + 1)) :: (A1, W.listOf (strValues q1).toArray (e1 + 1)) :: (nw0 ++ own9)) :=
      ⟨_, by rw [List.map_append]; rfl, by rw [List.length_append]; rfl, N15⟩
    rw [hq9] at hq10
    obtain ⟨st1, hst1⟩ : ∃ st1, st1 = pcOpen (pcAt (cl.map (·.1)) i) nm := ⟨_, rfl⟩
    rw [← hst1] at hq7 hq8 hq10
    clear hq9 hpar hjl N15 N14
    refine' For_H (G := fun g => g = _) (h₀ := g0) (m₀ := m5) (keep := (B4, W.listOf (strValues q2).toArray 0) :: (A2, W.listOf (strValues q3).toArray (e2 + 1)) :: (A1, W.listOf (strValues q1).toArray (e1 + 1)) :: (nw0 ++ own9)) (chg := [A1, A2]) (howMany i c q2.length) (fun i v => ∃ t, v = .int (i : Int) t) (fun j => pcJ A1 A2 W9 (nw0 ++ own9) (shuts j st1) (5 * i + 1 + j) (i + 1)) ?src ⟨B4, q1, q3, q2, _, _, _, ⟨hq7, hq10, hq8⟩, ⟨hq5, by (first | lia | omega), hq6, hq3, hq4⟩, l8', hB4, rfl, w3, w4, w5⟩ rfl ?hx ?hks ?turn ?done (by intro _; rfl) ?hE
    case hx => kernel_rfl
    case hks => kernel_rfl
    case hE => passes_own
    case src =>
      have hcn9 : ∀ b ∈ [A1, A2], ∃ o, (b, o) ∈ (B4, W.listOf (strValues q2).toArray 0) :: (A2, W.listOf (strValues q3).toArray (e2 + 1)) :: (A1, W.listOf (strValues q1).toArray (e1 + 1)) :: (nw0 ++ own9) := fun b hb => by
        simp only [List.mem_cons, List.not_mem_nil, or_false] at hb
        rcases hb with rfl | rfl
        · exact ⟨_, List.mem_cons_of_mem _ (List.mem_cons_of_mem _ List.mem_cons_self)⟩
        · exact ⟨_, List.mem_cons_of_mem _ List.mem_cons_self⟩
      walk_at "my steps"
      · rename IsRange _ _ _ _ _ _ _ _ => hR
        rename News g0 _ _ _ => N17
        rename Fr g0 _ _ _ => F17
        have e : howMany i c q2.length = q2.length := if_pos (by (first | lia | omega))
        rw [e]
        exact src_range rfl F17 N17 hR (by (first | lia | omega)) (fun q hq => hq) hcn9
      · rename IsRange _ _ _ _ _ _ _ _ => hR
        rename News g0 _ _ _ => N17
        rename Fr g0 _ _ _ => F17
        have h0 : 0 ≤ (c.fdiv 4).fmod ((q2.length : Int) + 1) := Int.fmod_nonneg_of_pos _ (by (first | lia | omega))
        have h1 : (c.fdiv 4).fmod ((q2.length : Int) + 1) < (q2.length : Int) + 1 := Int.fmod_lt_of_pos _ (by (first | lia | omega))
        have e : ((howMany i c q2.length : Nat) : Int) = (c.fdiv 4).fmod ((q2.length : Int) + 1) := by
          unfold howMany; rw [if_neg (by (first | lia | omega))]; (first | lia | omega)
        rw [← e] at hR
        exact src_range rfl F17 N17 hR (by (first | lia | omega)) (fun q hq => hq) hcn9
    case done =>
      intro m₈ nx h8 tk8 gens8 hJ hg8 F8 N8
      refine pcJ.out hJ ?_
      intro C3 o1 o2 o3 f1 f2 f3 hnx ho1 ho2 ho3 hz1 hz2 hz3 hy1 hy3 hlt8 hC9 x1 x2 x3
      subst hnx
      have hN8 : News g0 L0 h8 (((C3, W.listOf (strValues o3).toArray f3) :: (A2, W.listOf (strValues o2).toArray f2) :: (A1, W.listOf (strValues o1).toArray f1) :: nw0) ++ own9) := N8
      have hst2 : shuts (howMany i c q2.length) st1 = pcAt (cl.map (·.1)) (i + 1) := by
        rw [pcAt, hci]
        show _ = pcTurn i c (pcAt (cl.map (·.1)) i)
        have hl : q2.length = (pcAt (cl.map (·.1)) i).nms.length + 1 := by
          have := congrArg List.length hq8
          rw [List.length_map] at this
          rw [this, hst1]
          show ((pcAt (cl.map (·.1)) i).nms ++ [nm]).length = _
          rw [List.length_append]; rfl
        rw [hl, hst1, hnm]; rfl
      rw [hst2] at ho1 ho2 ho3
      have hm : howMany i c q2.length ≤ i + 1 := many_low hq6
      refine hR9 _ _ (EndH.mk (hg8.trans hg) F8 hN8 ⟨C3, o1, o2, o3, _, _, _, ⟨ho1, ho2, ho3⟩, ⟨bnd_4 hz1 hm hi4, bnd_3 hz2 hm hi4, hz3, hy1, hy3⟩, hlt8, by simp, rfl, x1, x2, x3⟩ (fun p hp => List.mem_append_left _ hp) (fun p hp => List.mem_append_right _ hp) ?_)
      intro q hq
      rcases List.mem_cons.mp hq with rfl | hq
      · exact hC9
      rcases List.mem_cons.mp hq with rfl | hq
      · exact hoff (A2, W.listOf (strValues p2).toArray e2) (List.mem_cons_of_mem _ List.mem_cons_self)
      rcases List.mem_cons.mp hq with rfl | hq
      · exact hoff (A1, W.listOf (strValues p1).toArray e1) (List.mem_cons_of_mem _ (List.mem_cons_of_mem _ List.mem_cons_self))
      · exact hoff _ (List.mem_cons_of_mem _ (List.mem_cons_of_mem _ (List.mem_cons_of_mem _ hq)))
    case turn =>
      intro j vj m₈ nx h8 tk8 gens8 W8 own8 hj _ hW8 ho8 hoff8 hJ hg8 F8 N8
      refine cps ?_
      intro R8 hR8
      refine pcJ.out hJ ?_
      intro C3 o1 o2 o3 f1 f2 f3 hnx ho1 ho2 ho3 hz1 hz2 hz3 hy1 hy3 hlt8 hC9 x1 x2 x3
      subst hnx
      simp only [List.cons_append] at N8
      have hA1' : ∀ p ∈ nw0 ++ own9 ++ own8, p.1 ≠ A1 := fun p hp => by
        rcases List.mem_append.mp hp with hp | hp
        · exact hA1 p hp
        · exact ho8 p hp A1 List.mem_cons_self
      have hA2' : ∀ p ∈ nw0 ++ own9 ++ own8, p.1 ≠ A2 := fun p hp => by
        rcases List.mem_append.mp hp with hp | hp
        · exact hA2 p hp
        · exact ho8 p hp A2 (List.mem_cons_of_mem _ List.mem_cons_self)
      have hj4 : j < i + 1 := by
        exact Nat.lt_of_lt_of_le hj (many_low hq6)
      have zb1 : o1.length ≤ 1000 := bnd_1 hz1 hj4 hi4
      have zb2 : o2.length ≤ 1000 := Nat.le_trans hz2 (bnd_2 hj4 hi4)
      obtain ⟨m6, F10, y1, y2, y3⟩ : ∃ m6 : Str → Option Value, Fr _ _ _ m6 ∧ m6 (S "pieces") = some (.ref A1) ∧ m6 (S "places") = some (.ref A2) ∧ m6 (S "names") = some (.ref C3) := ⟨_, F8, x1, x2, x3⟩
      clear F8 x1 x2 x3
      walk_at "my steps"
      refine Halt.go ?_
      refine wpAny_Expr ?_
      walk_at "my steps"
      refine Halt.go ?_
      walk_at "my slice"
      rename_i D7 h7 F7 N7 l7
      rw [slice_init] at N7
      have lD1 : @LT.lt Nat _ A2 D7 := l7 _ (List.mem_cons_of_mem _ List.mem_cons_self)
      have lD2 : @LT.lt Nat _ A1 D7 := l7 _ (List.mem_cons_of_mem _ (List.mem_cons_of_mem _ List.mem_cons_self))
      have hD7 : D7 ∉ W8 := new_off hW8 (fun q hq => List.mem_cons_of_mem _ (List.mem_cons_of_mem _ (List.mem_cons_of_mem _ (List.mem_append_right _ hq)))) l7
      have hD9 : D7 ∉ W9 := new_off hW (fun q hq => List.mem_cons_of_mem _ (List.mem_cons_of_mem _ (List.mem_cons_of_mem _ (List.mem_append_left _ (List.mem_append_right _ hq))))) l7
      clear l7
      walk_at "my steps"
      refine Halt.go ?_
      rename Fr g0 _ _ _ => F11
      rename News g0 _ _ _ => N11
      obtain ⟨m7, F12, u1, u2, u3⟩ : ∃ m7 : Str → Option Value, Fr _ _ _ m7 ∧ m7 (S "pieces") = some (.ref A1) ∧ m7 (S "places") = some (.ref A2) ∧ m7 (S "names") = some (.ref D7) := ⟨_, F11, map_put rfl y1, map_put rfl y2, rfl⟩
      obtain ⟨v1, v3, e4, hv1, hv1b, hv3, N12⟩ : ∃ (v1 v3 : List (Str × Tok)) (e4 : Nat), v1.map (·.1) = o1.map (·.1) ++ [Str.ofString ")"] ∧ v1.length = o1.length + 1 ∧ v3 = o3.dropLast ∧ News g0 L0 _ ((D7, W.listOf (strValues v3).toArray 0) :: (A2, W.listOf (strValues o2).toArray f2) :: (A1, W.listOf (strValues v1).toArray e4) :: (nw0 ++ own9 ++ own8)) :=
        ⟨o1 ++ [(Str.ofString ")", tk8)], o3.dropLast, f1 + 1, by rw [List.map_append]; rfl, by rw [List.length_append]; rfl, rfl, news_sub N11 (fun q hq => by
          simp only [List.mem_cons] at hq ⊢
          rcases hq with h | h | h | h
          · exact .inl h
          · exact .inr (.inr (.inl h))
          · exact .inr (.inr (.inr (.inl h)))
          · exact .inr (.inr (.inr (.inr h))))⟩
      have hy3' : ∀ y ∈ v3.map (·.1), y.length ≤ 20 := fun y hy => by
        subst hv3
        rw [List.map_dropLast] at hy
        exact hy3 y (List.dropLast_subset _ hy)
      have hz3' : v3.length ≤ i + 1 := by subst hv3; rw [List.length_dropLast]; exact Nat.le_trans (Nat.sub_le _ _) hz3
      have hpar : ∀ y ∈ v3.map (·.1), y.length ≤ 4000 := fun y hy => Nat.le_trans (hy3' y hy) (by decide)
      have hjl : (Txt.join (Str.ofString "/") (List.map (fun x => x.fst) v3)).length ≤ 4004000 := join_small hpar (by rw [List.length_map]; exact bnd_5 hz3' hi4 rfl) (by decide +kernel)
      clear N11 F11
      refine wpAny_Expr ?_
      walk_at "my steps"
      rename Fr g0 _ _ _ => F13
      rename News g0 _ _ _ => N13
      obtain ⟨v2, hv2, hv2b, N14⟩ : ∃ v2 : List (Str × Tok), v2.map (·.1) = o2.map (·.1) ++ [Str.ofString "/" ++ Txt.join (Str.ofString "/") (v3.map (·.1))] ∧ v2.length = o2.length + 1 ∧ News g0 L0 _ ((D7, W.listOf (strValues v3).toArray 0) :: (A2, W.listOf (strValues v2).toArray (f2 + 1)) :: (A1, W.listOf (strValues v1).toArray e4) :: (nw0 ++ own9 ++ own8)) :=
        ⟨_, by rw [List.map_append]; rfl, by rw [List.length_append]; rfl, N13⟩
      refine hR8 _ _ (EndH.mk hg8 F13 N14 (nx := (D7, W.listOf (strValues v3).toArray 0) :: (A2, W.listOf (strValues v2).toArray (f2 + 1)) :: (A1, W.listOf (strValues v1).toArray e4) :: (nw0 ++ own9)) ⟨D7, v1, v2, v3, _, _, _, ⟨?_, ?_, ?_⟩, ⟨?_, ?_, hz3', ?_, hy3'⟩, lD1, hD9, rfl, u1, u2, u3⟩ ?_ ?_ ?_)
      · rw [hv1, ho1, shuts_succ]; rfl
      · rw [hv2, ho2, shuts_succ]
        show _ ++ [Str.ofString "/" ++ Txt.join (Str.ofString "/") (v3.map (·.1))] = _ ++ [Str.ofString "/" ++ Txt.join (Str.ofString "/") (shuts j st1).nms.dropLast]
        rw [hv3, List.map_dropLast, ho3]
      · rw [hv3, List.map_dropLast, ho3, shuts_succ]; rfl
      · rw [hv1b, ← Nat.add_assoc]; exact Nat.succ_le_succ hz1
      · rw [hv2b, ← Nat.add_assoc]; exact Nat.succ_le_succ hz2
      · intro y hy
        rw [hv1] at hy
        rcases List.mem_append.mp hy with hy | hy
        · exact hy1 y hy
        · rw [List.mem_singleton.mp hy]; decide
      · intro q hq
        simp only [List.mem_cons] at hq ⊢
        rcases hq with h | h | h | h
        · exact .inl h
        · exact .inr (.inl h)
        · exact .inr (.inr (.inl h))
        · exact .inr (.inr (.inr (List.mem_append_left _ h)))
      · exact fun q hq => List.mem_cons_of_mem _ (List.mem_cons_of_mem _ (List.mem_cons_of_mem _ (List.mem_append_right _ hq)))
      · intro q hq
        rcases List.mem_cons.mp hq with rfl | hq
        · exact hD7
        rcases List.mem_cons.mp hq with rfl | hq
        · exact hoff8 (A2, W.listOf (strValues o2).toArray f2) (List.mem_cons_of_mem _ List.mem_cons_self)
        rcases List.mem_cons.mp hq with rfl | hq
        · exact hoff8 (A1, W.listOf (strValues o1).toArray f1) (List.mem_cons_of_mem _ (List.mem_cons_of_mem _ List.mem_cons_self))
        · exact hoff8 _ (List.mem_cons_of_mem _ (List.mem_cons_of_mem _ (List.mem_cons_of_mem _ hq)))

end

noncomputable section
open PySem PySem.W PyProof.Rows PySem.Calls PySem.Spec Mine
variable {w : World} {p : Program} {loose : List Str} {mean : ExcName → Option Value} {mg mb : Str → Option Value}
set_option maxHeartbeats 4000000
set_option rowWalk.seconds 0
theorem rows22 : True := by
  k_with_none
  k_with "my fits" => (first | with_reducible assumption | (simp only [sizeLine_eq] at *; omega))
  k_with "call builtin:issubclass" => (k_here; (with_reducible show wpAny _ _ (call (Value.builtin "issubclass") [Value.type "str", Value.ref _]) _ _ _); (refine' call_issub (isTup_of (by k_asm) (by news_mem)) ?_))
  k_with "my size" => (first | with_reducible assumption | (simp only [strValues, List.size_toArray, List.length_map, List.length_append, List.length_cons, List.length_nil, sizeLine_eq]; omega))
  k_with "call builtin:list.append" => (k_here; (with_reducible show wpAny _ _ (call (Value.builtin _) [Value.ref _, _]) _ _ _); k_dflt (refine' append_K (by k_asm) (by k_asm) (by k_upd) ?_ (by walk_at "my size"); k_whole); intro _ _ _)
  k_with "truthy ref" => (k_here; (with_reducible show wpAny _ _ (truthy (Value.ref _)) _ _ _); refine' truthy_L (by exact isL_of (by with_reducible assumption) (by walk_at "my mem")) (by walk_at "my size") ?_ ?_; intro _ _)
  k_with "call builtin:list.pop" => (k_here; (try dsimp only); k_dflt (refine' pop_L (by k_asm) (by k_asm) (by k_upd) (by walk_at "my size") ?_); intro _ _ _)
  k_with "subscriptTail Name UnaryOp ref int" => (k_here; (with_reducible show wpAny _ _ (subscriptTail _ _ (Value.ref _) (Value.int (-1) _)) _ _ _); refine' item_last (by exact isL_of (by with_reducible assumption) (by walk_at "my mem")) (by walk_at "my size") (by exact List.getLast?_concat) ?_ (by with_unfolding_all rfl))
  k_with "truthy ref" => (k_here; (with_reducible show wpAny _ _ (truthy (Value.ref _)) _ _ _); refine' truthy_L1 (by exact isL_of (by with_reducible assumption) (by walk_at "my mem")) (by walk_at "my size") ?_; intro _)
  k_with "call builtin:str.join" => (k_here; (with_reducible show wpAny _ _ (call (Value.builtin "str.join") [Value.str _ _, Value.ref _]) _ _ _); first
  | (refine' my_join (by exact isL_of (by with_reducible assumption) (by walk_at "my mem")) (by decide +kernel) (by omega) (by walk_at "my parts") ?_; intro _ _)
  | (refine' my_join2 (by exact isL_of (by with_reducible assumption) (by walk_at "my mem")) (by decide +kernel) (by omega) (by walk_at "my parts") (by walk_at "my len") ?_; intro _ _))
  k_with "my mem" => (with_reducible (first | exact List.mem_cons_self | (refine List.mem_cons_of_mem _ ?_; walk_at "my mem")))
  k_with "my parts" => (assumption)
  k_with "my len" => (first | (simp only []; omega) | omega)
  k_with "my in" => (first | with_reducible assumption | with_reducible exact List.mem_cons_self | with_reducible exact List.mem_append_left _ (by with_reducible assumption) | with_reducible exact List.mem_append_right _ (by with_reducible assumption) | ((with_reducible refine List.mem_cons_of_mem _ ?_); walk_at "my in"))
  k_with "my all" => (first | with_reducible exact List.forall_mem_nil _ | ((with_reducible refine List.forall_mem_cons.mpr ⟨by walk_at "my mem", ?_⟩); walk_at "my all") | (intro _ _; walk_at "my in"))
  k_with "my news" => (first | with_reducible assumption | (refine' news_sub (by with_reducible assumption) (by intro _ _; walk_at "my in")))
  k_with "my led" => ((try simp only [List.cons_append]); with_reducible assumption)
  k_with "my slice" => (k_here; (with_reducible show wpAny _ _ (subscriptTail _ (PySem.Expr.Slice _ _ none _) (Value.ref _) (Value.ref _)) _ _ _); k_dflt (refine' kmk_slice (by k_asm) (by k_asm) (by exact isL_of (by with_reducible assumption) (by walk_at "my mem")) (by kmk_part) (by kmk_part) ?_ (by with_unfolding_all rfl) (by kmk_pure) (by first | walk_at "my size" | (simp only [List.size_toArray, intVals, List.length_map]; rw [sizeLine_eq]; omega))); intro _ _ _ _ _)
  k_with "my fold" => (refine fold_ae ?_; intro _ _)
  k_with "storeName" => (k_here; k_dflt (refine' store_let (by k_asm) (by k_asm) ?_ (by rfl) (by rfl); k_whole; intro _ _ _ _ _ _; (try k_sweep)))
  k_with "exec If" => (k_here; (refine if_let ?_); intro _)
  k_with "execs cons" => (k_here; (refine cons_let ?_); intro _ _ _ _)
  k_with "execs cons" => (k_here; (with_reducible show wpAny _ _ (execs (_ :: []) _) _ _ _); (refine execs_1 ?_); intro _ _ _)
  k_with "execs cons" => (k_here; k_gentoks; (refine st_let2 ?_); intro _)
  k_with "my room" => (k_dflt (first | exact room1 (k := 1) rfl rfl (by with_reducible assumption) | exact room1 (k := 2) rfl rfl (by with_reducible assumption) | exact room1 (k := 3) rfl rfl (by with_reducible assumption) | exact room0 (k := 1) rfl rfl (by with_reducible assumption) | exact room0 (k := 2) rfl rfl (by with_reducible assumption) | exact room0 (k := 3) rfl rfl (by with_reducible assumption) | ktr_room | (show Around.depth (Around.deeper _ _) + _ < recursionLimit; first | ktr_room) | (show Around.depth (Around.deeper _ _) < recursionLimit; first | ktr_room)))
  k_with "my units" => (k_dflt (first | exact unit1 (k := 3) rfl rfl (by with_reducible assumption) | exact unit1 (k := 4) rfl rfl (by with_reducible assumption) | exact unit1 (k := 5) rfl rfl (by with_reducible assumption) | exact unit1 (k := 6) rfl rfl (by with_reducible assumption) | exact unit1 (k := 7) rfl rfl (by with_reducible assumption) | exact unit1 (k := 8) rfl rfl (by with_reducible assumption) | exact unit0 (k := 3) rfl rfl (by with_reducible assumption) | exact unit0 (k := 6) rfl rfl (by with_reducible assumption) | ktr_units | (show Around.units (Around.deeper _ _) + _ < cLine; first | ktr_units)))
  k_with "my steps" => (repeat' (first | ((fail_if_success (fail_if_success k_unfold)); (first | (show wpAny _ _ _ _ _ _) | (k_unfold; (try dsimp only)))) | (k_end; wrow_close) | walk1 | (dsimp only; walk1) | (leave1; (try dsimp only)) | fail "no step"))
  k_with "my off" => (first | with_reducible exact rfl | ((refine map_off ?_ ?_); (next => assumption); walk_at "my off") | exact rfl)
  trivial
noncomputable def cellsOf (scr : List Int) : List Int := (((scr.take 4).map fun k : Int => k.fmod (10 ^ 6)) ++ [1, 7, 34, 49]).take 4
theorem cells_len (scr : List Int) : (cellsOf scr).length = 4 := by
  unfold cellsOf
  rw [List.length_take, List.length_append]
  show min 4 (_ + 4) = 4
  omega
theorem cells_range (scr : List Int) : ∀ c ∈ cellsOf scr, 0 ≤ c ∧ c < 1000000 := by
  intro c hc
  have h := List.mem_of_mem_take hc
  rcases List.mem_append.mp h with h | h
  · obtain ⟨k, _, rfl⟩ := List.mem_map.mp h
    exact ⟨Int.fmod_nonneg_of_pos _ (by decide), Int.fmod_lt_of_pos _ (by decide)⟩
  · simp only [List.mem_cons, List.not_mem_nil, or_false] at h
    rcases h with rfl | rfl | rfl | rfl <;> decide
noncomputable def wordAt (ring : Str) : Nat → Str
  | 0 => ring
  | k + 1 => turned (wordAt ring k)
noncomputable def rowOf (stops : List Str) (k : Nat) : List Str := (stops.drop k).take (8 - k) ++ stops.take (k + 1)
structure PlainLaw (cs : List Int) : Prop where
  names : ∀ i c, cs[i]? = some c → (nameOf i c).length ≤ 20 ∧ (Txt.replace (nameOf i c) (Str.ofString "\"") (Str.ofString "\\\"")).length ≤ 40
  len : (lineOf cs).length ≤ 1000
  no10 : ∀ c ∈ (lineOf cs).cps.toList, c ≠ 10
  walk : ∃ n res st r, lexGo .sp [] (lineOf cs).cps.toList = some (res, st, r) ∧ wkRun n res st r [Str.ofString "/"] (Str.ofString "") (pcAt cs 4).pls
  ok : ∀ x ∈ (pcAt cs 4).pls, PyData.strOk x = true
  n9 : (pcAt cs 4).pls.length = 9
  ringlen : (stripped (lineOf cs)).length ≤ 400
  wlen : ∀ k : Nat, k < 9 → (wordAt (stripped (lineOf cs)) k).length ≤ 400
  rows : ∀ (k : Nat) (sk : Str), k < 8 → (pcAt cs 4).pls[k]? = some sk → wordAt (stripped (lineOf cs)) k = seen ((rowOf (pcAt cs 4).pls k).map (dist sk))
  check : ∀ (k : Nat) (sk : Str), k < 8 → (pcAt cs 4).pls[k]? = some sk → checked (Txt.slice (stripped (lineOf cs)) (some (k : Int)) none ++ Txt.slice (stripped (lineOf cs)) none (some (k : Int))) = (sk == Str.ofString "/")
  plen : ∀ x ∈ (pcAt cs 4).pls, x.length ≤ 400
  last : wordAt (stripped (lineOf cs)) 8 = stripped (lineOf cs)
  ckline : checked (lineOf cs) = true
  steps : ∀ a ∈ (pcAt cs 4).pls, ∀ b ∈ (pcAt cs 4).pls, lt2 a b → stepsPre a b
noncomputable def Late : Prop := True
theorem halt_late {P : Prop} (_ : Late) (h : Halt P) : P := h

end
noncomputable section
open PySem PySem.W PyProof.Rows PySem.Calls PySem.Spec Mine
theorem cat_list (a b : Str) : (a ++ b).cps.toList = a.cps.toList ++ b.cps.toList := by rw [Str.cps_append, Array.toList_append]
theorem len_list (x : Str) : x.length = x.cps.toList.length := by simp [Str.length]
theorem join_eq (sep : Str) (l : List Str) : Txt.join sep l = Str.join sep l := StrLaws.glued_eq_join sep l
noncomputable def jl (c : Nat) : List (List Nat) → List Nat
  | [] => []
  | [a] => a
  | a :: b :: r => a ++ c :: jl c (b :: r)
theorem join_list (c : Nat) : ∀ l : List Str, (Str.join ⟨#[c]⟩ l).cps.toList = jl c (l.map fun x => x.cps.toList)
  | [] => rfl
  | [a] => rfl
  | a :: b :: r => by
    have ih := join_list c (b :: r)
    show (a ++ ⟨#[c]⟩ ++ Str.join ⟨#[c]⟩ (b :: r)).cps.toList = _
    rw [cat_list, cat_list, ih]
    show a.cps.toList ++ [c] ++ _ = a.cps.toList ++ c :: _
    rw [List.append_assoc]; rfl
theorem cut_one {c : Nat} : ∀ {a a' x x' : List Nat}, c ∉ a → c ∉ a' → a ++ c :: x = a' ++ c :: x' → a = a' ∧ x = x'
  | [], [], _, _, _, _, h => by simp at h; exact ⟨rfl, h⟩
  | [], b :: r, _, _, _, h2, h => by
    simp at h; exact absurd (h.1 ▸ List.mem_cons_self) h2
  | b :: r, [], _, _, h1, _, h => by
    simp at h; exact absurd (h.1 ▸ List.mem_cons_self) h1
  | b :: r, b' :: r', _, _, h1, h2, h => by
    simp only [List.cons_append, List.cons.injEq] at h
    obtain ⟨e1, e2⟩ := cut_one (fun m => h1 (List.mem_cons_of_mem _ m)) (fun m => h2 (List.mem_cons_of_mem _ m)) h.2
    exact ⟨by rw [h.1, e1], e2⟩
theorem jl_inj (c : Nat) : ∀ (p q : List (List Nat)), p ≠ [] → q ≠ [] → (∀ x ∈ p, c ∉ x) → (∀ x ∈ q, c ∉ x) → jl c p = jl c q → p = q
  | [], _, h, _, _, _, _ => absurd rfl h
  | _, [], _, h, _, _, _ => absurd rfl h
  | [a], [b], _, _, _, _, h => by rw [show a = b from h]
  | [a], b :: b2 :: r, _, _, h1, _, h => by
    have h' : a = b ++ c :: jl c (b2 :: r) := h
    exact absurd (by rw [h']; simp) (h1 a List.mem_cons_self)
  | a :: a2 :: r, [b], _, _, _, h2, h => by
    have h' : a ++ c :: jl c (a2 :: r) = b := h
    exact absurd (by rw [← h']; simp) (h2 b List.mem_cons_self)
  | a :: a2 :: r, b :: b2 :: r', _, _, h1, h2, h => by
    have h' : a ++ c :: jl c (a2 :: r) = b ++ c :: jl c (b2 :: r') := h
    obtain ⟨e1, e2⟩ := cut_one (h1 a List.mem_cons_self) (h2 b List.mem_cons_self) h'
    rw [e1, jl_inj c (a2 :: r) (b2 :: r') (by simp) (by simp) (fun x hx => h1 x (List.mem_cons_of_mem _ hx)) (fun x hx => h2 x (List.mem_cons_of_mem _ hx)) e2]
theorem lists_inj : ∀ {p q : List Str}, (p.map fun x => x.cps.toList) = (q.map fun x => x.cps.toList) → p = q
  | [], [], _ => rfl
  | [], _ :: _, h => by simp at h
  | _ :: _, [], h => by simp at h
  | a :: r, b :: r', h => by
    simp only [List.map_cons, List.cons.injEq] at h
    rw [str_eq h.1, lists_inj h.2]
theorem split_ne (x : Str) (c : Nat) : Txt.split x ⟨#[c]⟩ ≠ [] := by
  intro e
  have h := split_len x c
  rw [e] at h
  have : (0 : Int) ≤ cnt c x.cps.toList := countIn_nonneg _ _
  simp at h
  (first | lia | omega)
theorem split_join (c : Nat) (p : List Str) (hp : p ≠ []) (hf : ∀ x ∈ p, c ∉ x.cps.toList) : Txt.split (Str.join ⟨#[c]⟩ p) ⟨#[c]⟩ = p := by
  apply lists_inj
  apply jl_inj c
  · simpa using split_ne _ c
  · simpa using hp
  · intro x hx; obtain ⟨y, hy, rfl⟩ := List.mem_map.mp hx; exact StrLaws.split_free _ c y hy
  · intro x hx; obtain ⟨y, hy, rfl⟩ := List.mem_map.mp hx; exact hf y hy
  · rw [← join_list, ← join_list, StrLaws.join_split]

end
noncomputable section
open PySem PySem.W PyProof.Rows PySem.Calls PySem.Spec Mine PySem.Builtin PySem.Builtin.Str
theorem sl47 : Str.ofString "/" = ⟨#[47]⟩ := rfl
noncomputable def PS (l : List Str) : Str := Str.ofString "/" ++ Txt.join (Str.ofString "/") l
noncomputable def fs (l : List Str) : List Nat := (l.map fun x => 47 :: x.cps.toList).flatten
noncomputable def nOk (x : Str) : Prop := x.cps.toList ≠ [] ∧ ∀ c ∈ x.cps.toList, c ≠ 47
theorem jl_fs : ∀ l : List Str, l ≠ [] → 47 :: jl 47 (l.map fun x => x.cps.toList) = fs l
  | [], h => absurd rfl h
  | [a], _ => by simp [jl, fs]
  | a :: b :: r, _ => by
    have ih := jl_fs (b :: r) (by simp)
    show 47 :: (a.cps.toList ++ 47 :: jl 47 ((b :: r).map fun x => x.cps.toList)) = _
    rw [ih]; rfl
theorem PS_jl (l : List Str) : (PS l).cps.toList = 47 :: jl 47 (l.map fun x => x.cps.toList) := by
  unfold PS
  rw [cat_list, join_eq, sl47, join_list]; rfl
theorem PS_nil : PS [] = Str.ofString "/" := str_eq (by rw [PS_jl]; rfl)
theorem PS_list (l : List Str) (h : l ≠ []) : (PS l).cps.toList = fs l := by rw [PS_jl, jl_fs l h]
theorem fs_app (a b : List Str) : fs (a ++ b) = fs a ++ fs b := by simp [fs]
theorem ends_one (x : Str) (c : Nat) : Txt.endswith x ⟨#[c]⟩ = true ↔ x.cps.toList.getLast? = some c := by
  unfold Txt.endswith
  have h := StrLaws.subAt_one x c (x.length - 1)
  have h1 : (⟨#[c]⟩ : Str).length = 1 := rfl
  rw [List.getLast?_eq_getElem?, ← len_list, h1]
  rw [h1] at h
  constructor
  · intro e
    simp only [Bool.and_eq_true, decide_eq_true_eq] at e
    exact h.mp ⟨by omega, e.2⟩
  · intro e
    have := h.mpr e
    simp only [Bool.and_eq_true, decide_eq_true_eq]
    exact ⟨by omega, this.2⟩
theorem starts_one (x : Str) (c : Nat) : Txt.startswith x ⟨#[c]⟩ = true ↔ x.cps.toList.head? = some c := by
  unfold Txt.startswith
  have h := StrLaws.subAt_one x c 0
  have h1 : (⟨#[c]⟩ : Str).length = 1 := rfl
  rw [List.head?_eq_getElem?, h1]
  rw [h1] at h
  constructor
  · intro e
    simp only [Bool.and_eq_true, decide_eq_true_eq] at e
    exact h.mp ⟨by omega, e.2⟩
  · intro e
    have := h.mpr e
    simp only [Bool.and_eq_true, decide_eq_true_eq]
    exact ⟨by omega, this.2⟩
theorem PS_last (l : List Str) (b : Str) (hb : nOk b) : ∃ c, (PS (l ++ [b])).cps.toList.getLast? = some c ∧ c ≠ 47 := by
  rw [PS_list _ (by simp), fs_app]
  obtain ⟨h1, h2⟩ := hb
  refine ⟨b.cps.toList.getLast h1, ?_, h2 _ (List.getLast_mem h1)⟩
  rw [show fs [b] = [47] ++ b.cps.toList by simp [fs], ← List.append_assoc, List.getLast?_append, List.getLast?_eq_some_getLast h1]
  rfl
theorem snoc_or {α : Type} (l : List α) : l = [] ∨ ∃ l' b, l = l' ++ [b] := by
  rcases List.eq_nil_or_concat l with h | ⟨l', b, h⟩
  · exact .inl h
  · exact .inr ⟨l', b, by simpa using h⟩
theorem jn_PS (l : List Str) (b : Str) (hl : ∀ x ∈ l, nOk x) : jn (PS l) b = PS (l ++ [b]) := by
  unfold jn
  rcases snoc_or l with rfl | ⟨l', d, rfl⟩
  · rw [if_pos (by rw [sl47, ends_one]; rfl)]
    apply str_eq; simp [cat_list, PS_jl, jl]
  · obtain ⟨c, h1, h2⟩ := PS_last l' d (hl d (by simp))
    rw [if_neg (by rw [sl47, ends_one, h1]; intro e; exact h2 (by simpa using e))]
    apply str_eq
    rw [cat_list, cat_list, PS_list _ (by simp), PS_list _ (by simp), sl47, fs_app (l' ++ [d])]
    simp [fs]
theorem PS_starts (l : List Str) : Txt.startswith (PS l) (Str.ofString "/") = true := by
  rw [sl47, starts_one, PS_jl]; rfl
theorem rs_PS (l : List Str) (hl : ∀ x ∈ l, nOk x) : (Txt.rstripChars (PS l) (Str.ofString "/")).cps.toList = fs l := by
  unfold Txt.rstripChars
  rw [PyProof.Rows.stripBy_eq, strSub_mk]
  rcases snoc_or l with rfl | ⟨l', d, rfl⟩
  · rw [PS_nil]; decide +kernel
  · obtain ⟨c, h1, h2⟩ := PS_last l' d (hl d (by simp))
    have hlo : ∀ g, stripLo g false (PS (l' ++ [d])) = 0 := fun _ => rfl
    rw [hlo]
    have hhi : stripHi (Str.ofString "/").cps.contains true (PS (l' ++ [d])) 0 = (PS (l' ++ [d])).length := by
      unfold stripHi
      rw [if_pos rfl, List.drop_zero]
      rw [List.getLast?_eq_head?_reverse] at h1
      cases hr : (PS (l' ++ [d])).cps.toList.reverse with
      | nil => rw [hr] at h1; exact absurd h1 (by simp)
      | cons e r =>
        rw [hr] at h1
        have : e = c := by simpa using h1
        subst this
        rw [List.takeWhile_cons]
        have : (Str.ofString "/").cps.contains e = false := by
          rw [sl47]; simp; exact h2
        rw [this]; simp
    rw [hhi, ← PS_list _ (by simp), List.drop_zero, len_list]
    simp only [Nat.sub_zero, List.take_length]

end
noncomputable section
open PySem PySem.W PyProof.Rows PySem.Calls PySem.Spec Mine PySem.Builtin PySem.Builtin.Str
theorem sl_to (x : Str) (j : Int) (h : 0 ≤ j ∧ j ≤ x.length) : (Txt.slice x none (some j)).cps.toList = x.cps.toList.take j.toNat := by
  rw [beq_iff_eq.mp (slice_closes_toL h.1 h.2)]; simp
theorem sl_from (x : Str) (i : Int) (h : 0 ≤ i ∧ i ≤ x.length) : (Txt.slice x (some i) none).cps.toList = x.cps.toList.drop i.toNat := by
  rw [slice_from_eq h.1 h.2 rfl]
  simp only []
  rw [List.take_of_length_le]
  have := len_list x
  simp only [List.length_drop]; omega
theorem sl_mid (x : Str) (i j : Int) (h : 0 ≤ i ∧ i ≤ j ∧ j ≤ x.length) : (Txt.slice x (some i) (some j)).cps.toList = (x.cps.toList.drop i.toNat).take (j - i).toNat := by
  rw [beq_iff_eq.mp (slice_closesL h.1 h.2.1 h.2.2)]
theorem PS_len (l : List Str) : 1 ≤ (PS l).length := by rw [len_list, PS_jl]; simp
theorem PS_tail (l : List Str) : Txt.slice (PS l) (some 1) none = Str.join ⟨#[47]⟩ l := by
  apply str_eq
  rw [sl_from _ _ ⟨by decide, by have := PS_len l; (first | lia | omega)⟩, PS_jl, join_list]; rfl
theorem nOk_no {x : Str} (h : nOk x) : 47 ∉ x.cps.toList := fun m => h.2 47 m rfl
theorem split_tail (l : List Str) (h0 : l ≠ []) (hl : ∀ x ∈ l, nOk x) : Txt.split (Txt.slice (PS l) (some 1) none) (Str.ofString "/") = l := by
  rw [PS_tail, sl47, split_join 47 l h0 fun x hx => nOk_no (hl x hx)]
noncomputable def gOk (x : Str) : Prop := nOk x ∧ x ≠ Str.ofString "" ∧ x ≠ Str.ofString "." ∧ x ≠ Str.ofString ".."
theorem np_run : ∀ (l acc : List Str), (∀ x ∈ l, gOk x) → l.foldl npStep acc = acc ++ l
  | [], acc, _ => by simp
  | a :: r, acc, h => by
    have ⟨_, h1, h2, h3⟩ := h a List.mem_cons_self
    have e : npStep acc a = acc ++ [a] := by
      unfold npStep
      rw [if_neg (by rintro (h | h); exact h1 h; exact h2 h), if_pos (.inl h3)]
    rw [List.foldl_cons, e, np_run r _ fun x hx => h x (List.mem_cons_of_mem _ hx)]
    simp
theorem npath_PS (l : List Str) (b : Str) (hl : ∀ x ∈ l, gOk x) (hb : nOk b) : npath (PS (l ++ [b])) = PS (npStep l b) := by
  unfold npath
  show S "/" ++ Txt.join (S "/") ((Txt.split (Txt.slice (PS (l ++ [b])) (some 1) none) (Str.ofString "/")).foldl npStep []) = _
  rw [split_tail _ (by simp) (by
    intro x hx
    rcases List.mem_append.mp hx with h | h
    · exact (hl x h).1
    · rw [List.mem_singleton.mp h]; exact hb)]
  rw [List.foldl_append, np_run l [] hl]
  rfl
theorem fs_len : ∀ (l : List Str) (n : Nat), (∀ x ∈ l, x.length ≤ n) → (fs l).length ≤ l.length * (n + 1)
  | [], _, _ => by simp [fs]
  | a :: r, n, h => by
    have ih := fs_len r n fun x hx => h x (List.mem_cons_of_mem _ hx)
    have ha := h a List.mem_cons_self
    rw [len_list] at ha
    have e : fs (a :: r) = (47 :: a.cps.toList) ++ fs r := rfl
    rw [e, List.length_append, List.length_cons, List.length_cons, Nat.add_mul]
    (first | lia | omega)
theorem PS_le (l : List Str) (n : Nat) (h : ∀ x ∈ l, x.length ≤ n) : (PS l).length ≤ l.length * (n + 1) + 1 := by
  have := fs_len l n h
  rw [len_list]
  by_cases e : l = []
  · subst e; rw [PS_nil]; exact Nat.le_add_left 1 _
  · rw [PS_list l e]; omega
theorem wk_ok (l : List Str) (b : Str) (hl : ∀ x ∈ l, gOk x ∧ x.length ≤ 20) (h4 : l.length ≤ 20) (hb : nOk b) (hbl : b.length ≤ 20) (hd : b ≠ Str.ofString "" ∧ b ≠ Str.ofString ".") (hdd : b = Str.ofString ".." → l ≠ []) : wkOk (PS l) b := by
  have hn : ∀ x ∈ l ++ [b], nOk x := by
    intro x hx
    rcases List.mem_append.mp hx with h | h
    · exact (hl x h).1.1
    · rw [List.mem_singleton.mp h]; exact hb
  have hn' : ∀ x ∈ l ++ [b], x.length ≤ 20 := by
    intro x hx
    rcases List.mem_append.mp hx with h | h
    · exact (hl x h).2
    · rw [List.mem_singleton.mp h]; exact hbl
  have hlb : (l ++ [b]).length = l.length + 1 := by simp
  have L1 := PS_le l 20 fun x hx => (hl x hx).2
  have L2 := PS_le (l ++ [b]) 20 hn'
  have L3 := PS_len l
  have L4 := PS_len (l ++ [b])
  rw [hlb] at L2
  unfold wkOk
  rw [jn_PS l b fun x hx => (hl x hx).1.1]
  refine ⟨by (first | lia | omega), by (first | lia | omega), by (first | lia | omega), ?_, by (first | lia | omega), by (first | lia | omega), ?_, ?_, ?_⟩
  · rw [← Bool.not_eq_true, sl47, starts_one]
    intro e
    exact hb.2 47 (List.mem_of_mem_head? e) rfl
  · apply str_eq
    rw [sl_to _ _ ⟨by decide, by (first | lia | omega)⟩, PS_jl]; rfl
  · intro e
    have e2 := congrArg (fun z : Str => z.cps.toList) e
    have hne : (l ++ [b]) ≠ [] := by simp
    have h2 : ∃ c r, (PS (l ++ [b])).cps.toList = 47 :: c :: r ∧ c ≠ 47 := by
      rw [PS_list _ hne]
      cases hq : l ++ [b] with
      | nil => exact absurd hq hne
      | cons a r =>
        have ⟨ha1, ha2⟩ := hn a (by rw [hq]; exact List.mem_cons_self)
        cases ha : a.cps.toList with
        | nil => exact absurd ha ha1
        | cons c r2 => exact ⟨c, r2 ++ fs r, by simp [fs, ha], ha2 c (by rw [ha]; exact List.mem_cons_self)⟩
    obtain ⟨c, r, h2, hc⟩ := h2
    rw [sl_mid _ _ _ ⟨by decide, by decide, by rw [len_list, h2]; simp; (first | lia | omega)⟩, h2] at e2
    exact hc (by simpa [sl47] using e2)
  · rw [split_tail _ (by simp) hn]
    refine ⟨by (first | lia | omega), ?_⟩
    intro i c hc
    by_cases hi : i < l.length
    · rw [List.getElem?_append_left hi] at hc
      have ⟨⟨_, g1, g2, g3⟩, _⟩ := hl c (List.mem_of_getElem? hc)
      exact ⟨g1, g2, fun e => absurd e g3⟩
    · rw [List.getElem?_append_right (by (first | lia | omega))] at hc
      have hi2 : i = l.length := by
        have := (List.getElem?_eq_some_iff.mp hc).1
        simp at this; (first | lia | omega)
      subst hi2
      have hcb : c = b := by simpa using hc.symm
      subst hcb
      refine ⟨hd.1, hd.2, fun e => ?_⟩
      rw [List.take_left, np_run l [] fun x hx => (hl x hx).1]
      rcases snoc_or l with rfl | ⟨l', d, rfl⟩
      · exact absurd rfl (hdd e)
      · exact ⟨d, by simp, (hl d (by simp)).1.2.2.2⟩

end
noncomputable section
open PySem PySem.W PyProof.Rows PySem.Calls PySem.Spec Mine PySem.Builtin PySem.Builtin.Str
noncomputable def esc : List Nat → List Nat
  | [] => []
  | c :: r => if c = 34 then 92 :: 34 :: esc r else c :: esc r
theorem esc_app : ∀ a b : List Nat, esc (a ++ b) = esc a ++ esc b
  | [], _ => rfl
  | c :: r, b => by
    have ih := esc_app r b
    simp only [List.cons_append, esc, ih]
    split <;> rfl
theorem esc_free : ∀ a : List Nat, 34 ∉ a → esc a = a
  | [], _ => rfl
  | c :: r, h => by
    simp only [esc, esc_free r fun m => h (List.mem_cons_of_mem _ m)]
    exact if_neg fun e : c = 34 => h (e ▸ List.mem_cons_self)
theorem esc_join : ∀ p : List Str, (∀ x ∈ p, 34 ∉ x.cps.toList) → esc (Str.join ⟨#[34]⟩ p).cps.toList = (Str.join ⟨#[92, 34]⟩ p).cps.toList
  | [], _ => rfl
  | [a], h => esc_free _ (h a List.mem_cons_self)
  | a :: b :: r, h => by
    have ih := esc_join (b :: r) fun x hx => h x (List.mem_cons_of_mem _ hx)
    show esc (a ++ ⟨#[34]⟩ ++ Str.join ⟨#[34]⟩ (b :: r)).cps.toList = (a ++ ⟨#[92, 34]⟩ ++ Str.join ⟨#[92, 34]⟩ (b :: r)).cps.toList
    rw [cat_list, cat_list, cat_list, cat_list, esc_app, esc_app, ih, esc_free _ (h a List.mem_cons_self)]
    rfl
theorem replace_esc (x : Str) : (Txt.replace x (Str.ofString "\"") (Str.ofString "\\\"")).cps.toList = esc x.cps.toList := by
  show (Txt.replace x ⟨#[34]⟩ ⟨#[92, 34]⟩).cps.toList = _
  rw [StrLaws.replace_one, ← esc_join _ (StrLaws.split_free x 34), StrLaws.join_split]
theorem esc_len : ∀ a : List Nat, (esc a).length ≤ 2 * a.length
  | [] => by simp [esc]
  | c :: r => by
    have := esc_len r
    simp only [esc]; split <;> simp only [List.length_cons] <;> (first | lia | omega)
noncomputable def lineL : List (Str × Nat) → List Nat
  | [] => []
  | (nm, k) :: r => 34 :: (esc nm.cps.toList ++ 34 :: 40 :: (List.replicate k 41 ++ lineL r))
structure NG (x : Str) : Prop where
  head : ∃ r, x.cps.toList = 120 :: r
  no : ∀ c ∈ x.cps.toList, c ≠ 47 ∧ c ≠ 92 ∧ c ≠ 10 ∧ c < 0x110000
  len : x.length ≤ 20
theorem NG.g {x : Str} (h : NG x) : gOk x := by
  obtain ⟨r, hr⟩ := h.head
  refine ⟨⟨by rw [hr]; simp, fun c hc => (h.no c hc).1⟩, ?_, ?_, ?_⟩ <;> intro e <;> subst e
  · exact absurd (congrArg List.head? hr) (show ¬ (none : Option Nat) = some 120 by simp)
  · exact absurd (congrArg List.head? hr) (show ¬ some 46 = some 120 by simp)
  · exact absurd (congrArg List.head? hr) (show ¬ some 46 = some 120 by simp)
theorem lex_name : ∀ (a tok R : List Nat), (∀ c ∈ a, c ≠ 92 ∧ c ≠ 10) → lexGo .q tok (esc a ++ 34 :: R) = lexGo .a (tok ++ a) R
  | [], tok, R, _ => by simp [esc, lexGo_z0, lexGo_c0, lexGo_sp, lexGo_q, lexGo_e, lexGo_a, lexGo_c, lexGo_zc]
  | c :: r, tok, R, h => by
    have ih := lex_name r (tok ++ [c]) R fun x hx => h x (List.mem_cons_of_mem _ hx)
    have ⟨h1, h2⟩ := h c List.mem_cons_self
    by_cases e : c = 34
    · subst e
      simp only [esc, if_true, List.cons_append, lexGo_z0, lexGo_c0, lexGo_sp, lexGo_q, lexGo_e, lexGo_a, lexGo_c, lexGo_zc]
      simpa using ih
    · simp only [esc, if_neg e, List.cons_append, lexGo_z0, lexGo_c0, lexGo_sp, lexGo_q, lexGo_e, lexGo_a, lexGo_c, lexGo_zc, if_neg h1, if_neg h2]
      simpa using ih
theorem lex_tok (x : Str) (k : Nat) (r : List (Str × Nat)) (h : NG x) : lexGo .sp [] (lineL ((x, k) :: r)) = some (some x.cps.toList, .sp, 40 :: (List.replicate k 41 ++ lineL r)) := by
  obtain ⟨t, ht⟩ := h.head
  have h1 := lex_name x.cps.toList [] (40 :: (List.replicate k 41 ++ lineL r)) fun c hc => ⟨(h.no c hc).2.1, (h.no c hc).2.2.1⟩
  simp only [lineL, lexGo_z0, lexGo_c0, lexGo_sp, lexGo_q, lexGo_e, lexGo_a, lexGo_c, lexGo_zc, if_true]
  rw [h1]
  simp [lexGo_z0, lexGo_c0, lexGo_sp, lexGo_q, lexGo_e, lexGo_a, lexGo_c, lexGo_zc, ht]
theorem lex_signs : ∀ (k : Nat) (tok L : List Nat), lexGo .c tok (List.replicate k 41 ++ L) = lexGo .c (tok ++ List.replicate k 41) L
  | 0, tok, L => by simp
  | k + 1, tok, L => by
    have ih := lex_signs k (tok ++ [41]) L
    simp only [List.replicate_succ, List.cons_append, lexGo_z0, lexGo_c0, lexGo_sp, lexGo_q, lexGo_e, lexGo_a, lexGo_c, lexGo_zc]
    simpa using ih
noncomputable def stF (r : List (Str × Nat)) : LS := if r = [] then .z else .sp
theorem lex_run (k : Nat) (r : List (Str × Nat)) : lexGo .sp [] (40 :: (List.replicate k 41 ++ lineL r)) = some (some (40 :: List.replicate k 41), stF r, lineL r) := by
  simp only [lexGo_z0, lexGo_c0, lexGo_sp, lexGo_q, lexGo_e, lexGo_a, lexGo_c, lexGo_zc]
  rw [if_neg (by decide), if_pos (.inl trivial), lex_signs]
  cases r with
  | nil => simp [lineL, lexGo_z0, lexGo_c0, lexGo_sp, lexGo_q, lexGo_e, lexGo_a, lexGo_c, lexGo_zc, stF]
  | cons a r => obtain ⟨nm, j⟩ := a; simp [lineL, lexGo_z0, lexGo_c0, lexGo_sp, lexGo_q, lexGo_e, lexGo_a, lexGo_c, lexGo_zc, stF]
theorem tw_all {α : Type} (p : α → Bool) : ∀ l : List α, (l.takeWhile p).length = l.length → ∀ x ∈ l, p x = true
  | [], _, _, h => absurd h (by simp)
  | a :: r, h, x, hx => by
    by_cases e : p a = true
    · rw [List.takeWhile_cons, if_pos e] at h
      rcases List.mem_cons.mp hx with rfl | hx
      · exact e
      · exact tw_all p r (by simpa using h) x hx
    · rw [List.takeWhile_cons, if_neg e] at h; simp at h
theorem strip_name (x : Str) (h : NG x) : ((Txt.stripChars x (Str.ofString "()")).length : Int) ≠ 0 := by
  obtain ⟨t, ht⟩ := h.head
  unfold Txt.stripChars
  rw [PyProof.Rows.stripBy_eq, strSub_mk, len_list]
  have hp : (Str.ofString "()").cps.contains 120 = false := by decide +kernel
  have hlo : stripLo (Str.ofString "()").cps.contains true x = 0 := by
    unfold stripLo
    rw [if_pos rfl, ht, List.takeWhile_cons, hp]; rfl
  have hhi : stripHi (Str.ofString "()").cps.contains true x 0 ≠ 0 := by
    unfold stripHi
    rw [if_pos rfl, List.drop_zero]
    intro e
    have h1 : (x.cps.toList.reverse.takeWhile (Str.ofString "()").cps.contains).length ≤ x.cps.toList.reverse.length := (List.takeWhile_sublist _).length_le
    rw [List.length_reverse, ← len_list] at h1
    have h2 := tw_all (Str.ofString "()").cps.contains x.cps.toList.reverse (by rw [List.length_reverse, ← len_list]; (first | lia | omega)) 120 (by rw [List.mem_reverse, ht]; exact List.mem_cons_self)
    rw [hp] at h2; exact Bool.false_ne_true h2
  have h3 : 1 ≤ x.cps.toList.length := by rw [ht]; simp
  rw [hlo]
  simp only [List.drop_zero, Nat.sub_zero, List.length_take]
  (first | lia | omega)
theorem strip_signs (k : Nat) : Txt.stripChars ⟨(40 :: List.replicate k 41).toArray⟩ (Str.ofString "()") = Str.ofString "" := by
  unfold Txt.stripChars
  rw [PyProof.Rows.stripBy_eq, strSub_mk]
  have hlo : stripLo (Str.ofString "()").cps.contains true ⟨(40 :: List.replicate k 41).toArray⟩ = (40 :: List.replicate k 41).length := by
    unfold stripLo
    rw [if_pos rfl]
    simp only [List.takeWhile_cons]
    rw [if_pos (by decide +kernel), List.takeWhile_replicate, if_pos (by decide +kernel)]
  rw [hlo]
  simp only [List.drop_length, List.take_nil]
  rfl

end
noncomputable section
open PySem PySem.W PyProof.Rows PySem.Calls PySem.Spec Mine PySem.Builtin PySem.Builtin.Str
structure PInv (st : PSt) : Prop where
  last : st.pls.getLast? = some (PS st.nms)
  nms : ∀ x ∈ st.nms, gOk x ∧ x.length ≤ 20
  few : st.nms.length ≤ 10
theorem np_dots (l : List Str) (hl : ∀ x ∈ l, gOk x) : npStep l (Str.ofString "..") = l.dropLast := by
  unfold npStep
  rw [if_neg (by rintro (h | h) <;> exact absurd (congrArg Str.length h) (by decide +kernel)), if_neg]
  rintro (h | h)
  · exact h rfl
  · exact (hl _ (List.mem_of_getLast? h)).2.2.2 rfl
theorem np_name (l : List Str) (x : Str) (hx : gOk x) : npStep l x = l ++ [x] := by
  unfold npStep
  rw [if_neg (by rintro (h | h); exact hx.2.1 h; exact hx.2.2.1 h), if_pos (.inl hx.2.2.2)]
theorem dots_ok : nOk (Str.ofString "..") := ⟨by decide +kernel, by decide +kernel⟩
theorem shut_inv {st : PSt} (h : PInv st) (h0 : st.nms ≠ []) : PInv (pcShut st) ∧ wkOk (PS st.nms) (Str.ofString "..") ∧ npath (jn (PS st.nms) (Str.ofString "..")) = PS st.nms.dropLast ∧ (pcShut st).pls = st.pls ++ [PS st.nms.dropLast] ∧ (pcShut st).nms = st.nms.dropLast := by
  have hg : ∀ x ∈ st.nms, gOk x := fun x hx => (h.nms x hx).1
  refine ⟨⟨by simp [pcShut, PS], fun x hx => h.nms x (List.dropLast_subset _ hx), by have := h.few; simp only [pcShut, List.length_dropLast]; omega⟩, ?_, ?_, rfl, rfl⟩
  · exact wk_ok _ _ h.nms (by have := h.few; omega) dots_ok (by decide +kernel) ⟨by decide +kernel, by decide +kernel⟩ fun _ => h0
  · rw [jn_PS _ _ fun x hx => (hg x hx).1, npath_PS _ _ hg dots_ok, np_dots _ hg]
theorem open_inv {st : PSt} (h : PInv st) (x : Str) (hx : NG x) (hf : st.nms.length ≤ 9) : PInv (pcOpen st x) ∧ wkOk (PS st.nms) x ∧ npath (jn (PS st.nms) x) = PS (st.nms ++ [x]) ∧ (pcOpen st x).pls = st.pls ++ [PS (st.nms ++ [x])] ∧ (pcOpen st x).nms = st.nms ++ [x] := by
  have hg : ∀ x ∈ st.nms, gOk x := fun x hx => (h.nms x hx).1
  have gx := hx.g
  refine ⟨⟨by simp [pcOpen, PS], fun y hy => ?_, by simp only [pcOpen, List.length_append, List.length_singleton]; (first | lia | omega)⟩, ?_, ?_, rfl, rfl⟩
  · rcases List.mem_append.mp hy with hy | hy
    · exact h.nms y hy
    · rw [List.mem_singleton.mp hy]; exact ⟨gx, hx.len⟩
  · exact wk_ok _ _ h.nms (by (first | lia | omega)) gx.1 hx.len ⟨gx.2.1, gx.2.2.1⟩ fun e => absurd e gx.2.2.2
  · rw [jn_PS _ _ fun x hx => (hg x hx).1, npath_PS _ _ hg gx.1, np_name _ _ gx]
theorem shuts_run (name : Str) : ∀ (k : Nat) (st : PSt), PInv st → k ≤ st.nms.length → st.pls.length + k ≤ 500 → wkSigns st.pls name (List.replicate k 41) (shuts k st).pls ∧ PInv (shuts k st) ∧ (shuts k st).nms.length = st.nms.length - k ∧ (shuts k st).pls.length = st.pls.length + k
  | 0, st, h, _, _ => ⟨rfl, h, rfl, rfl⟩
  | k + 1, st, h, hk, hl => by
    have h0 : st.nms ≠ [] := by intro e; rw [e] at hk; simp at hk
    obtain ⟨i1, i2, i3, i4, i5⟩ := shut_inv h h0
    have l4 : (pcShut st).pls.length = st.pls.length + 1 := by rw [i4]; simp
    have l5 : (pcShut st).nms.length = st.nms.length - 1 := by rw [i5]; simp
    obtain ⟨j1, j2, j3, j4⟩ := shuts_run name k (pcShut st) i1 (by rw [l5]; exact Nat.le_sub_one_of_lt hk) (by rw [l4, Nat.add_assoc, Nat.add_comm 1 k]; exact hl)
    refine ⟨?_, j2, by show (shuts k (pcShut st)).nms.length = _; rw [j3, l5, Nat.sub_sub, Nat.add_comm 1 k], by show (shuts k (pcShut st)).pls.length = _; rw [j4, l4, Nat.add_assoc, Nat.add_comm 1 k]⟩
    rw [List.replicate_succ]
    refine ⟨.inr rfl, by (first | lia | omega), PS st.nms, h.last, ?_⟩
    rw [if_neg (by decide), i3, ← i4]
    exact ⟨i2, j1⟩
theorem signs_run (x : Str) (hx : NG x) (k : Nat) (st : PSt) (h : PInv st) (hf : st.nms.length ≤ 9) (hk : k ≤ st.nms.length + 1) (hl : st.pls.length + k ≤ 499) : wkSigns st.pls x (40 :: List.replicate k 41) (shuts k (pcOpen st x)).pls ∧ PInv (shuts k (pcOpen st x)) ∧ (shuts k (pcOpen st x)).nms.length = st.nms.length + 1 - k ∧ (shuts k (pcOpen st x)).pls.length = st.pls.length + 1 + k := by
  obtain ⟨i1, i2, i3, i4, i5⟩ := open_inv h x hx hf
  have l4 : (pcOpen st x).pls.length = st.pls.length + 1 := by rw [i4]; simp
  have l5 : (pcOpen st x).nms.length = st.nms.length + 1 := by rw [i5]; simp
  obtain ⟨j1, j2, j3, j4⟩ := shuts_run x k (pcOpen st x) i1 (by rw [l5]; exact hk) (by (first | lia | omega))
  refine ⟨⟨.inl rfl, by (first | lia | omega), PS st.nms, h.last, ?_⟩, j2, by first | (rw [j3, l5]; done) | (first | lia | omega), by first | (rw [j4, l4]; done) | (rw [j4, l4, Nat.add_right_comm]; done) | (rw [j4, l4, Nat.add_assoc, Nat.add_comm 1 k]; done) | (first | lia | omega)⟩
  rw [if_pos rfl, i3, ← i4]
  exact ⟨i2, j1⟩
noncomputable def runSt : PSt → List (Str × Nat) → PSt
  | st, [] => st
  | st, (x, k) :: r => runSt (shuts k (pcOpen st x)) r
noncomputable def okSegs : Nat → List (Str × Nat) → Prop
  | _, [] => True
  | d, (x, k) :: r => NG x ∧ k ≤ d + 1 ∧ okSegs (d + 1 - k) r
theorem run_ok : ∀ (l : List (Str × Nat)) (st : PSt) (name : Str), PInv st → okSegs st.nms.length l → st.nms.length + l.length ≤ 9 → st.pls.length + 11 * l.length ≤ 480 → 
    ∃ res s r, lexGo (stF l) [] (lineL l) = some (res, s, r) ∧ wkRun (2 * l.length) res s r st.pls name (runSt st l).pls
  | [], st, name, h, _, _, _ => ⟨none, .z, [], rfl, rfl⟩
  | (x, k) :: l, st, name, h, ⟨hx, hk, ho⟩, hd, hp => by
    simp only [List.length_cons] at hd hp
    obtain ⟨j1, j2, j3, j4⟩ := signs_run x hx k st h (by (first | lia | omega)) hk (by (first | lia | omega))
    obtain ⟨res, s, r, e1, e2⟩ := run_ok l (shuts k (pcOpen st x)) x j2 (by rw [j3]; exact ho) (by (first | lia | omega)) (by (first | lia | omega))
    have hst : stF ((x, k) :: l) = .sp := by simp [stF]
    have hxl := hx.len
    rw [len_list] at hxl
    refine ⟨_, _, _, by rw [hst]; exact lex_tok x k l hx, ?_⟩
    show wkRun (2 * l.length + 1 + 1) _ _ _ _ _ _
    refine ⟨.inl rfl, by (first | lia | omega), _, _, _, lex_run k l, .inl ⟨?_, ?_, ?_⟩⟩
    · exact strip_name x hx
    · have := len_stripChars (⟨x.cps.toList.toArray⟩ : Str) (Str.ofString "()")
      rw [len_list ⟨x.cps.toList.toArray⟩] at this
      simp only [] at this
      (first | lia | omega)
    · refine ⟨by unfold stF; split <;> simp, by simp only [List.length_cons, List.length_replicate]; (first | lia | omega), res, s, r, e1, .inr ⟨strip_signs k, _, ?_, e2⟩⟩
      exact j1

end
noncomputable section
open PySem PySem.W PyProof.Rows PySem.Calls PySem.Spec Mine PySem.Builtin PySem.Builtin.Str
noncomputable def flat (l : List Str) : List Nat := (l.map fun x => x.cps.toList).flatten
theorem flat_app (a b : List Str) : flat (a ++ b) = flat a ++ flat b := by simp [flat]
theorem flat_one (a : Str) : flat [a] = a.cps.toList := by simp [flat]
theorem join_flat : ∀ l : List Str, (Str.join (Str.ofString "") l).cps.toList = flat l
  | [] => rfl
  | [a] => by simp [Str.join, flat]
  | a :: b :: r => by
    have ih := join_flat (b :: r)
    show (a ++ Str.ofString "" ++ Str.join (Str.ofString "") (b :: r)).cps.toList = _
    rw [cat_list, cat_list, ih]
    simp [flat]; rfl
theorem shuts_pcs : ∀ (k : Nat) (st : PSt), flat (shuts k st).pcs = flat st.pcs ++ List.replicate k 41
  | 0, st => by simp [shuts]
  | k + 1, st => by
    show flat (shuts k (pcShut st)).pcs = _
    rw [shuts_pcs k (pcShut st)]
    simp only [pcShut]
    rw [flat_app, flat_one, List.append_assoc, List.replicate_succ]; rfl
theorem open_pcs (st : PSt) (x : Str) : flat (pcOpen st x).pcs = flat st.pcs ++ 34 :: (esc x.cps.toList ++ [34, 40]) := by
  simp only [pcOpen]
  rw [flat_app, flat_one, cat_list, cat_list, replace_esc]; simp
  rfl
theorem run_pcs : ∀ (l : List (Str × Nat)) (st : PSt), flat (runSt st l).pcs = flat st.pcs ++ lineL l
  | [], st => by simp [runSt, lineL]
  | (x, k) :: l, st => by
    show flat (runSt (shuts k (pcOpen st x)) l).pcs = _
    rw [run_pcs l, shuts_pcs, open_pcs]
    simp [lineL]
noncomputable def ringL : List (Str × Nat) → List Nat
  | [] => []
  | (_, k) :: r => 40 :: (List.replicate k 41 ++ ringL r)
theorem ss_other (x : Str) (st : StripSt) (i : Int) (y : Str) (h : y ≠ S "\"") : stripStep x st (i, y) = st := by
  unfold stripStep; rw [if_neg h]
theorem ne_q {c : Nat} (h : c ≠ 34) : (⟨#[c]⟩ : Str) ≠ S "\"" := by
  intro e
  exact h (Option.some.inj (show some c = some 34 from congrArg (fun z : Str => z.cps.toList.head?) e))
theorem ss_name (x : Str) : ∀ (a R : List Nat) (st : StripSt) (i : Nat), (∀ c ∈ a, c ≠ 92) → (escGo i false (esc a ++ 34 :: R)).foldl (stripStep x) st = (escGo (i + (esc a).length + 1) false R).foldl (stripStep x) (stripStep x st (((i + (esc a).length : Nat) : Int), S "\""))
  | [], R, st, i, _ => by
    simp only [esc, List.nil_append, escGo]
    rw [if_neg (by decide), List.foldl_cons]; rfl
  | c :: r, R, st, i, h => by
    have h1 := h c List.mem_cons_self
    have h2 : ∀ c ∈ r, c ≠ 92 := fun y hy => h y (List.mem_cons_of_mem _ hy)
    by_cases e : c = 34
    · subst e
      have ih := ss_name x r R st (i + 1 + 1) h2
      simp only [esc, if_true, List.cons_append, escGo, List.foldl_cons, List.length_cons]
      rw [ss_other _ _ _ _ (by decide +kernel), ih]
      rw [show i + ((esc r).length + 1 + 1) = i + 1 + 1 + (esc r).length by (first | lia | omega)]
    · have ih := ss_name x r R st (i + 1) h2
      simp only [esc, if_neg e, List.cons_append, escGo, if_neg h1, List.foldl_cons, List.length_cons]
      rw [ss_other _ _ _ _ (ne_q e), ih]
      rw [show i + ((esc r).length + 1) = i + 1 + (esc r).length by (first | lia | omega)]
theorem ss_signs (x : Str) : ∀ (a R : List Nat) (st : StripSt) (i : Nat), (∀ c ∈ a, c = 40 ∨ c = 41) → (escGo i false (a ++ R)).foldl (stripStep x) st = (escGo (i + a.length) false R).foldl (stripStep x) st
  | [], R, st, i, _ => rfl
  | c :: r, R, st, i, h => by
    have h1 := h c List.mem_cons_self
    have ih := ss_signs x r R st (i + 1) fun y hy => h y (List.mem_cons_of_mem _ hy)
    simp only [List.cons_append, escGo, List.length_cons]
    rw [if_neg (by (first | lia | omega)), List.foldl_cons, ss_other _ _ _ _ (ne_q (by (first | lia | omega))), ih]
    rw [show i + (r.length + 1) = i + 1 + r.length by (first | lia | omega)]
theorem sign_run (k : Nat) : ∀ c ∈ 40 :: List.replicate k 41, c = 40 ∨ c = 41 := by
  intro c hc
  rcases List.mem_cons.mp hc with h | h
  · exact .inl h
  · exact .inr (List.eq_of_mem_replicate h)
theorem strip_run (x : Str) : ∀ (l : List (Str × Nat)) (pre : List Nat) (a : Nat) (res : List Str), (∀ s ∈ l, ∀ c ∈ s.1.cps.toList, c ≠ 92) → x.cps.toList = pre ++ lineL l → a ≤ pre.length →
    ∃ (b : Nat) (res' : List Str), (escGo pre.length false (lineL l)).foldl (stripStep x) ⟨a, none, res⟩ = ⟨b, none, res'⟩ ∧ b ≤ x.length ∧ flat res' ++ x.cps.toList.drop b = flat res ++ pre.drop a ++ ringL l
  | [], pre, a, res, _, hx, ha => by
    refine ⟨a, res, rfl, ?_, ?_⟩
    · rw [len_list, hx]; simp [lineL]; exact ha
    · rw [hx]; simp [lineL, ringL]
  | (nm, k) :: l, pre, a, res, hn, hx, ha => by
    have hxl : x.length = pre.length + (lineL ((nm, k) :: l)).length := by rw [len_list, hx, List.length_append]
    have hpl : (lineL ((nm, k) :: l)).length = 1 + (esc nm.cps.toList).length + 1 + 1 + k + (lineL l).length := by
      simp only [lineL, List.length_cons, List.length_append, List.length_replicate]; (first | lia | omega)
    have e0 : (escGo pre.length false (lineL ((nm, k) :: l))).foldl (stripStep x) ⟨a, none, res⟩ = (escGo (pre.length + 1) false (esc nm.cps.toList ++ 34 :: 40 :: (List.replicate k 41 ++ lineL l))).foldl (stripStep x) ⟨a, some (pre.length : Int), res⟩ := by
      simp only [lineL, escGo]
      rw [if_neg (by decide), List.foldl_cons]; rfl
    rw [e0, ss_name x _ _ _ _ (hn _ List.mem_cons_self)]
    have e1 : stripStep x ⟨a, some (pre.length : Int), res⟩ (((pre.length + 1 + (esc nm.cps.toList).length : Nat) : Int), S "\"") = ⟨((pre.length + 1 + (esc nm.cps.toList).length + 1 : Nat) : Int), none, if (a : Int) ≠ (pre.length : Int) then res ++ [Txt.slice x (some (a : Int)) (some (pre.length : Int))] else res⟩ := by
      unfold stripStep; rw [if_pos rfl]; rfl
    rw [e1]
    have e2 := ss_signs x (40 :: List.replicate k 41) (lineL l) ⟨((pre.length + 1 + (esc nm.cps.toList).length + 1 : Nat) : Int), none, if (a : Int) ≠ (pre.length : Int) then res ++ [Txt.slice x (some (a : Int)) (some (pre.length : Int))] else res⟩ (pre.length + 1 + (esc nm.cps.toList).length + 1) (sign_run k)
    rw [List.cons_append] at e2
    rw [e2]
    have hpre' : (pre ++ 34 :: (esc nm.cps.toList ++ 34 :: 40 :: List.replicate k 41)).length = pre.length + 1 + (esc nm.cps.toList).length + 1 + (40 :: List.replicate k 41).length := by
      simp only [List.length_append, List.length_cons, List.length_replicate]; (first | lia | omega)
    rw [← hpre']
    obtain ⟨b, res', i1, i2, i3⟩ := strip_run x l (pre ++ 34 :: (esc nm.cps.toList ++ 34 :: 40 :: List.replicate k 41)) (pre.length + 1 + (esc nm.cps.toList).length + 1) (if (a : Int) ≠ (pre.length : Int) then res ++ [Txt.slice x (some (a : Int)) (some (pre.length : Int))] else res) (fun s hs => hn s (List.mem_cons_of_mem _ hs)) (by rw [hx]; simp [lineL]) (by rw [hpre']; (first | lia | omega))
    refine ⟨b, res', i1, i2, i3.trans ?_⟩
    have e3 : (pre ++ 34 :: (esc nm.cps.toList ++ 34 :: 40 :: List.replicate k 41)).drop (pre.length + 1 + (esc nm.cps.toList).length + 1) = 40 :: List.replicate k 41 := by
      rw [show pre ++ 34 :: (esc nm.cps.toList ++ 34 :: 40 :: List.replicate k 41) = (pre ++ 34 :: (esc nm.cps.toList ++ [34])) ++ 40 :: List.replicate k 41 by simp]
      rw [List.drop_append_of_le_length (by simp; (first | lia | omega)), List.drop_of_length_le (by simp; (first | lia | omega))]; rfl
    have e4 : flat (if (a : Int) ≠ (pre.length : Int) then res ++ [Txt.slice x (some (a : Int)) (some (pre.length : Int))] else res) = flat res ++ pre.drop a := by
      split
      · rw [flat_app, flat_one, sl_mid _ _ _ ⟨Int.natCast_nonneg a, Int.ofNat_le.mpr ha, Int.ofNat_le.mpr (hxl ▸ Nat.le_add_right _ _)⟩, hx]
        congr 1
        rw [Int.toNat_natCast, List.drop_append_of_le_length ha, List.take_append_of_le_length (by simp), List.take_of_length_le (by simp)]
      · rename_i h
        have : a = pre.length := Int.ofNat_inj.mp (Decidable.not_not.mp h)
        rw [this]; simp
    rw [e3, e4]
    simp [ringL]
theorem no_q_strip (x : Str) (h : 34 ∉ x.cps.toList) : stripped x = x := by
  unfold stripped
  have e := StrLaws.found_one x 34
  rw [decide_eq_false h] at e
  have e' : (occurrences x ⟨#[34]⟩ 0 x.length 1).isEmpty = true := by simpa using e
  exact if_pos e'
theorem stripped_line (x : Str) (l : List (Str × Nat)) (h0 : l ≠ []) (hn : ∀ s ∈ l, NG s.1) (hx : x.cps.toList = lineL l) : (stripped x).cps.toList = ringL l := by
  have hm : 34 ∈ x.cps.toList := by
    rw [hx]
    match l, h0 with
    | (a, b) :: r, _ => exact List.mem_cons_self
  unfold stripped
  have e := StrLaws.found_one x 34
  rw [decide_eq_true hm] at e
  have e' : (occurrences x (S "\"") 0 x.length 1).isEmpty = false := by
    have : (occurrences x ⟨#[34]⟩ 0 x.length 1).isEmpty = false := by simpa using e
    exact this
  rw [if_neg (by rw [e']; exact Bool.false_ne_true), join_eq]
  show (Str.join (Str.ofString "") (stripRes x)).cps.toList = _
  rw [join_flat]
  obtain ⟨b, res', i1, i2, i3⟩ := strip_run x l [] 0 [] (fun s hs c hc => ((hn s hs).no c hc).2.1) (by rw [hx]; rfl) (Nat.le_refl _)
  have e3 : stripEnd x = ⟨b, none, res'⟩ := by unfold stripEnd escs; rw [hx]; exact i1
  unfold stripRes
  rw [e3]
  simp only []
  rw [show flat [] ++ List.drop 0 ([] : List Nat) ++ ringL l = ringL l from rfl] at i3
  rw [← i3]
  split
  · rw [flat_app, flat_one, sl_from _ _ ⟨by (first | lia | omega), by (first | lia | omega)⟩, Int.toNat_natCast]
  · rw [List.drop_of_length_le (by rw [← len_list]; (first | lia | omega))]; simp

end
noncomputable section
open PySem PySem.W PyProof.Rows PySem.Calls PySem.Spec Mine PySem.Builtin PySem.Builtin.Str
noncomputable def NI (nm : Nat → Str) : Prop := ∀ i, i < 4 → NG (nm i) ∧ ∃ r, (nm i).cps.toList = 120 :: (97 + i) :: r
noncomputable def ltI : List Nat → List Nat → Bool
  | [], [] => false
  | [], _ :: _ => true
  | _ :: _, [] => false
  | a :: x, b :: y => if a = b then ltI x y else decide (a < b)
noncomputable def cpI : List Nat → List Nat → Nat
  | a :: x, b :: y => if a = b then cpI x y + 1 else 0
  | _, _ => 0
noncomputable def L4 (l : List Nat) : Prop := ∀ i ∈ l, i < 4
noncomputable def Pt (nm : Nat → Str) (l : List Nat) : Str := PS (l.map nm)
theorem lt_pre : ∀ (p x y : List Nat), p ++ x < p ++ y ↔ x < y
  | [], _, _ => Iff.rfl
  | a :: p, x, y => by
    rw [List.cons_append, List.cons_append, List.cons_lt_cons_iff, lt_pre p x y]
    constructor
    · rintro (h | h)
      · exact absurd h (Nat.lt_irrefl a)
      · exact h.2
    · exact fun h => .inr ⟨rfl, h⟩
section
variable {nm : Nat → Str} (hN : NI nm)
include hN
theorem nm_inj {i j : Nat} (hi : i < 4) (hj : j < 4) (e : nm i = nm j) : i = j := by
  obtain ⟨_, r, hr⟩ := hN i hi
  obtain ⟨_, r', hr'⟩ := hN j hj
  rw [e, hr'] at hr
  simp only [List.cons.injEq, true_and] at hr
  (first | lia | omega)
theorem nm_lt {i j : Nat} (hi : i < 4) (hj : j < 4) (e : i ≠ j) (x y : List Nat) : (nm i).cps.toList ++ x < (nm j).cps.toList ++ y ↔ i < j := by
  obtain ⟨_, r, hr⟩ := hN i hi
  obtain ⟨_, r', hr'⟩ := hN j hj
  rw [hr, hr']
  simp only [List.cons_append]
  rw [List.cons_lt_cons_iff, List.cons_lt_cons_iff]
  (first | lia | omega)
theorem L4.g {l : List Nat} (h : L4 l) : ∀ x ∈ l.map nm, gOk x := by
  intro x hx
  obtain ⟨i, hi, rfl⟩ := List.mem_map.mp hx
  exact (hN i (h i hi)).1.g
theorem L4.n {l : List Nat} (h : L4 l) : ∀ x ∈ l.map nm, nOk x := fun x hx => (L4.g hN h x hx).1
theorem fs_lt : ∀ (a b : List Nat), L4 a → L4 b → (fs (a.map nm) < fs (b.map nm) ↔ ltI a b = true)
  | [], [], _, _ => by simp [fs, ltI]
  | [], b :: y, _, _ => by simp [fs, ltI]
  | a :: x, [], _, _ => by simp [fs, ltI]
  | a :: x, b :: y, ha, hb => by
    have ih := fs_lt x y (fun i hi => ha i (List.mem_cons_of_mem _ hi)) (fun i hi => hb i (List.mem_cons_of_mem _ hi))
    show 47 :: ((nm a).cps.toList ++ fs (x.map nm)) < 47 :: ((nm b).cps.toList ++ fs (y.map nm)) ↔ _
    rw [List.cons_lt_cons_iff]
    unfold ltI
    by_cases e : a = b
    · subst e
      rw [if_pos rfl, lt_pre, ih]; simp
    · rw [if_neg e, nm_lt hN (ha a List.mem_cons_self) (hb b List.mem_cons_self) e]; simp
theorem Pt_lt (a b : List Nat) (ha : L4 a) (hb : L4 b) : lt2 (Pt nm a) (Pt nm b) ↔ ltI a b = true := by
  show (PS (a.map nm)).cps.toList < (PS (b.map nm)).cps.toList ↔ _
  match a, b with
  | [], [] =>
    simp [ltI]
  | [], b :: y =>
    rw [PS_list ((b :: y).map nm) (by simp), show (PS (([] : List Nat).map nm)).cps.toList = [47] from congrArg (fun z : Str => z.cps.toList) PS_nil]
    obtain ⟨_, r, hr⟩ := hN b (hb b List.mem_cons_self)
    show [47] < 47 :: ((nm b).cps.toList ++ fs (y.map nm)) ↔ _
    rw [hr]; simp [ltI]
  | a :: x, [] =>
    rw [PS_list ((a :: x).map nm) (by simp), show (PS (([] : List Nat).map nm)).cps.toList = [47] from congrArg (fun z : Str => z.cps.toList) PS_nil]
    obtain ⟨_, r, hr⟩ := hN a (ha a List.mem_cons_self)
    show 47 :: ((nm a).cps.toList ++ fs (x.map nm)) < [47] ↔ _
    rw [hr]; simp [ltI]
  | a :: x, b :: y => rw [PS_list _ (by simp), PS_list _ (by simp), fs_lt hN _ _ ha hb]
theorem ltLs_I : ∀ (a b : List Nat), L4 a → L4 b → ltLs (a.map nm) (b.map nm) = ltI a b
  | [], [], _, _ => rfl
  | [], b :: y, _, _ => rfl
  | a :: x, [], _, _ => rfl
  | a :: x, b :: y, ha, hb => by
    have ih := ltLs_I x y (fun i hi => ha i (List.mem_cons_of_mem _ hi)) (fun i hi => hb i (List.mem_cons_of_mem _ hi))
    have ha' := ha a List.mem_cons_self
    have hb' := hb b List.mem_cons_self
    simp only [List.map_cons, ltLs, ltI, ih]
    by_cases e : a = b
    · subst e; rw [if_pos rfl, if_pos rfl]
    · rw [if_neg e, if_neg fun h => e (nm_inj hN ha' hb' h)]
      have := nm_lt hN ha' hb' e [] []
      rw [List.append_nil, List.append_nil] at this
      exact decide_eq_decide.mpr this
theorem gtLs_I : ∀ (a b : List Nat), L4 a → L4 b → gtLs (a.map nm) (b.map nm) = ltI b a
  | [], [], _, _ => rfl
  | [], b :: y, _, _ => rfl
  | a :: x, [], _, _ => rfl
  | a :: x, b :: y, ha, hb => by
    have ih := gtLs_I x y (fun i hi => ha i (List.mem_cons_of_mem _ hi)) (fun i hi => hb i (List.mem_cons_of_mem _ hi))
    have ha' := ha a List.mem_cons_self
    have hb' := hb b List.mem_cons_self
    simp only [List.map_cons, gtLs, ltI, ih]
    by_cases e : a = b
    · subst e; rw [if_pos rfl, if_pos rfl]
    · rw [if_neg fun h => e (nm_inj hN ha' hb' h), if_neg (fun h : b = a => e h.symm)]
      have := nm_lt hN hb' ha' (fun h => e h.symm) [] []
      rw [List.append_nil, List.append_nil] at this
      exact decide_eq_decide.mpr this
end
theorem ltI_asym : ∀ a b : List Nat, ltI a b = true → ltI b a = false
  | [], [], h => rfl
  | [], _ :: _, _ => rfl
  | _ :: _, [], h => absurd h (by simp [ltI])
  | a :: x, b :: y, h => by
    unfold ltI at h ⊢
    by_cases e : a = b
    · subst e; rw [if_pos rfl] at h ⊢; exact ltI_asym x y h
    · rw [if_neg e] at h; rw [if_neg fun h => e h.symm]
      simp at h ⊢; (first | lia | omega)
theorem parts_PS (l : List Str) (hl : ∀ x ∈ l, gOk x) : parts (PS l) = l := by
  unfold parts
  by_cases h0 : l = []
  · subst h0; rw [PS_nil]; decide +kernel
  · have e : PS l = Str.join ⟨#[47]⟩ (Str.ofString "" :: l) := by
      apply str_eq
      rw [PS_jl, join_list]
      match l, h0 with
      | a :: r, _ => rfl
    rw [e, show S "/" = ⟨#[47]⟩ from rfl, split_join 47 _ (by simp) (by
      intro x hx
      rcases List.mem_cons.mp hx with rfl | hx
      · exact List.not_mem_nil
      · exact nOk_no (hl x hx).1)]
    rw [List.filter_cons_of_neg (by decide +kernel), List.filter_eq_self.mpr]
    intro x hx
    have ⟨_, h1, h2, _⟩ := hl x hx
    simp only [Bool.and_eq_true, bne_iff_ne]
    exact ⟨h1, h2⟩
theorem cnt_no (c : Nat) : ∀ l : List Nat, c ∉ l → cnt c l = 0
  | [], _ => rfl
  | a :: r, h => by
    rw [cnt_cons, cnt_no c r fun m => h (List.mem_cons_of_mem _ m), if_neg fun e : a = c => h (e ▸ List.mem_cons_self)]; rfl
theorem cnt_cat (c : Nat) : ∀ a b : List Nat, cnt c (a ++ b) = cnt c a + cnt c b
  | [], b => by rw [List.nil_append, cnt_nil, Int.zero_add]
  | x :: r, b => by rw [List.cons_append, cnt_cons, cnt_cons, cnt_cat c r b, Int.add_assoc]
theorem cnt_fs : ∀ l : List Str, (∀ x ∈ l, nOk x) → cnt 47 (fs l) = (l.length : Int)
  | [], _ => rfl
  | a :: r, h => by
    have ih := cnt_fs r fun x hx => h x (List.mem_cons_of_mem _ hx)
    show cnt 47 (47 :: (a.cps.toList ++ fs r)) = _
    rw [cnt_cons, cnt_cat, ih, cnt_no _ _ (nOk_no (h a List.mem_cons_self)), if_pos rfl, List.length_cons]
    (first | lia | omega)
theorem beyond_PS (c r : List Str) (hc : ∀ x ∈ c ++ r, nOk x) : beyond ((fs c).length : Int) (PS (c ++ r)) = (r.length : Int) := by
  unfold beyond
  rw [sl47, count_cnt]
  rw [← sl47, sl_from _ _ ⟨by (first | lia | omega), by rw [len_list, rs_PS _ hc, fs_app, List.length_append]; (first | lia | omega)⟩, rs_PS _ hc, fs_app, Int.toNat_natCast, List.drop_left, cnt_fs _ fun x hx => hc x (List.mem_append_right _ hx)]
theorem cpre_split : ∀ a b : List Str, ∃ r r', a = cpre a b ++ r ∧ b = cpre a b ++ r'
  | [], b => ⟨[], b, rfl, by simp [cpre]⟩
  | a :: x, [] => ⟨a :: x, [], by simp [cpre], by simp [cpre]⟩
  | a :: x, b :: y => by
    unfold cpre
    by_cases e : a = b
    · subst e
      obtain ⟨r, r', h1, h2⟩ := cpre_split x y
      rw [if_pos rfl]
      exact ⟨r, r', by rw [List.cons_append, ← h1], by rw [List.cons_append, ← h2]⟩
    · rw [if_neg e]; exact ⟨_, _, rfl, rfl⟩
theorem steps_PS (a b : List Str) (ha : ∀ x ∈ a, gOk x) (hb : ∀ x ∈ b, gOk x) : stepsOf (PS a) (PS b) = ((a.length : Int) - (cpre a b).length) + ((b.length : Int) - (cpre a b).length) := by
  obtain ⟨r, r', h1, h2⟩ := cpre_split a b
  have hsh : sharedOf (PS a) (PS b) = ((fs (cpre a b)).length : Int) := by
    unfold sharedOf cpath
    rw [parts_PS a ha, parts_PS b hb]
    show ((Txt.rstripChars (PS (cpre a b)) (Str.ofString "/")).length : Int) = _
    rw [len_list, rs_PS _ fun x hx => (ha x (by rw [h1]; exact List.mem_append_left _ hx)).1]
  unfold stepsOf
  rw [hsh]
  have b1 := beyond_PS (cpre a b) r (by rw [← h1]; exact fun x hx => (ha x hx).1)
  have b2 := beyond_PS (cpre a b) r' (by rw [← h2]; exact fun x hx => (hb x hx).1)
  rw [← h1] at b1
  rw [← h2] at b2
  rw [b1, b2]
  have l1 := congrArg List.length h1
  have l2 := congrArg List.length h2
  rw [List.length_append] at l1 l2
  (first | lia | omega)
noncomputable def adist (a b : List Nat) : Int := ((a.length : Int) - cpI a b) + ((b.length : Int) - cpI a b)
theorem cpI_comm : ∀ a b : List Nat, cpI a b = cpI b a
  | [], [] => rfl
  | [], _ :: _ => rfl
  | _ :: _, [] => rfl
  | a :: x, b :: y => by
    unfold cpI
    by_cases e : a = b
    · subst e; rw [if_pos rfl, if_pos rfl, cpI_comm x y]
    · rw [if_neg e, if_neg fun h => e h.symm]
theorem cpI_self : ∀ a : List Nat, cpI a a = a.length
  | [] => rfl
  | a :: x => by unfold cpI; rw [if_pos rfl, cpI_self x]; rfl
section
variable {nm : Nat → Str} (hN : NI nm)
include hN
theorem cpre_I : ∀ (a b : List Nat), L4 a → L4 b → (cpre (a.map nm) (b.map nm)).length = cpI a b
  | [], [], _, _ => rfl
  | [], b :: y, _, _ => rfl
  | a :: x, [], _, _ => rfl
  | a :: x, b :: y, ha, hb => by
    have ih := cpre_I x y (fun i hi => ha i (List.mem_cons_of_mem _ hi)) (fun i hi => hb i (List.mem_cons_of_mem _ hi))
    simp only [List.map_cons, cpre, cpI]
    by_cases e : a = b
    · subst e; rw [if_pos rfl, if_pos rfl, List.length_cons, ih]
    · rw [if_neg e, if_neg fun h => e (nm_inj hN (ha a List.mem_cons_self) (hb b List.mem_cons_self) h)]; rfl
theorem map_nm_inj : ∀ (a b : List Nat), L4 a → L4 b → a.map nm = b.map nm → a = b
  | [], [], _, _, _ => rfl
  | [], b :: y, _, _, h => by simp at h
  | a :: x, [], _, _, h => by simp at h
  | a :: x, b :: y, ha, hb, h => by
    simp only [List.map_cons, List.cons.injEq] at h
    rw [nm_inj hN (ha a List.mem_cons_self) (hb b List.mem_cons_self) h.1, map_nm_inj x y (fun i hi => ha i (List.mem_cons_of_mem _ hi)) (fun i hi => hb i (List.mem_cons_of_mem _ hi)) h.2]
theorem Pt_inj (a b : List Nat) (ha : L4 a) (hb : L4 b) (h : Pt nm a = Pt nm b) : a = b := by
  have := congrArg parts h
  unfold Pt at this
  rw [parts_PS _ (L4.g hN ha), parts_PS _ (L4.g hN hb)] at this
  exact map_nm_inj hN a b ha hb this
theorem dist_I (a b : List Nat) (ha : L4 a) (hb : L4 b) : dist (Pt nm a) (Pt nm b) = adist a b := by
  have h1 : ∀ a b, L4 a → L4 b → stepsOf (Pt nm a) (Pt nm b) = adist a b := by
    intro a b ha hb
    unfold Pt
    rw [steps_PS _ _ (L4.g hN ha) (L4.g hN hb), cpre_I hN a b ha hb, List.length_map, List.length_map]; rfl
  unfold dist
  by_cases e : Pt nm a = Pt nm b
  · rw [if_pos e, Pt_inj hN a b ha hb e]
    unfold adist
    rw [cpI_self]; (first | lia | omega)
  · rw [if_neg e]
    split
    · exact h1 a b ha hb
    · rw [h1 b a hb ha]; unfold adist; rw [cpI_comm b a]; (first | lia | omega)
theorem steps_I (a b : List Nat) (ha : L4 a) (hb : L4 b) (la : a.length ≤ 10) (lb : b.length ≤ 10) (h : lt2 (Pt nm a) (Pt nm b)) : stepsPre (Pt nm a) (Pt nm b) := by
  have h1 := (Pt_lt hN a b ha hb).mp h
  have hl : ∀ {l : List Nat}, L4 l → l.length ≤ 10 → (Pt nm l).length ≤ 900 := by
    intro l h4 hl
    have := PS_le (l.map nm) 20 (by
      intro x hx
      obtain ⟨i, hi, rfl⟩ := List.mem_map.mp hx
      exact (hN i (h4 i hi)).1.len)
    rw [List.length_map] at this
    unfold Pt; (first | lia | omega)
  refine ⟨hl ha la, hl hb lb, PS_starts _, PS_starts _, ?_, ?_⟩
  · unfold Pt
    rw [parts_PS _ (L4.g hN ha), parts_PS _ (L4.g hN hb), ltLs_I hN _ _ hb ha, ltI_asym _ _ h1]
  · unfold Pt
    rw [parts_PS _ (L4.g hN ha), parts_PS _ (L4.g hN hb), gtLs_I hN _ _ hb ha, h1]
end

end
noncomputable section
open PySem PySem.W PyProof.Rows PySem.Calls PySem.Spec Mine PySem.Builtin PySem.Builtin.Str
noncomputable def aShuts : Nat → List (List Nat) × List Nat → List (List Nat) × List Nat
  | 0, st => st
  | k + 1, st => aShuts k (st.1 ++ [st.2.dropLast], st.2.dropLast)
noncomputable def aRun : Nat → List Nat → List (List Nat) × List Nat → List (List Nat) × List Nat
  | _, [], st => st
  | i, k :: r, st => aRun (i + 1) r (aShuts k (st.1 ++ [st.2 ++ [i]], st.2 ++ [i]))
noncomputable def ringK : List Nat → List Nat
  | [] => []
  | k :: r => 40 :: (List.replicate k 41 ++ ringK r)
noncomputable def rowA {α : Type} (l : List α) (k : Nat) : List α := (l.drop k).take (8 - k) ++ l.take (k + 1)
noncomputable def rowsOk (a : List (List Nat)) (ring : Str) : Nat → Nat → Str → Bool
  | 0, _, x => x == ring
  | n + 1, k, x => decide (x.length ≤ 8) && x == seen ((rowA a k).map (adist (a.getD k []))) && checked (Txt.slice ring (some (k : Int)) none ++ Txt.slice ring none (some (k : Int))) == (a.getD k [] == []) && rowsOk a ring n (k + 1) (turned x)
noncomputable def shapeOk (ks : List Nat) : Bool :=
  (aRun 0 ks ([[]], [])).1.length == 9 && (ringK ks).length == 8 && checked ⟨(ringK ks).toArray⟩ && (aRun 0 ks ([[]], [])).1.all (fun l => l.all (fun i => decide (i < 4)) && decide (l.length ≤ 4)) && rowsOk (aRun 0 ks ([[]], [])).1 ⟨(ringK ks).toArray⟩ 8 0 ⟨(ringK ks).toArray⟩
theorem shapes_ok : ∀ k0 < 2, ∀ k1 < 3 - k0, ∀ k2 < 4 - k0 - k1, shapeOk [k0, k1, k2, 4 - k0 - k1 - k2] = true := by decide +kernel

end
noncomputable section
open PySem PySem.W PyProof.Rows PySem.Calls PySem.Spec Mine PySem.Builtin PySem.Builtin.Str
theorem abcd_at (i : Nat) (h : i < 4) : (Txt.item (Str.ofString "abcd") (i : Int)).cps.toList = [97 + i] := by
  have : ∀ i < 4, (Txt.item (Str.ofString "abcd") ((i : Nat) : Int)).cps.toList = [97 + i] := by decide +kernel
  exact this i h
theorem tail_of (c : Int) : ∃ t : List Nat, (menu4 (Str.ofString "") (Str.ofString "(") (Str.ofString ")") (Str.ofString "\"") (c.fmod 4)).cps.toList = t ∧ t.length ≤ 1 ∧ ∀ x ∈ t, x = 40 ∨ x = 41 ∨ x = 34 := by
  unfold menu4
  split
  · exact ⟨[], rfl, by decide, by simp⟩
  · split
    · exact ⟨[40], rfl, by decide, by simp⟩
    · split
      · exact ⟨[41], rfl, by decide, by simp⟩
      · exact ⟨[34], rfl, by decide, by simp⟩
theorem name_list (i : Nat) (h : i < 4) (c : Int) : ∃ t : List Nat, (nameOf i c).cps.toList = 120 :: (97 + i) :: ((Str.ofString (toString (c.fdiv 24))).cps.toList ++ t) ∧ t.length ≤ 1 ∧ ∀ x ∈ t, x = 40 ∨ x = 41 ∨ x = 34 := by
  obtain ⟨t, h1, h2, h3⟩ := tail_of c
  refine ⟨t, ?_, h2, h3⟩
  unfold nameOf
  rw [cat_list, cat_list, cat_list, abcd_at i h, h1]; rfl
theorem name_ok (i : Nat) (h : i < 4) (c : Int) (h0 : 0 ≤ c) (h1 : c < 1000000) : NG (nameOf i c) ∧ ∃ r, (nameOf i c).cps.toList = 120 :: (97 + i) :: r := by
  obtain ⟨t, e, l, ht⟩ := name_list i h c
  refine ⟨⟨⟨_, e⟩, ?_, ?_⟩, _, e⟩
  · intro x hx
    rw [e] at hx
    rcases List.mem_cons.mp hx with rfl | hx
    · decide
    rcases List.mem_cons.mp hx with rfl | hx
    · (first | lia | omega)
    rcases List.mem_append.mp hx with hx | hx
    · have f : ∀ k : Nat, (k ≠ 45 ∧ (k < 48 ∨ 57 < k)) → x ≠ k := fun k hk e => int_text_free' k hk (c.fdiv 24) (e ▸ hx)
      refine ⟨f 47 (by decide), f 92 (by decide), f 10 (by decide), ?_⟩
      refine Nat.lt_of_not_le fun hh => ?_
      exact f x ⟨by (first | lia | omega), .inr (by (first | lia | omega))⟩ rfl
    · rcases ht x hx with rfl | rfl | rfl <;> decide
  · have hd : 0 ≤ c.fdiv 24 := Int.fdiv_nonneg h0 (by decide)
    have hd2 : c.fdiv 24 < 10 ^ 6 := by
      rw [Int.fdiv_eq_ediv_of_nonneg _ (by decide)]; (first | lia | omega)
    have := toString_length_le hd (k := 6) (by decide) hd2
    rw [len_list] at this ⊢
    rw [e]
    simp only [List.length_cons, List.length_append]
    (first | lia | omega)
theorem many_le (i : Nat) (c : Int) (n : Nat) : howMany i c n ≤ n := by
  unfold howMany
  split
  · exact Nat.le_refl _
  · have h1 := Int.fmod_lt_of_pos (c.fdiv 4) (show (0 : Int) < (n : Int) + 1 by omega)
    omega
theorem shuts_nms : ∀ (k : Nat) (st : PSt), (shuts k st).nms.length = st.nms.length - k
  | 0, _ => rfl
  | k + 1, st => by
    show (shuts k (pcShut st)).nms.length = _
    rw [shuts_nms k]
    rw [show (pcShut st).nms.length = st.nms.length - 1 from List.length_dropLast, Nat.sub_sub, Nat.add_comm 1 k]
noncomputable def segsOf (nm : Nat → Str) : Nat → List Nat → List (Str × Nat)
  | _, [] => []
  | i, k :: r => (nm i, k) :: segsOf nm (i + 1) r
theorem segs_ring (nm : Nat → Str) : ∀ (ks : List Nat) (i : Nat), ringL (segsOf nm i ks) = ringK ks
  | [], _ => rfl
  | k :: r, i => by simp only [segsOf, ringL, ringK, segs_ring nm r]
noncomputable def AR (nm : Nat → Str) (st : PSt) (a : List (List Nat) × List Nat) : Prop := st.pls = a.1.map (Pt nm) ∧ st.nms = a.2.map nm
theorem shuts_ar (nm : Nat → Str) : ∀ (k : Nat) (st : PSt) (a : List (List Nat) × List Nat), AR nm st a → AR nm (shuts k st) (aShuts k a)
  | 0, _, _, h => h
  | k + 1, st, a, ⟨h1, h2⟩ => by
    have hd : st.nms.dropLast = a.2.dropLast.map nm := by rw [h2, List.map_dropLast]
    refine shuts_ar nm k (pcShut st) (a.1 ++ [a.2.dropLast], a.2.dropLast) ⟨?_, hd⟩
    show st.pls ++ [PS st.nms.dropLast] = _
    rw [h1, hd, List.map_append]; rfl
theorem run_ar (nm : Nat → Str) : ∀ (ks : List Nat) (i : Nat) (st : PSt) (a : List (List Nat) × List Nat), AR nm st a → AR nm (runSt st (segsOf nm i ks)) (aRun i ks a)
  | [], _, _, _, h => h
  | k :: r, i, st, a, ⟨h1, h2⟩ => by
    refine run_ar nm r (i + 1) _ _ (shuts_ar nm k _ _ ⟨?_, ?_⟩)
    · show st.pls ++ [PS (st.nms ++ [nm i])] = _
      rw [h1, h2, List.map_append]
      simp [Pt]
    · show st.nms ++ [nm i] = _
      rw [h2]; simp
theorem esc_mem : ∀ (a : List Nat), ∀ c ∈ esc a, c = 92 ∨ c ∈ a
  | [], c, h => absurd h (by simp [esc])
  | x :: r, c, h => by
    have ih := esc_mem r c
    unfold esc at h
    by_cases e : x = 34
    · rw [if_pos e] at h
      rcases List.mem_cons.mp h with h | h
      · exact .inl h
      rcases List.mem_cons.mp h with h | h
      · exact .inr (by rw [h, e]; exact List.mem_cons_self)
      · exact (ih h).imp_right (List.mem_cons_of_mem _)
    · rw [if_neg e] at h
      rcases List.mem_cons.mp h with h | h
      · exact .inr (h ▸ List.mem_cons_self)
      · exact (ih h).imp_right (List.mem_cons_of_mem _)
theorem line_no10 : ∀ (l : List (Str × Nat)), (∀ s ∈ l, NG s.1) → ∀ c ∈ lineL l, c ≠ 10
  | [], _, c, h => absurd h (by simp [lineL])
  | (x, k) :: r, hn, c, h => by
    have ih := line_no10 r (fun s hs => hn s (List.mem_cons_of_mem _ hs)) c
    simp only [lineL, List.mem_cons, List.mem_append, List.mem_replicate] at h
    rcases h with h | h | h | h | h | h
    · (first | lia | omega)
    · rcases esc_mem _ _ h with h | h
      · (first | lia | omega)
      · exact ((hn _ List.mem_cons_self).no c h).2.2.1
    · (first | lia | omega)
    · (first | lia | omega)
    · (first | lia | omega)
    · exact ih h
theorem line_len : ∀ (l : List (Str × Nat)), (∀ s ∈ l, NG s.1) → (lineL l).length ≤ 50 * l.length + (ringL l).length
  | [], _ => by simp [lineL]
  | (x, k) :: r, hn => by
    have ih := line_len r fun s hs => hn s (List.mem_cons_of_mem _ hs)
    have h1 : x.length ≤ 20 := (hn _ List.mem_cons_self).len
    have h2 := esc_len x.cps.toList
    rw [len_list] at h1
    simp only [lineL, ringL, List.length_cons, List.length_append, List.length_replicate]
    (first | lia | omega)

end
noncomputable section
open PySem PySem.W PyProof.Rows PySem.Calls PySem.Spec Mine PySem.Builtin PySem.Builtin.Str
theorem rows_run (a : List (List Nat)) (ring : Str) : ∀ (n k : Nat), rowsOk a ring n k (wordAt ring k) = true → wordAt ring (k + n) = ring ∧ ∀ j, k ≤ j → j < k + n → (wordAt ring j).length ≤ 8 ∧ wordAt ring j = seen ((rowA a j).map (adist (a.getD j []))) ∧ checked (Txt.slice ring (some (j : Int)) none ++ Txt.slice ring none (some (j : Int))) = (a.getD j [] == [])
  | 0, k, h => ⟨by simpa [rowsOk] using h, fun j h1 h2 => absurd h1 (by (first | lia | omega))⟩
  | n + 1, k, h => by
    unfold rowsOk at h
    simp only [Bool.and_eq_true, decide_eq_true_eq, beq_iff_eq] at h
    obtain ⟨⟨⟨h1, h2⟩, h3⟩, h4⟩ := h
    obtain ⟨i1, i2⟩ := rows_run a ring n (k + 1) h4
    refine ⟨(congrArg (wordAt ring) (show k + (n + 1) = k + 1 + n by (first | lia | omega))).trans i1, fun j hj hj2 => ?_⟩
    by_cases e : j = k
    · subst e; exact ⟨h1, h2, h3⟩
    · exact i2 j (by (first | lia | omega)) (by (first | lia | omega))
theorem rowA_map {α β : Type} (f : α → β) (l : List α) (k : Nat) : rowA (l.map f) k = (rowA l k).map f := by
  simp [rowA, List.map_drop, List.map_take]
theorem rowA_mem {α : Type} (l : List α) (k : Nat) : ∀ x ∈ rowA l k, x ∈ l := by
  intro x hx
  rcases List.mem_append.mp hx with h | h
  · exact List.mem_of_mem_drop (List.mem_of_mem_take h)
  · exact List.mem_of_mem_take h
noncomputable def st0 : PSt := ⟨[], [Str.ofString "/"], []⟩
theorem st0_inv : PInv st0 := ⟨congrArg some PS_nil.symm, fun x hx => absurd hx List.not_mem_nil, by decide⟩
theorem ring_no34 : ∀ ks : List Nat, 34 ∉ ringK ks
  | [], h => absurd h List.not_mem_nil
  | k :: r, h => by
    simp only [ringK, List.mem_cons, List.mem_append, List.mem_replicate] at h
    rcases h with h | h | h
    · (first | lia | omega)
    · (first | lia | omega)
    · exact ring_no34 r h
theorem okSegs_all : ∀ (l : List (Str × Nat)) (d : Nat), okSegs d l → ∀ s ∈ l, NG s.1
  | [], _, _, s, h => absurd h List.not_mem_nil
  | (x, k) :: r, d, ⟨h1, _, h3⟩, s, h => by
    rcases List.mem_cons.mp h with rfl | h
    · exact h1
    · exact okSegs_all r _ h3 s h
theorem Pt_ok {nm : Nat → Str} (hN : NI nm) (l : List Nat) (h : L4 l) : PyData.strOk (Pt nm l) = true := by
  have h1 : ∀ c ∈ (Pt nm l).cps.toList, c < 0x110000 := by
    unfold Pt
    have h2 : ∀ c ∈ fs (l.map nm), c < 0x110000 := by
      intro c hc
      simp only [fs, List.map_map, List.mem_flatten, List.mem_map] at hc
      obtain ⟨q, ⟨i, hi, rfl⟩, hc⟩ := hc
      rcases List.mem_cons.mp hc with rfl | hc
      · decide
      · exact ((hN i (h i hi)).1.no c hc).2.2.2
    by_cases e : l = []
    · subst e
      intro c hc
      have : c ∈ [47] := by rw [show (PS (([] : List Nat).map nm)).cps.toList = [47] from congrArg (fun z : Str => z.cps.toList) PS_nil] at hc; exact hc
      rw [List.mem_singleton.mp this]; decide
    · rw [PS_list _ (by simpa using e)]; exact h2
  unfold PyData.strOk
  rw [Array.all_eq_true]
  intro i hi
  exact decide_eq_true (h1 _ (by simp))
theorem Pt_len {nm : Nat → Str} (hN : NI nm) (l : List Nat) (h : L4 l) (h4 : l.length ≤ 4) : (Pt nm l).length ≤ 400 := by
  have := PS_le (l.map nm) 20 (by
    intro x hx
    obtain ⟨i, hi, rfl⟩ := List.mem_map.mp hx
    exact (hN i (h i hi)).1.len)
  rw [List.length_map] at this
  unfold Pt; (first | lia | omega)
theorem plain_of (cs : List Int) (nm : Nat → Str) (hN : NI nm) (ks : List Nat) (he : pcAt cs 4 = runSt st0 (segsOf nm 0 ks)) (hs : okSegs 0 (segsOf nm 0 ks)) (h3 : (segsOf nm 0 ks).length = 4) (hsh : shapeOk ks = true)
    (names : ∀ i c, cs[i]? = some c → (nameOf i c).length ≤ 20 ∧ (Txt.replace (nameOf i c) (Str.ofString "\"") (Str.ofString "\\\"")).length ≤ 40) : PlainLaw cs := by
  unfold shapeOk at hsh
  simp only [Bool.and_eq_true] at hsh
  obtain ⟨⟨⟨⟨q1, q2⟩, q3⟩, q4⟩, q5⟩ := hsh
  obtain ⟨a, ha⟩ : ∃ a, a = (aRun 0 ks ([[]], [])).1 := ⟨_, rfl⟩
  rw [← ha] at q1 q4 q5
  replace q1 : a.length = 9 := by simpa using q1
  replace q2 : (ringK ks).length = 8 := by simpa using q2
  have hA : ∀ l ∈ a, L4 l ∧ l.length ≤ 4 := by
    intro l hl
    have := List.all_eq_true.mp q4 l hl
    simp only [Bool.and_eq_true, decide_eq_true_eq, List.all_eq_true] at this
    exact ⟨this.1, this.2⟩
  have hpl : (pcAt cs 4).pls = a.map (Pt nm) := by
    rw [he, ha]
    exact (run_ar nm ks 0 st0 ([[]], []) ⟨congrArg (fun z => [z]) PS_nil.symm, rfl⟩).1
  have hng := okSegs_all _ _ hs
  have hne : segsOf nm 0 ks ≠ [] := by intro e; rw [e] at h3; simp at h3
  have hll : (lineOf cs).cps.toList = lineL (segsOf nm 0 ks) := by
    unfold lineOf
    rw [join_eq, join_flat, he, run_pcs]; rfl
  obtain ⟨ring, hring⟩ : ∃ ring : Str, ring = ⟨(ringK ks).toArray⟩ := ⟨_, rfl⟩
  have hst : stripped (lineOf cs) = ring := by
    rw [hring]
    apply str_eq
    rw [stripped_line _ _ hne hng hll, segs_ring]
  have hrl : ring.length = 8 := by rw [hring]; simpa [Str.length] using q2
  rw [← hring] at q3 q5
  obtain ⟨r1, r2⟩ := rows_run a ring 8 0 q5
  have hat : ∀ (k : Nat) (sk : Str), k < 8 → (pcAt cs 4).pls[k]? = some sk → sk = Pt nm (a.getD k []) ∧ a.getD k [] ∈ a := by
    intro k sk hk8 h
    rw [hpl, List.getElem?_map] at h
    have hlt : k < a.length := by (first | lia | omega)
    rw [List.getElem?_eq_getElem hlt] at h
    have hg : a.getD k [] = a[k] := by simp [List.getD, hlt]
    rw [hg]
    exact ⟨by simpa using h.symm, List.getElem_mem hlt⟩
  have hll2 := line_len _ hng
  rw [h3, segs_ring, q2] at hll2
  refine ⟨names, ?_, ?_, ?_, ?_, ?_, ?_, ?_, ?_, ?_, ?_, ?_, ?_, ?_⟩
  · rw [len_list, hll]; (first | lia | omega)
  · rw [hll]; exact line_no10 _ hng
  · obtain ⟨res, s, r, e1, e2⟩ := run_ok (segsOf nm 0 ks) st0 (Str.ofString "") st0_inv hs (by rw [h3]; decide) (by rw [h3]; decide)
    refine ⟨2 * (segsOf nm 0 ks).length, res, s, r, ?_, ?_⟩
    · rw [hll]
      have : stF (segsOf nm 0 ks) = .sp := by unfold stF; rw [if_neg hne]
      rw [← this]; exact e1
    · rw [he]; exact e2
  · intro x hx
    rw [hpl] at hx
    obtain ⟨l, hl, rfl⟩ := List.mem_map.mp hx
    exact Pt_ok hN l (hA l hl).1
  · rw [hpl, List.length_map, q1]
  · rw [hst, hrl]; decide
  · intro k hk9
    rw [hst]
    by_cases e : k = 8
    · subst e; rw [show wordAt ring 8 = ring from r1, hrl]; decide
    · have := (r2 k (Nat.zero_le _) (by (first | lia | omega))).1; (first | lia | omega)
  · intro k sk hk8 h
    obtain ⟨rfl, hm⟩ := hat k sk hk8 h
    rw [hst, (r2 k (Nat.zero_le _) (by (first | lia | omega))).2.1, hpl]
    show _ = seen ((rowA (a.map (Pt nm)) k).map _)
    rw [rowA_map, List.map_map]
    congr 1
    apply List.map_congr_left
    intro l hl
    exact (dist_I hN _ _ (hA _ hm).1 (hA l (rowA_mem a k l hl)).1).symm
  · intro k sk hk8 h
    obtain ⟨rfl, hm⟩ := hat k sk hk8 h
    rw [hst, (r2 k (Nat.zero_le _) (by (first | lia | omega))).2.2]
    rw [Bool.eq_iff_iff, beq_iff_eq, beq_iff_eq]
    constructor
    · intro e; rw [e]; exact PS_nil
    · intro e; exact Pt_inj hN _ _ (hA _ hm).1 (fun i hi => absurd hi List.not_mem_nil) (e.trans PS_nil.symm)
  · intro x hx
    rw [hpl] at hx
    obtain ⟨l, hl, rfl⟩ := List.mem_map.mp hx
    exact Pt_len hN l (hA l hl).1 (hA l hl).2
  · rw [hst]; exact r1
  · unfold checked at q3 ⊢
    rw [hst]
    rw [no_q_strip ring (by rw [hring]; exact ring_no34 ks)] at q3
    exact q3
  · intro x hx y hy hlt
    rw [hpl] at hx hy
    obtain ⟨l, hl, rfl⟩ := List.mem_map.mp hx
    obtain ⟨l', hl', rfl⟩ := List.mem_map.mp hy
    have := (hA l hl).2
    have := (hA l' hl').2
    exact steps_I hN l l' (hA l hl).1 (hA l' hl').1 (by (first | lia | omega)) (by (first | lia | omega)) hlt
theorem ks_lin {n1 n2 n3 k0 k1 k2 : Nat} (a1 : n1 + k0 = 1) (a2 : n2 + k1 = n1 + 1) (a3 : n3 + k2 = n2 + 1) : n3 + 1 + k2 + k1 + k0 = 4 ∧ k1 + k0 < 3 ∧ k2 + k1 + k0 < 4 := by (first | lia | omega)
theorem plain2 (cs : List Int) (h4 : cs.length = 4) (hr : ∀ c ∈ cs, 0 ≤ c ∧ c < 1000000) : PlainLaw cs := by
  match cs, h4 with
  | [c0, c1, c2, c3], _ =>
  have hN : NI fun i => nameOf i ([c0, c1, c2, c3].getD i 0) := by
    intro i hi
    have hlt : i < [c0, c1, c2, c3].length := hi
    have hm : [c0, c1, c2, c3].getD i 0 ∈ [c0, c1, c2, c3] := by
      rw [show [c0, c1, c2, c3].getD i 0 = [c0, c1, c2, c3][i] by rw [List.getD, List.getElem?_eq_getElem hlt]; rfl]
      exact List.getElem_mem hlt
    exact name_ok i hi _ (hr _ hm).1 (hr _ hm).2
  obtain ⟨s1, hs1⟩ : ∃ s1, s1 = pcTurn 0 c0 st0 := ⟨_, rfl⟩
  obtain ⟨s2, hs2⟩ : ∃ s2, s2 = pcTurn 1 c1 s1 := ⟨_, rfl⟩
  obtain ⟨s3, hs3⟩ : ∃ s3, s3 = pcTurn 2 c2 s2 := ⟨_, rfl⟩
  obtain ⟨k0, hk0⟩ : ∃ k, k = howMany 0 c0 1 := ⟨_, rfl⟩
  obtain ⟨k1, hk1⟩ : ∃ k, k = howMany 1 c1 (s1.nms.length + 1) := ⟨_, rfl⟩
  obtain ⟨k2, hk2⟩ : ∃ k, k = howMany 2 c2 (s2.nms.length + 1) := ⟨_, rfl⟩
  have b0 := many_le 0 c0 1
  have b1 := many_le 1 c1 (s1.nms.length + 1)
  have b2 := many_le 2 c2 (s2.nms.length + 1)
  rw [← hk0] at b0
  rw [← hk1] at b1
  rw [← hk2] at b2
  have l1 : s1.nms.length = 1 - k0 := by rw [hs1, hk0]; exact shuts_nms _ _
  have l2 : s2.nms.length = s1.nms.length + 1 - k1 := by rw [hs2, hk1]; unfold pcTurn; rw [shuts_nms]; simp [pcOpen]
  have l3 : s3.nms.length = s2.nms.length + 1 - k2 := by rw [hs3, hk2]; unfold pcTurn; rw [shuts_nms]; simp [pcOpen]
  have a1 : s1.nms.length + k0 = 1 := by rw [l1]; exact Nat.sub_add_cancel b0
  have a2 : s2.nms.length + k1 = s1.nms.length + 1 := by rw [l2]; exact Nat.sub_add_cancel b1
  have a3 : s3.nms.length + k2 = s2.nms.length + 1 := by rw [l3]; exact Nat.sub_add_cancel b2
  obtain ⟨x1, x2, x3⟩ := ks_lin a1 a2 a3
  have e3 : howMany 3 c3 (s3.nms.length + 1) = 4 - k0 - k1 - k2 := Nat.eq_sub_of_add_eq (Nat.eq_sub_of_add_eq (Nat.eq_sub_of_add_eq x1))
  have he : pcAt [c0, c1, c2, c3] 4 = runSt st0 (segsOf (fun i => nameOf i ([c0, c1, c2, c3].getD i 0)) 0 [k0, k1, k2, 4 - k0 - k1 - k2]) := by
    show pcTurn 3 c3 (pcTurn 2 c2 (pcTurn 1 c1 (pcTurn 0 c0 st0))) = shuts (4 - k0 - k1 - k2) (pcOpen (shuts k2 (pcOpen (shuts k1 (pcOpen (shuts k0 (pcOpen st0 (nameOf 0 c0))) (nameOf 1 c1))) (nameOf 2 c2))) (nameOf 3 c3))
    rw [← e3, hk2, hk1, hk0, hs3, hs2, hs1]; rfl
  refine plain_of _ _ hN [k0, k1, k2, 4 - k0 - k1 - k2] he ?_ rfl (shapes_ok k0 (Nat.lt_succ_of_le b0) k1 (Nat.lt_sub_of_add_lt x2) k2 (Nat.lt_sub_of_add_lt (Nat.lt_sub_of_add_lt x3))) ?_
  · have y1 : 0 + 1 - k0 = s1.nms.length := l1.symm
    have y2 : 0 + 1 - k0 + 1 - k1 = s2.nms.length := by rw [y1]; exact l2.symm
    have y3 : 0 + 1 - k0 + 1 - k1 + 1 - k2 = s3.nms.length := by rw [y2]; exact l3.symm
    exact ⟨(hN 0 (by decide)).1, b0, (hN 1 (by decide)).1, by rw [y1]; exact b1, (hN 2 (by decide)).1, by rw [y2]; exact b2, (hN 3 (by decide)).1, by rw [y3, ← e3]; exact Nat.le_refl _, trivial⟩
  · intro i c hc
    have hi : i < 4 := (List.getElem?_eq_some_iff.mp hc).1
    have hm := List.mem_of_getElem? hc
    have h1 := (name_ok i hi c (hr c hm).1 (hr c hm).2).1.len
    refine ⟨h1, ?_⟩
    have h2 := esc_len (nameOf i c).cps.toList
    rw [len_list, replace_esc]
    rw [len_list] at h1
    (first | lia | omega)

end

noncomputable section
open PySem PySem.W PyProof.Rows PySem.Calls PySem.Spec Mine
variable {w : World} {p : Program} {loose : List Str} {mean : ExcName → Option Value} {mg mb : Str → Option Value}
set_option maxHeartbeats 4000000
set_option rowWalk.seconds 0
theorem rows23 : True := by
  k_with_none
  k_with "my fits" => (first | with_reducible assumption | (simp only [sizeLine_eq] at *; omega))
  k_with "call builtin:issubclass" => (k_here; (with_reducible show wpAny _ _ (call (Value.builtin "issubclass") [Value.type "str", Value.ref _]) _ _ _); (refine' call_issub (isTup_of (by k_asm) (by news_mem)) ?_))
  k_with "my size" => (first | with_reducible assumption | (simp only [strValues, List.size_toArray, List.length_map, List.length_append, List.length_cons, List.length_nil, sizeLine_eq]; omega))
  k_with "call builtin:list.append" => (k_here; (with_reducible show wpAny _ _ (call (Value.builtin _) [Value.ref _, _]) _ _ _); k_dflt (refine' append_K (by k_asm) (by k_asm) (by k_upd) ?_ (by walk_at "my size"); k_whole); intro _ _ _)
  k_with "truthy ref" => (k_here; (with_reducible show wpAny _ _ (truthy (Value.ref _)) _ _ _); refine' truthy_L (by exact isL_of (by with_reducible assumption) (by walk_at "my mem")) (by walk_at "my size") ?_ ?_; intro _ _)
  k_with "call builtin:list.pop" => (k_here; (try dsimp only); k_dflt (refine' pop_L (by k_asm) (by k_asm) (by k_upd) (by walk_at "my size") ?_); intro _ _ _)
  k_with "subscriptTail Name UnaryOp ref int" => (k_here; (with_reducible show wpAny _ _ (subscriptTail _ _ (Value.ref _) (Value.int (-1) _)) _ _ _); refine' item_last (by exact isL_of (by with_reducible assumption) (by walk_at "my mem")) (by walk_at "my size") (by exact List.getLast?_concat) ?_ (by with_unfolding_all rfl))
  k_with "truthy ref" => (k_here; (with_reducible show wpAny _ _ (truthy (Value.ref _)) _ _ _); refine' truthy_L1 (by exact isL_of (by with_reducible assumption) (by walk_at "my mem")) (by walk_at "my size") ?_; intro _)
  k_with "call builtin:str.join" => (k_here; (with_reducible show wpAny _ _ (call (Value.builtin "str.join") [Value.str _ _, Value.ref _]) _ _ _); first
  | (refine' my_join (by exact isL_of (by with_reducible assumption) (by walk_at "my mem")) (by decide +kernel) (by omega) (by walk_at "my parts") ?_; intro _ _)
  | (refine' my_join2 (by exact isL_of (by with_reducible assumption) (by walk_at "my mem")) (by decide +kernel) (by omega) (by walk_at "my parts") (by walk_at "my len") ?_; intro _ _))
  k_with "my mem" => (with_reducible (first | exact List.mem_cons_self | (refine List.mem_cons_of_mem _ ?_; walk_at "my mem")))
  k_with "my parts" => (assumption)
  k_with "my len" => (first | (simp only []; omega) | omega)
  k_with "my in" => (first | with_reducible assumption | with_reducible exact List.mem_cons_self | with_reducible exact List.mem_append_left _ (by with_reducible assumption) | with_reducible exact List.mem_append_right _ (by with_reducible assumption) | ((with_reducible refine List.mem_cons_of_mem _ ?_); walk_at "my in"))
  k_with "my all" => (first | with_reducible exact List.forall_mem_nil _ | ((with_reducible refine List.forall_mem_cons.mpr ⟨by walk_at "my mem", ?_⟩); walk_at "my all") | (intro _ _; walk_at "my in"))
  k_with "my news" => (first | with_reducible assumption | (refine' news_sub (by with_reducible assumption) (by intro _ _; walk_at "my in")))
  k_with "my led" => ((try simp only [List.cons_append]); with_reducible assumption)
  k_with "my slice" => (k_here; (with_reducible show wpAny _ _ (subscriptTail _ (PySem.Expr.Slice _ _ none _) (Value.ref _) (Value.ref _)) _ _ _); k_dflt (refine' kmk_slice (by k_asm) (by k_asm) (by exact isL_of (by with_reducible assumption) (by walk_at "my mem")) (by kmk_part) (by kmk_part) ?_ (by with_unfolding_all rfl) (by kmk_pure) (by first | walk_at "my size" | (simp only [List.size_toArray, intVals, List.length_map]; rw [sizeLine_eq]; omega))); intro _ _ _ _ _)
  k_with "my fold" => (refine fold_ae ?_; intro _ _)
  k_with "storeName" => (k_here; k_dflt (refine' store_let (by k_asm) (by k_asm) ?_ (by rfl) (by rfl); k_whole; intro _ _ _ _ _ _; (try k_sweep)))
  k_with "exec If" => (k_here; (refine if_let ?_); intro _)
  k_with "execs cons" => (k_here; (refine cons_let ?_); intro _ _ _ _)
  k_with "execs cons" => (k_here; (with_reducible show wpAny _ _ (execs (_ :: []) _) _ _ _); (refine execs_1 ?_); intro _ _ _)
  k_with "execs cons" => (k_here; k_gentoks; (refine st_let2 ?_); intro _)
  k_with "my room" => (k_dflt (first | exact room1 (k := 1) rfl rfl (by with_reducible assumption) | exact room1 (k := 2) rfl rfl (by with_reducible assumption) | exact room1 (k := 3) rfl rfl (by with_reducible assumption) | exact room0 (k := 1) rfl rfl (by with_reducible assumption) | exact room0 (k := 2) rfl rfl (by with_reducible assumption) | exact room0 (k := 3) rfl rfl (by with_reducible assumption) | ktr_room | (show Around.depth (Around.deeper _ _) + _ < recursionLimit; first | ktr_room) | (show Around.depth (Around.deeper _ _) < recursionLimit; first | ktr_room)))
  k_with "my units" => (k_dflt (first | exact unit1 (k := 3) rfl rfl (by with_reducible assumption) | exact unit1 (k := 4) rfl rfl (by with_reducible assumption) | exact unit1 (k := 5) rfl rfl (by with_reducible assumption) | exact unit1 (k := 6) rfl rfl (by with_reducible assumption) | exact unit1 (k := 7) rfl rfl (by with_reducible assumption) | exact unit1 (k := 8) rfl rfl (by with_reducible assumption) | exact unit0 (k := 3) rfl rfl (by with_reducible assumption) | exact unit0 (k := 6) rfl rfl (by with_reducible assumption) | ktr_units | (show Around.units (Around.deeper _ _) + _ < cLine; first | ktr_units)))
  k_with "my steps" => (repeat' (first | ((fail_if_success (fail_if_success k_unfold)); (first | (show wpAny _ _ _ _ _ _) | (k_unfold; (try dsimp only)))) | (k_end; wrow_close) | walk1 | (dsimp only; walk1) | (leave1; (try dsimp only)) | fail "no step"))
  k_with "my off" => (first | with_reducible exact rfl | ((refine map_off ?_ ?_); (next => assumption); walk_at "my off") | exact rfl)
  k_with "exec While BoolOp cons nil" => (k_here; refine halt_at ?_)
  k_with "exec While Compare cons nil" => (k_here; refine halt_at ?_)
  k_with "exec While Constant cons nil" => (k_here; refine halt_at ?_)
  k_with "exec For Name Name cons nil" => (k_here; refine halt_at ?_)
  k_with "exec For Name Call cons nil" => (k_here; refine halt_at ?_)
  k_with "exec For Tuple Call cons nil" => (k_here; refine halt_at ?_)
  k_with "eval ListComp IfExp cons" => (k_here; refine halt_at ?_)
  k_with "call type:zip cons nil" => (k_here; refine halt_at ?_)
  k_with "my look" => (first | with_reducible assumption | exact rfl | (refine map_put rfl ?_; walk_at "my look"))
  k_with "eval Name" => (k_here; k_dflt (refine' nameX_L (by k_asm) (by with_reducible assumption) ?_ (by exact rfl) (by exact rfl)))
  k_with "eval Name" => (k_here; k_dflt (refine' nameX_L (by k_asm) (by (refine map_put rfl ?_; with_reducible assumption)) ?_ (by exact rfl) (by exact rfl)))
  k_with "call ref" => (k_here; refine halt_at ?_)
  k_with "compareOp NotEq ref ref" => (k_here; refine halt_at ?_)
  k_with "subscriptTail Name Name ref int" => (k_here; (refine item_at (isL_of (by k_asm) (by walk_at "my in")) (by rw [sizeLine_eq, strValues, List.length_map]; omega) (by with_reducible assumption) ?_))
  k_with "subscriptTail Name Subscript ref str" => (k_here; (refine item_D (by k_asm) (by walk_at "my in") (by with_reducible assumption) (by with_reducible assumption) ?_); intro _)
  k_with "eval ListComp" => (k_here; refine halt_late (by assumption) ?_)
  k_with "subscriptTail Name Slice ref ref" => (k_here; refine halt_late (by assumption) ?_)
  k_with "binaryOp Add ref ref" => (k_here; refine halt_late (by assumption) ?_)
  k_with "my mem" => (walk_at "my in")
  k_with "subscriptTail Name Name ref str" => (k_here; (refine item_D (by k_asm) (by walk_at "my in") (by with_reducible assumption) (by with_reducible assumption) ?_); intro _)
  trivial
set_option maxHeartbeats 8000000 in
theorem drop_law {h₀ h : Heap} {L : Addr} {a b c d e f g z : Addr × Obj} (N : News h₀ L h [a, b, c, d, e, f, g, z]) : News h₀ L h [b, z] := fun q hq => N q (by
  simp only [List.mem_cons, List.not_mem_nil, or_false] at hq ⊢
  rcases hq with h | h
  · exact .inr (.inl h)
  · exact .inr (.inr (.inr (.inr (.inr (.inr (.inr h)))))))
theorem law_led {h₀ h : Heap} {L : Addr} {a b c z : Addr × Obj} {nw : List (Addr × Obj)} (N : News h₀ L h (a :: (nw ++ [b, c, z]))) : News h₀ L h (z :: (nw ++ [b, c])) := fun q hq => N q (by
  simp only [List.mem_cons, List.mem_append, List.not_mem_nil, or_false] at hq ⊢
  rcases hq with h | h | h | h
  · exact .inr (.inr (.inr (.inr h)))
  · exact .inr (.inl h)
  · exact .inr (.inr (.inl h))
  · exact .inr (.inr (.inr (.inl h))))
noncomputable def zJ (c : Addr) (R : List (Addr × Obj)) (ring : Str) (A2 F : Addr) (line : Str) (k : Nat) (m : Str → Option Value) (nx : List (Addr × Obj)) : Prop :=
  ∃ (wo : Obj) (cv : Option Value) (tw tr tl : Tok), nx = (c, wo) :: R ∧ wo.data = .cell cv ∧ m (S "word") = some (.str (wordAt ring k) tw) ∧ m (S "ring") = some (.str ring tr) ∧ m (S "far") = some (.ref F) ∧ m (S "stops") = some (.ref A2) ∧ m (S "line") = some (.str line tl)
theorem slice_mid (al : List (Str × Tok)) (a b : Nat) (hb : b ≤ al.length) (hab : a ≤ b) : slicePick (strValues al).toArray (some (a : Int)) (some (b : Int)) none = (strValues ((al.drop a).take (b - a))).toArray := by
  rw [slicePick_run _ a b (by simpa [strValues] using hb) hab]
  simp [strValues]
theorem slice_low (al : List (Str × Tok)) (a : Nat) : slicePick (strValues al).toArray none (some ((a : Nat) : Int)) none = (strValues (al.take a)).toArray := by
  rw [slicePick_upto']; simp [strValues]
theorem slice_mid8 (al : List (Str × Tok)) (a : Nat) (hb : 8 ≤ al.length) (hab : a ≤ 8) : slicePick (strValues al).toArray (some (a : Int)) (some 8) none = (strValues ((al.drop a).take (8 - a))).toArray := slice_mid al a 8 hb hab
theorem slice_low1 (al : List (Str × Tok)) (a : Nat) : slicePick (strValues al).toArray none (some ((a : Int) + 1)) none = (strValues (al.take (a + 1))).toArray := slice_low al (a + 1)
theorem m_law : WalkO q0 loose0 (XL q0 []) (Hook.says HK) rw0.row.toRowW d0 [] fun f vs => PySem.call f vs := by
  rw [show d0 = ⟨_, _, _ :: _, _, _⟩ from rfl]
  k_fill
  intro w s₀ s₁ mg mb G Y fa o pm cd doc dV kV ho hd hcd hD hmg hg args vals as hpre hlay hrd hwl hlo
  have KX := kIn_of Y
  have X := (Ground.X G).1
  have V := (Ground.X G).2
  have GL := glob_more (Ground.glob G (by decide +kernel) (by decide +kernel)) V
  refine Ground.open G ?_
  intro T B D TE TW
  try (refine guard_noD D (by decide +kernel) ?_; clear D)
  obtain ⟨_, _, M⟩ := bmod_of_top T
  have TA := at_of_top T
  try (obtain ⟨_, _, he, B0⟩ := based_of_top T rfl hmg ho hd; have he' : cd = _ := he; subst he'; clear he)
  clear hmg
  wrow_args hpre hlay hrd hwl hlo
  all_goals (
    first | refine callC_kw (enter_call ?_) | refine enter_call ?_ | refine callC_kw (enter_callW ?_) | refine enter_callW ?_ | w_how
    w_top on
    have K0 := below_caller (Top.heap T)
    w_call any ho hd hcd hD T F
    clear hd TA
    k_drop
    skip)
  rename Shared => s1
  rename World => w
  all_goals (try k_fold)
  all_goals (try walk_at "my fold")
  walk_at "my steps"
  refine Halt.go ?_
  rename_i Dc ws hb0 hI hC hL lc mz hc0 kz sz F0 N0 nz qz ez kz2
  rename List Int => scr
  obtain ⟨cl, rfl, hcl⟩ := ints_vals hI
  replace hcl : cl.map (·.1) = cellsOf scr := hcl
  have hc4 : cl.length = 4 := by have := congrArg List.length hcl; rw [List.length_map, cells_len] at this; exact this
  have PL := plain2 (cellsOf scr) (cells_len scr) (cells_range scr)
  refine' use_claimN (d_pieces Dc cl 0) ?k1 ?k2 ?k3 ?k4 ?k5 ?kK ?kp ?kd ?ku ?_
  case k1 => k_asm
  case k2 => k_asm
  case k3 => k_asm
  case k4 => k_asm
  case k5 => k_asm
  case kK => exact rfl
  case kp => exact ⟨List.mem_cons_self, hc4, by rw [hcl]; exact cells_range scr, by rw [hcl]; exact PL.names⟩
  case kd => walk_at "my room"
  case ku => walk_at "my units"
  intro TP A2 al k t h' tk' hal hal21 lA lT F1 N1
  rw [hcl] at hal N1
  obtain ⟨line, hline⟩ : ∃ line, line = lineOf (cellsOf scr) := ⟨_, rfl⟩
  rw [← hline] at N1
  walk_at "my steps"
  refine Halt.go ?_
  rename Fr _ _ _ _ => F2
  rename News _ _ _ _ => N2
  obtain ⟨wo, N3, hAc, cv, hcv⟩ : ∃ wo : Obj, News _ _ _ [(A2, W.listOf (strValues al).toArray k), (s1.heap.objs.size + 1, wo)] ∧ A2 ≠ s1.heap.objs.size + 1 ∧ ∃ cv, wo.data = .cell cv := ⟨_, drop_law N2, Nat.ne_of_gt (lA _ (List.mem_cons_of_mem _ (List.mem_cons_of_mem _ (List.mem_cons_of_mem _ (List.mem_cons_of_mem _ (List.mem_cons_of_mem _ List.mem_cons_self)))))), _, by assumption⟩
  obtain ⟨m2, F3, r1, r2⟩ : ∃ m2 : Str → Option Value, Fr _ _ _ m2 ∧ m2 (S "line") = some (.str line t) ∧ m2 (S "stops") = some (.ref A2) := ⟨_, F2, rfl, rfl⟩
  obtain ⟨n, res, st, r, w1, w2⟩ := PL.walk
  have p1 := PL.len
  have p2 := PL.no10
  rw [← hline] at p1 p2 w1
  clear F2 N2 N0 F0
  refine' use_claim (d_walk line t n (pcAt (cellsOf scr) 4).pls res st r) ?k1 ?k2 ?k3 ?k4 ?k5 ?kK ?kp ?kd ?ku ?_
  case k1 => k_asm
  case k2 => k_asm
  case k3 => k_asm
  case k4 => exact N3
  case k5 => k_asm
  case kK => exact rfl
  case kp => exact ⟨p1, p2, w1, w2⟩
  case kd => walk_at "my room"
  case ku => walk_at "my units"
  intro D9 al9 k9 h9 tk9 hal9 lD9 F9 N9
  walk_at "my steps"
  refine Halt.go ?_
  have ok9 : ∀ x ∈ al9.map (·.1), PyData.strOk x = true := fun x hx => PL.ok x (hal9 ▸ hx)
  refine ne_strs_no (isL_of N9 List.mem_cons_self) (isL_of N9 (List.mem_cons_of_mem _ List.mem_cons_self)) (hal9.trans hal.symm) ok9 ?hu ?_
  case hu => walk_at "my units"
  have N4 := news_tl N9
  clear N9 N3 ok9 hal9 lD9 hC hL lc hI lT lA hcl hc4
  walk_at "my steps"
  refine Halt.go ?_
  rename Shared.gens _ = #[] => hg0
  refine' use_claim (d_strip line t) ?k1 ?k2 ?k3 ?k4 ?k5 ?kK ?kp ?kd ?ku ?_
  case k1 => k_asm
  case k2 => k_asm
  case k3 => k_asm
  case k4 => k_asm
  case k5 => k_asm
  case kK => exact rfl
  case kp => exact p1
  case kd => walk_at "my room"
  case ku => walk_at "my units"
  refine ⟨?_, ?_⟩
  · show AllBare _
    dsimp only
    rw [hg0]
    exact fun y hy => by simp at hy
  intro t9 h9 tk9 g9 hAB9 F9 N9
  walk_at "my steps"
  refine Halt.go ?_
  refine' use_claimN (d_table A2 al k) ?k1 ?k2 ?k3 ?k4 ?k5 ?kK ?kp ?kd ?ku ?_
  case k1 => k_asm
  case k2 => k_asm
  case k3 => k_asm
  case k4 => exact N9
  case k5 => k_asm
  case kK => exact rfl
  case kp => exact ⟨List.mem_cons_self, by have := congrArg List.length hal; rw [List.length_map, PL.n9] at this; (first | lia | omega), by rw [hal]; exact PL.steps⟩
  case kd => walk_at "my room"
  case ku => walk_at "my units"
  intro F oF kvs nw h8 tk8 hoF hT lF1 lF2 F8 N8
  walk_at "my steps"
  refine Halt.go ?_
  rename News _ _ _ _ => N7
  rename Fr _ _ _ _ => F7
  obtain ⟨m3, F6, v1, v2, v3, v4, v5⟩ : ∃ m3 : Str → Option Value, Fr _ _ _ m3 ∧ m3 (S "line") = some (.str line t) ∧ m3 (S "stops") = some (.ref A2) ∧ m3 (S "ring") = some (.str (stripped line) t9) ∧ m3 (S "far") = some (.ref F) ∧ m3 (S "word") = some (.str (stripped line) t9) := ⟨_, F7, r1, r2, rfl, rfl, rfl⟩
  obtain ⟨R, hR, N6⟩ : ∃ R, R = nw ++ [(F, oF), (A2, W.listOf (strValues al).toArray k)] ∧ News _ _ _ ((s1.heap.objs.size + 1, wo) :: R) := ⟨_, rfl, law_led N7⟩
  have hRF : (F, oF) ∈ R := hR ▸ List.mem_append_right _ List.mem_cons_self
  have hRA : (A2, W.listOf (strValues al).toArray k) ∈ R := hR ▸ List.mem_append_right _ (List.mem_cons_of_mem _ List.mem_cons_self)
  have hRw : ∀ q ∈ nw, q ∈ R := fun q hq => hR ▸ List.mem_append_left _ hq
  have hRc : ∀ q ∈ R, q.1 ≠ s1.heap.objs.size + 1 := fun q hq => by
    subst hR
    have hF := lF1 (s1.heap.objs.size + 1, wo) (List.mem_cons_of_mem _ List.mem_cons_self)
    rcases List.mem_append.mp hq with hq | hq
    · exact Nat.ne_of_gt (Nat.lt_trans hF (lF2 q hq))
    rcases List.mem_cons.mp hq with rfl | hq
    · exact Nat.ne_of_gt hF
    · rw [List.mem_singleton.mp hq]; exact hAc
  clear N7 F7 hR lF1 lF2
  refine' For_HE (G := AllBare) (h₀ := s1.heap) (m₀ := m3) (keep := (s1.heap.objs.size + 1, wo) :: R) (chg := [s1.heap.objs.size + 1]) 8 (fun i v => ∃ t, v = .int (i : Int) t) (zJ (s1.heap.objs.size + 1) R (stripped line) A2 F line) ?src ⟨wo, cv, _, _, _, rfl, hcv, v5, v3, v4, v2, v1⟩ hAB9 ?hx ?hp ?turn ?done (by intro _; rfl) ?hE
  case hx => kernel_rfl
  case hp => rfl
  case hE => passes_own
  case src =>
    walk_at "my steps"
    rename IsRange _ _ _ _ _ _ _ _ => hR8
    rename News _ _ _ _ => N17
    rename Fr _ _ _ _ => F17
    exact src_range (n := 8) rfl F17 N17 hR8 (by decide) (fun q hq => hq) (fun b hb => ⟨wo, by rw [List.mem_singleton.mp hb]; exact List.mem_cons_self⟩)
  case done =>
    rintro m₉ nx h9' tk9' gens9 ⟨wo9, cv9, tw, tr, tl, rfl, hcv9, y1, y2, y3, y4, y5⟩ hg F9 N9
    have late : Late := trivial
    have hlast := PL.last
    have hckl := PL.ckline
    rw [← hline] at hlast hckl
    rw [hlast] at y1
    have hrl := PL.ringlen
    rw [← hline] at hrl
    have b3 : (stripped line == stripped line) = true := beq_self_eq_true _
    walk_at "my steps"
    refine Halt.go ?_
    refine' use_claim (d_check _ _) ?k1 ?k2 ?k3 ?k4 ?k5 ?kK ?kp ?kd ?ku ?_
    case k1 => k_asm
    case k2 => k_asm
    case k3 => k_asm
    case k4 => k_asm
    case k5 => k_asm
    case kK => exact rfl
    case kp => exact p1
    case kd => walk_at "my room"
    case ku => walk_at "my units"
    refine ⟨hg, ?_⟩
    intro h17 tk17 g17 hAB17 F17 N17
    rw [hckl]
    walk_at "my steps"
    refine ⟨.inl ⟨_, ofPy (.bool true), [], rfl, fun cls => ?_, readsW_of_reads (Reads.bool _), ?_, fun _ => ⟨List.nodup_nil, fun a ha => by simp at ha⟩⟩, .of_keep (Fr.keep (by k_asm)), rfl, hAB17⟩
    · rfl
    · exact postW_of (by wrow_shape) (by wtm_val) (by first | rfl | (str_meet; first | done | w_fin))
  case turn =>
    intro k9 vj m₉ nx h9' tk9' gens9 W9 own9 hk8 hJ0 hW ho9 hoff hJ1 hg F9 N9
    refine q_let ?_
    intro q9 e9
    obtain ⟨tj, rfl⟩ := hJ0
    obtain ⟨wo9, cv9, tw, tr, tl, rfl, hcv9, y1, y2, y3, y4, y5⟩ := hJ1
    have late : Late := trivial
    simp only [List.cons_append] at N9
    have hn9 : al.length = 9 := by have := congrArg List.length hal; rwa [List.length_map, PL.n9] at this
    obtain ⟨⟨sk, ts⟩, hz⟩ : ∃ z, al[k9]? = some z := ⟨_, List.getElem?_eq_getElem (by (first | lia | omega))⟩
    have hget := strs_get hz
    dsimp only at hget
    have hsk : (pcAt (cellsOf scr) 4).pls[k9]? = some sk := by rw [← hal]; exact fst_at hz
    have hskm : sk ∈ al.map (fun z : Str × Tok => z.1) := List.mem_of_getElem? (fst_at hz)
    obtain ⟨Rk, ok, kk, a1, a2, a3, a4, a5⟩ := hT.row sk hskm
    have a2' := hRw _ a2
    have hRc9 : ∀ p ∈ R ++ own9, p.1 ≠ s1.heap.objs.size + 1 := fun p hp => by
      rcases List.mem_append.mp hp with hp | hp
      · exact hRc p hp
      · exact ho9 p hp _ List.mem_cons_self
    obtain ⟨m4, F10, u0, u1, u2, u3, u4, u5⟩ : ∃ m4 : Str → Option Value, Fr _ _ _ m4 ∧ m4 (S "turn") = some (.int k9 tj) ∧ m4 (S "word") = some (.str (wordAt (stripped line) k9) tw) ∧ m4 (S "ring") = some (.str (stripped line) tr) ∧ m4 (S "far") = some (.ref F) ∧ m4 (S "stops") = some (.ref A2) ∧ m4 (S "line") = some (.str line tl) := ⟨_, F9, rfl, y1, y2, y3, y4, y5⟩
    have hoF' : oF.IsDictOf (PySem.strKind rw0.row.prog w) kvs := hoF
    have a3' : ok.IsDictOf (PySem.strKind rw0.row.prog w) kk := a3
    clear F9 y1 y2 y3 y4 y5
    walk_at "my steps"
    refine Halt.go ?_
    rename News _ _ _ _ => N10
    rename Fr _ _ _ _ => F11
    refine LC_map (h₀ := s1.heap) (L := s1.heap.objs.size) (m := m4) (by rfl) (by rfl) (by decide) (by rfl) (by decide) (by rfl) (by intro _; rfl) ?src
    case src =>
      walk_at "my steps"
      refine Halt.go ?_
      walk_at "my slice"
      rename_i D1 h1 F12 N12 l12
      walk_at "my steps"
      refine Halt.go ?_
      walk_at "my slice"
      rename_i D2 h2 F13 N13 l13
      walk_at "my steps"
      refine Halt.go ?_
      rw [slice_mid8 al k9 (by (first | lia | omega)) (by (first | lia | omega)), slice_low1 al k9] at N13
      have hl1 : ((al.drop k9).take (8 - k9)).length ≤ 9 := Nat.le_trans (List.length_take_le _ _) (Nat.le_trans (Nat.sub_le _ _) (by decide))
      have hl2 : (al.take (k9 + 1)).length ≤ 9 := Nat.le_trans (List.length_take_le _ _) (Nat.le_succ_of_le (Nat.succ_le_of_lt hk8))
      refine add_lists (by k_asm) N13 (isL_of N13 (List.mem_cons_of_mem _ List.mem_cons_self)) (isL_of N13 List.mem_cons_self) ?_ (by rw [sizeLine_eq]; simp only [strValues, List.length_map]; (first | lia | omega))
      intro h14 F14 N14
      rw [← strs_app] at N14
      obtain ⟨ql, hql⟩ : ∃ ql, ql = (al.drop k9).take (8 - k9) ++ al.take (k9 + 1) := ⟨_, rfl⟩
      rw [← hql] at N14
      have hql2 : ql.map (·.1) = rowOf (pcAt (cellsOf scr) 4).pls k9 := by
        rw [hql, List.map_append, List.map_take, List.map_drop, List.map_take, hal]; rfl
      have hql3 : ql.length ≤ 18 := by rw [hql, List.length_append]; exact Nat.add_le_add hl1 hl2
      have hql4 : ∀ z ∈ ql, z.1 ∈ al.map (fun z : Str × Tok => z.1) := fun z hz => by
        rw [hql] at hz
        rcases List.mem_append.mp hz with hz | hz
        · exact List.mem_map.mpr ⟨z, List.mem_of_mem_drop (List.mem_of_mem_take hz), rfl⟩
        · exact List.mem_map.mpr ⟨z, List.mem_of_mem_take hz, rfl⟩
      clear N12 N13 F12 F13 l12 l13
      refine ⟨_, strValues ql, 0, _, (fun i y => ∃ t, y = .int (dist sk ((ql.map (·.1)).getD i (Str.ofString ""))) t), rfl, ⟨_, _, rfl⟩, F14, N14, List.mem_cons_self, by rw [strValues, List.length_map]; (first | lia | omega), ?helt, ?hQ⟩
      case helt =>
        intro i v s' m₂ C oC hv hoC hm₂ F4 N4 Q' E' hQ'
        clear F14 N14 N10 F11 N9 N6
        obtain ⟨⟨b, tb⟩, hzb, hvb⟩ : ∃ z, ql[i]? = some z ∧ v = .str z.1 z.2 := by
          rw [strValues, List.getElem?_map, Option.map_eq_some_iff] at hv
          obtain ⟨z, hz, e⟩ := hv
          exact ⟨z, hz, e.symm⟩
        dsimp only at hvb
        subst hvb
        obtain ⟨te, hte⟩ := a5 b (hql4 _ (List.mem_of_getElem? hzb)) trivial
        have hgd : (ql.map (fun z : Str × Tok => z.1)).getD i (Str.ofString "") = b := by rw [List.getD_eq_getElem?_getD, List.getElem?_map, hzb]; rfl
        walk_at "my steps"
        exact hQ' _ _ ⟨te, by rw [hgd]⟩
      case hQ =>
        intro D ys h15 tk15 hlen hys lD F15 N15
        obtain ⟨sl9, hsl, hslm⟩ := ints_of_fun (f := fun i => dist sk ((ql.map (·.1)).getD i (Str.ofString ""))) (n := ql.length) (by rw [hlen, strValues, List.length_map]) hys
        subst hsl
        have hsl2 : sl9.map (·.1) = (rowOf (pcAt (cellsOf scr) 4).pls k9).map (dist sk) := by
          rw [hslm, ← hql2]
          apply List.ext_getElem?
          intro i
          by_cases hi : i < ql.length
          · rw [List.getElem?_map, List.getElem?_range hi, List.getElem?_map, List.getElem?_map, List.getElem?_eq_getElem hi]
            show some (dist sk ((ql.map (·.1)).getD i (Str.ofString ""))) = some (dist sk (ql[i]).1)
            rw [List.getD_eq_getElem?_getD, List.getElem?_map, List.getElem?_eq_getElem hi]; rfl
          · rw [List.getElem?_eq_none (by simp; (first | lia | omega)), List.getElem?_eq_none (by simp; (first | lia | omega))]
        have hsl3 : sl9.length ≤ 18 := by
          have := congrArg List.length hslm
          rw [List.length_map, List.length_map, List.length_range] at this; (first | lia | omega)
        have hw9 := PL.rows k9 sk (by (first | lia | omega)) hsk
        rw [← hline, ← hsl2] at hw9
        have hwl := PL.wlen k9 (by (first | lia | omega))
        rw [← hline] at hwl
        clear hys hlen N10 F11 N9 N6 N14 F14
        replace N15 : News _ _ _ ((D, W.listOf (intVals sl9).toArray (intVals sl9).length) :: _) := N15
        walk_at "my steps"
        refine Halt.go ?_
        refine' use_claimN (d_seen D sl9 (intVals sl9).length) ?k1 ?k2 ?k3 ?k4 ?k5 ?kK ?kp ?kd ?ku ?_
        case k1 => k_asm
        case k2 => k_asm
        case k3 => k_asm
        case k4 => exact N15
        case k5 => k_asm
        case kK => exact rfl
        case kp => exact ⟨List.mem_cons_self, by (first | lia | omega)⟩
        case kd => walk_at "my room"
        case ku => walk_at "my units"
        intro t16 h16 tk16 F16 N16
        rw [← hw9]
        have b1 : (wordAt (stripped line) k9 != wordAt (stripped line) k9) = false := bne_self_eq_false _
        replace N16 := news_tl (news_tl (news_tl (news_tl N16)))
        clear N15
        have hrl := PL.ringlen
        rw [← hline] at hrl
        have hs1 := Txt.slice_le (stripped line) (some (k9 : Int)) none
        have hs2 := Txt.slice_le (stripped line) none (some (k9 : Int))
        walk_at "my steps"
        refine Halt.go ?_
        refine' use_claim (d_check _ _) ?k1 ?k2 ?k3 ?k4 ?k5 ?kK ?kp ?kd ?ku ?_
        case k1 => k_asm
        case k2 => k_asm
        case k3 => k_asm
        case k4 => k_asm
        case k5 => k_asm
        case kK => exact rfl
        case kp => rw [str_len_add]; (first | lia | omega)
        case kd => walk_at "my room"
        case ku => walk_at "my units"
        refine ⟨hg, ?_⟩
        intro h17 tk17 g17 hAB17 F17 N17
        have hck := PL.check k9 sk (by (first | lia | omega)) hsk
        rw [← hline] at hck
        rw [hck]
        have b2 : ((sk == Str.ofString "/") != (sk == Str.ofString "/")) = false := bne_self_eq_false _
        have hpl := PL.plen sk (List.mem_of_getElem? hsk)
        walk_at "my steps"
        refine Halt.go ?_
        refine' use_claim (d_turned _ _) ?k1 ?k2 ?k3 ?k4 ?k5 ?kK ?kp ?kd ?ku ?_
        case k1 => k_asm
        case k2 => k_asm
        case k3 => k_asm
        case k4 => k_asm
        case k5 => k_asm
        case kK => exact rfl
        case kp => (first | lia | omega)
        case kd => walk_at "my room"
        case ku => walk_at "my units"
        refine ⟨hAB17, ?_⟩
        intro t18 h18 tk18 g18 hAB18 F18 N18
        walk_at "my steps"
        rename News _ _ _ _ => N19
        rename Fr _ _ _ _ => F19
        obtain ⟨o9, N20, hc9⟩ : ∃ o9 : Obj, News _ _ _ ((s1.heap.objs.size + 1, o9) :: (R ++ own9)) ∧ o9.data = .cell (some (.ref Rk)) := ⟨_, N19, by assumption⟩
        refine EndH.mk hAB18 F19 N20 (nx := (s1.heap.objs.size + 1, o9) :: R) ⟨o9, _, _, _, _, rfl, hc9, rfl, map_put rfl u2, map_put rfl u3, map_put rfl u4, map_put rfl u5⟩ ?_ ?_ ?_
        · intro q hq
          rcases List.mem_cons.mp hq with rfl | hq
          · exact List.mem_cons_self
          · exact List.mem_cons_of_mem _ (List.mem_append_left _ hq)
        · exact fun q hq => List.mem_cons_of_mem _ (List.mem_append_right _ hq)
        · intro q hq
          rcases List.mem_cons.mp hq with rfl | hq
          · exact hoff (s1.heap.objs.size + 1, wo9) List.mem_cons_self
          · exact hoff q (List.mem_cons_of_mem _ hq)
theorem all_done : rw0.Holds := Mine.head m_law

end
end Mine
theorem PySem.Challenge.cw_il0100_01_holds : PySem.Challenge.rw_il0100_01.Holds :=
  Mine.all_done
