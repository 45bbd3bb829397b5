import PyProof.Rows.All
import Wide.All
import OpenK.AllK
import Wide.FinOn
import Lean
import PySem.Challenge.RW_to0087_01

set_option Elab.async false
local macro_rules | `(tactic| walk_at $s:str) => `(tactic| k_extra $s)
local macro_rules | `(tactic| k_room) => `(tactic| k_extra "k_room")
local macro_rules | `(tactic| k_all) => `(tactic| k_extra "k_all")
local macro_rules | `(tactic| k_lt $h:ident) => `(tactic| (k_extra "k_lt0"; skip))
local macro_rules | `(tactic| k_ne) => `(tactic| k_extra "k_ne")
local macro_rules | `(tactic| kbo_bools) => `(tactic| k_extra "kbo_bools")
local macro_rules | `(tactic| mul_fits) => `(tactic| k_extra "mul_fits")
local macro_rules | `(tactic| k_lt $h:ident) => `(tactic| (k_extra "k_lt1"; replace $h := PySem.W.allLt_of $h))
/-! # HeadP -/
section
open PySem PySem.W PyProof.Rows
set_option Elab.async false
set_option maxRecDepth 100000
set_option maxHeartbeats 400000000
namespace Mine
noncomputable abbrev pw : Program := PySem.Challenge.pw_to0087_01
noncomputable abbrev sS (s : String) : PySem.Str := PySem.Str.ofString s
noncomputable def en (P : Params) (x : PySem.Str) (t : Nat) (v : Value) : DictEntry := ⟨PyData.keyHash P x, .str x t, v⟩
noncomputable def stA (i : Nat) : Stmt := (pw.main.body[i]?).getD (.Pass ⟨0, 0, 0, 0⟩)
noncomputable def meA (i j : Nat) : Stmt := match stA i with
  | .ClassDef _ _ _ b _ _ _ _ _ _ _ => (b[j]?).getD (.Pass ⟨0, 0, 0, 0⟩)
  | s => s
noncomputable def fA : Stmt → Arguments
  | .FunctionDef _ a _ _ _ _ _ _ _ _ => a
  | _ => ⟨[], [], none, [], [], none, []⟩
noncomputable def fB : Stmt → List Stmt
  | .FunctionDef _ _ b _ _ _ _ _ _ _ => b
  | _ => []
noncomputable def fS : Stmt → Scope
  | .FunctionDef _ _ _ _ _ _ s _ _ _ => s
  | _ => ⟨.function, [], false, false, []⟩
/-- the pairs of the table b3, as the text writes them -/
noncomputable def pairsOf : List (Option PySem.Expr) → List PySem.Expr → List (Int × PySem.Str)
  | some (.Constant (.int n) _ _) :: ks, .Constant (.str s) _ _ :: vs => (n, s) :: pairsOf ks vs
  | _, _ => []
noncomputable def b3P : List (Int × PySem.Str) := match stA 17 with
  | .Assign _ (.Dict ks vs _) _ => pairsOf ks vs
  | _ => []
/-- entries as a long run lays them: three tokens a pair -/
noncomputable def ent3 : Nat → List (Int × PySem.Str) → List DictEntry
  | _, [] => []
  | t, (n, s) :: r => ⟨n, .int n t, .str s (t + 1)⟩ :: ent3 (t + 3) r
/-- entries as a short run lays them: two tokens a pair -/
noncomputable def ent2 : Nat → List (Int × PySem.Str) → List DictEntry
  | _, [] => []
  | t, (n, s) :: r => ⟨n, .int n t, .str s (t + 1)⟩ :: ent2 (t + 2) r
noncomputable def b3E : List DictEntry := ent3 454 (b3P.take 646) ++ ent2 2392 (b3P.drop 646)
noncomputable def dObj (es : List DictEntry) : Obj := ⟨.type "dict", none, .dict es.toArray es.length, #[]⟩
noncomputable def o106v5 (_ : Params) : Obj := dObj b3E
noncomputable def o107v5 (_ : Params) : Obj := dObj (ent3 505 ((b3P.drop 17).take 17))
noncomputable def o108v5 (_ : Params) : Obj := dObj (ent3 556 ((b3P.drop 34).take 17))
noncomputable def o109v5 (_ : Params) : Obj := dObj (ent3 607 ((b3P.drop 51).take 17))
noncomputable def o110v5 (_ : Params) : Obj := dObj (ent3 658 ((b3P.drop 68).take 17))
noncomputable def o111v5 (_ : Params) : Obj := dObj (ent3 709 ((b3P.drop 85).take 17))
noncomputable def o112v5 (_ : Params) : Obj := dObj (ent3 760 ((b3P.drop 102).take 17))
noncomputable def o113v5 (_ : Params) : Obj := dObj (ent3 811 ((b3P.drop 119).take 17))
noncomputable def o114v5 (_ : Params) : Obj := dObj (ent3 862 ((b3P.drop 136).take 17))
noncomputable def o115v5 (_ : Params) : Obj := dObj (ent3 913 ((b3P.drop 153).take 17))
noncomputable def o116v5 (_ : Params) : Obj := dObj (ent3 964 ((b3P.drop 170).take 17))
noncomputable def o117v5 (_ : Params) : Obj := dObj (ent3 1015 ((b3P.drop 187).take 17))
noncomputable def o118v5 (_ : Params) : Obj := dObj (ent3 1066 ((b3P.drop 204).take 17))
noncomputable def o119v5 (_ : Params) : Obj := dObj (ent3 1117 ((b3P.drop 221).take 17))
noncomputable def o120v5 (_ : Params) : Obj := dObj (ent3 1168 ((b3P.drop 238).take 17))
noncomputable def o121v5 (_ : Params) : Obj := dObj (ent3 1219 ((b3P.drop 255).take 17))
noncomputable def o122v5 (_ : Params) : Obj := dObj (ent3 1270 ((b3P.drop 272).take 17))
noncomputable def o123v5 (_ : Params) : Obj := dObj (ent3 1321 ((b3P.drop 289).take 17))
noncomputable def o124v5 (_ : Params) : Obj := dObj (ent3 1372 ((b3P.drop 306).take 17))
noncomputable def o125v5 (_ : Params) : Obj := dObj (ent3 1423 ((b3P.drop 323).take 17))
noncomputable def o126v5 (_ : Params) : Obj := dObj (ent3 1474 ((b3P.drop 340).take 17))
noncomputable def o127v5 (_ : Params) : Obj := dObj (ent3 1525 ((b3P.drop 357).take 17))
noncomputable def o128v5 (_ : Params) : Obj := dObj (ent3 1576 ((b3P.drop 374).take 17))
noncomputable def o129v5 (_ : Params) : Obj := dObj (ent3 1627 ((b3P.drop 391).take 17))
noncomputable def o130v5 (_ : Params) : Obj := dObj (ent3 1678 ((b3P.drop 408).take 17))
noncomputable def o131v5 (_ : Params) : Obj := dObj (ent3 1729 ((b3P.drop 425).take 17))
noncomputable def o132v5 (_ : Params) : Obj := dObj (ent3 1780 ((b3P.drop 442).take 17))
noncomputable def o133v5 (_ : Params) : Obj := dObj (ent3 1831 ((b3P.drop 459).take 17))
noncomputable def o134v5 (_ : Params) : Obj := dObj (ent3 1882 ((b3P.drop 476).take 17))
noncomputable def o135v5 (_ : Params) : Obj := dObj (ent3 1933 ((b3P.drop 493).take 17))
noncomputable def o136v5 (_ : Params) : Obj := dObj (ent3 1984 ((b3P.drop 510).take 17))
noncomputable def o137v5 (_ : Params) : Obj := dObj (ent3 2035 ((b3P.drop 527).take 17))
noncomputable def o138v5 (_ : Params) : Obj := dObj (ent3 2086 ((b3P.drop 544).take 17))
noncomputable def o139v5 (_ : Params) : Obj := dObj (ent3 2137 ((b3P.drop 561).take 17))
noncomputable def o140v5 (_ : Params) : Obj := dObj (ent3 2188 ((b3P.drop 578).take 17))
noncomputable def o141v5 (_ : Params) : Obj := dObj (ent3 2239 ((b3P.drop 595).take 17))
noncomputable def o142v5 (_ : Params) : Obj := dObj (ent3 2290 ((b3P.drop 612).take 17))
noncomputable def o143v5 (_ : Params) : Obj := dObj (ent3 2341 ((b3P.drop 629).take 17))
noncomputable def o144v5 (_ : Params) : Obj := dObj (ent2 2392 (b3P.drop 646))
-- state 0: 28 objects, toks 276
noncomputable def o0v0 (P : Params) : Obj := ⟨.type "dict", none, .dict [en P (sS "__name__") 1 (.str (sS "builtins") 160), en P (sS "__doc__") 2 (.builtin "builtins.__doc__:str#opaque"), en P (sS "__package__") 3 (.builtin "builtins.__package__:str#opaque"), en P (sS "__loader__") 4 (.builtin "builtins.__loader__:shared#opaque"), en P (sS "__spec__") 5 (.builtin "builtins.__spec__#opaque"), en P (sS "__build_class__") 6 (.builtin "__build_class__"), en P (PySem.Str.mk [95, 95, 105, 109, 112, 111, 114, 116, 95, 95].toArray) 7 (.builtin "__import__"), en P (sS "abs") 8 (.builtin "abs"), en P (sS "all") 9 (.builtin "all"), en P (sS "any") 10 (.builtin "any"), en P (sS "ascii") 11 (.builtin "ascii"), en P (sS "bin") 12 (.builtin "bin"), en P (sS "breakpoint") 13 (.builtin "breakpoint"), en P (sS "callable") 14 (.builtin "callable"), en P (sS "chr") 15 (.builtin "chr"), en P (sS "compile") 16 (.builtin "compile"), en P (sS "delattr") 17 (.builtin "delattr"), en P (sS "dir") 18 (.builtin "dir"), en P (sS "divmod") 19 (.builtin "divmod"), en P (sS "eval") 20 (.builtin "eval"), en P (sS "exec") 21 (.builtin "exec"), en P (sS "format") 22 (.builtin "format"), en P (sS "getattr") 23 (.builtin "getattr"), en P (sS "globals") 24 (.builtin "globals"), en P (sS "hasattr") 25 (.builtin "hasattr"), en P (sS "hash") 26 (.builtin "hash"), en P (sS "hex") 27 (.builtin "hex"), en P (sS "id") 28 (.builtin "id"), en P (sS "input") 29 (.builtin "input"), en P (sS "isinstance") 30 (.builtin "isinstance"), en P (sS "issubclass") 31 (.builtin "issubclass"), en P (sS "iter") 32 (.builtin "iter"), en P (sS "aiter") 33 (.builtin "aiter"), en P (sS "len") 34 (.builtin "len"), en P (sS "locals") 35 (.builtin "locals"), en P (sS "max") 36 (.builtin "max"), en P (sS "min") 37 (.builtin "min"), en P (sS "next") 38 (.builtin "next"), en P (sS "anext") 39 (.builtin "anext"), en P (sS "oct") 40 (.builtin "oct"), en P (sS "ord") 41 (.builtin "ord"), en P (sS "pow") 42 (.builtin "pow"), en P (sS "print") 43 (.builtin "print"), en P (sS "repr") 44 (.builtin "repr"), en P (sS "round") 45 (.builtin "round"), en P (sS "setattr") 46 (.builtin "setattr"), en P (sS "sorted") 47 (.builtin "sorted"), en P (sS "sum") 48 (.builtin "sum"), en P (sS "vars") 49 (.builtin "vars"), en P (sS "None") 50 (.none), en P (sS "Ellipsis") 51 (.ellipsis), en P (sS "NotImplemented") 52 (.notImplemented), en P (sS "False") 53 (.bool false), en P (sS "True") 54 (.bool true), en P (sS "bool") 55 (.type "bool"), en P (sS "memoryview") 56 (.type "memoryview"), en P (sS "bytearray") 57 (.type "bytearray"), en P (sS "bytes") 58 (.type "bytes"), en P (sS "classmethod") 59 (.type "classmethod"), en P (sS "complex") 60 (.type "complex"), en P (sS "dict") 61 (.type "dict"), en P (sS "enumerate") 62 (.type "enumerate"), en P (sS "filter") 63 (.type "filter"), en P (sS "float") 64 (.type "float"), en P (sS "frozenset") 65 (.type "frozenset"), en P (sS "property") 66 (.type "property"), en P (sS "int") 67 (.type "int"), en P (sS "list") 68 (.type "list"), en P (sS "map") 69 (.type "map"), en P (sS "object") 70 (.type "object"), en P (sS "range") 71 (.type "range"), en P (sS "reversed") 72 (.type "reversed"), en P (sS "set") 73 (.type "set"), en P (sS "slice") 74 (.type "slice"), en P (sS "staticmethod") 75 (.type "staticmethod"), en P (sS "str") 76 (.type "str"), en P (sS "super") 77 (.type "super"), en P (sS "tuple") 78 (.type "tuple"), en P (sS "type") 79 (.type "type"), en P (sS "zip") 80 (.type "zip"), en P (sS "__debug__") 81 (.bool true), en P (sS "BaseException") 82 (.type "BaseException"), en P (sS "BaseExceptionGroup") 83 (.type "BaseExceptionGroup"), en P (sS "Exception") 84 (.type "Exception"), en P (sS "GeneratorExit") 85 (.type "GeneratorExit"), en P (sS "KeyboardInterrupt") 86 (.type "KeyboardInterrupt"), en P (sS "SystemExit") 87 (.type "SystemExit"), en P (sS "ArithmeticError") 88 (.type "ArithmeticError"), en P (sS "AssertionError") 89 (.type "AssertionError"), en P (sS "AttributeError") 90 (.type "AttributeError"), en P (sS "BufferError") 91 (.type "BufferError"), en P (sS "EOFError") 92 (.type "EOFError"), en P (sS "ImportError") 93 (.type "ImportError"), en P (sS "LookupError") 94 (.type "LookupError"), en P (sS "MemoryError") 95 (.type "MemoryError"), en P (sS "NameError") 96 (.type "NameError"), en P (sS "OSError") 97 (.type "OSError"), en P (sS "ReferenceError") 98 (.type "ReferenceError"), en P (sS "RuntimeError") 99 (.type "RuntimeError"), en P (sS "StopAsyncIteration") 100 (.type "StopAsyncIteration"), en P (sS "StopIteration") 101 (.type "StopIteration"), en P (sS "SyntaxError") 102 (.type "SyntaxError"), en P (sS "SystemError") 103 (.type "SystemError"), en P (sS "TypeError") 104 (.type "TypeError"), en P (sS "ValueError") 105 (.type "ValueError"), en P (sS "Warning") 106 (.type "Warning"), en P (sS "FloatingPointError") 107 (.type "FloatingPointError"), en P (sS "OverflowError") 108 (.type "OverflowError"), en P (sS "ZeroDivisionError") 109 (.type "ZeroDivisionError"), en P (sS "BytesWarning") 110 (.type "BytesWarning"), en P (sS "DeprecationWarning") 111 (.type "DeprecationWarning"), en P (sS "EncodingWarning") 112 (.type "EncodingWarning"), en P (sS "FutureWarning") 113 (.type "FutureWarning"), en P (sS "ImportWarning") 114 (.type "ImportWarning"), en P (sS "PendingDeprecationWarning") 115 (.type "PendingDeprecationWarning"), en P (sS "ResourceWarning") 116 (.type "ResourceWarning"), en P (sS "RuntimeWarning") 117 (.type "RuntimeWarning"), en P (sS "SyntaxWarning") 118 (.type "SyntaxWarning"), en P (sS "UnicodeWarning") 119 (.type "UnicodeWarning"), en P (sS "UserWarning") 120 (.type "UserWarning"), en P (sS "BlockingIOError") 121 (.type "BlockingIOError"), en P (sS "ChildProcessError") 122 (.type "ChildProcessError"), en P (sS "ConnectionError") 123 (.type "ConnectionError"), en P (sS "FileExistsError") 124 (.type "FileExistsError"), en P (sS "FileNotFoundError") 125 (.type "FileNotFoundError"), en P (sS "InterruptedError") 126 (.type "InterruptedError"), en P (sS "IsADirectoryError") 127 (.type "IsADirectoryError"), en P (sS "NotADirectoryError") 128 (.type "NotADirectoryError"), en P (sS "PermissionError") 129 (.type "PermissionError"), en P (sS "ProcessLookupError") 130 (.type "ProcessLookupError"), en P (sS "TimeoutError") 131 (.type "TimeoutError"), en P (sS "IndentationError") 132 (.type "IndentationError"), en P (sS "_IncompleteInputError") 133 (.type "_IncompleteInputError"), en P (sS "IndexError") 134 (.type "IndexError"), en P (sS "KeyError") 135 (.type "KeyError"), en P (sS "ModuleNotFoundError") 136 (.type "ModuleNotFoundError"), en P (sS "NotImplementedError") 137 (.type "NotImplementedError"), en P (sS "PythonFinalizationError") 138 (.type "PythonFinalizationError"), en P (sS "RecursionError") 139 (.type "RecursionError"), en P (sS "UnboundLocalError") 140 (.type "UnboundLocalError"), en P (sS "UnicodeError") 141 (.type "UnicodeError"), en P (sS "BrokenPipeError") 142 (.type "BrokenPipeError"), en P (sS "ConnectionAbortedError") 143 (.type "ConnectionAbortedError"), en P (sS "ConnectionRefusedError") 144 (.type "ConnectionRefusedError"), en P (sS "ConnectionResetError") 145 (.type "ConnectionResetError"), en P (sS "TabError") 146 (.type "TabError"), en P (sS "UnicodeDecodeError") 147 (.type "UnicodeDecodeError"), en P (sS "UnicodeEncodeError") 148 (.type "UnicodeEncodeError"), en P (sS "UnicodeTranslateError") 149 (.type "UnicodeTranslateError"), en P (sS "ExceptionGroup") 150 (.type "ExceptionGroup"), en P (sS "EnvironmentError") 151 (.type "OSError"), en P (sS "IOError") 152 (.type "OSError"), en P (sS "open") 153 (.builtin "open"), en P (sS "quit") 154 (.builtin "builtins.quit#opaque"), en P (sS "exit") 155 (.builtin "builtins.exit#opaque"), en P (sS "copyright") 156 (.builtin "builtins.copyright#opaque"), en P (sS "credits") 157 (.builtin "builtins.credits#opaque"), en P (sS "license") 158 (.builtin "builtins.license#opaque"), en P (sS "help") 159 (.builtin "builtins.help#opaque")].toArray 159, [].toArray⟩
noncomputable def o1v0 (P : Params) : Obj := ⟨.type "dict", none, .dict [en P (sS "builtins") 162 (.ref 4), en P (sS "__main__") 163 (.ref 5), en P (sS "_sre") 244 (.ref 12)].toArray 3, [].toArray⟩
noncomputable def o2v0 (P : Params) : Obj := ⟨.none, none, .dict [en P (PySem.Str.mk [105, 109, 112, 111, 114, 116, 46, 108, 111, 97, 100, 101, 100, 46, 95, 115, 114, 101].toArray) 183 (.bool true), en P (PySem.Str.mk [99, 108, 97, 115, 115, 46, 95, 102, 114, 111, 122, 101, 110, 95, 105, 109, 112, 111, 114, 116, 108, 105, 98, 46, 66, 117, 105, 108, 116, 105, 110, 73, 109, 112, 111, 114, 116, 101, 114].toArray) 185 (.ref 14), en P (PySem.Str.mk [119, 97, 116, 99, 104, 101, 100, 46, 105, 109, 112, 111, 114, 116].toArray) 206 (.ref 18), en P (PySem.Str.mk [99, 108, 97, 115, 115, 46, 95, 102, 114, 111, 122, 101, 110, 95, 105, 109, 112, 111, 114, 116, 108, 105, 98, 46, 77, 111, 100, 117, 108, 101, 83, 112, 101, 99].toArray) 216 (.ref 22), en P (sS "sys.modules.booked-epoch") 245 (.int 3 0), en P (PySem.Str.mk [105, 109, 112, 111, 114, 116, 46, 108, 97, 116, 101, 114, 45, 108, 97, 105, 100, 46, 95, 115, 114, 101].toArray) 270 (.bool true), en P (sS "watched.library") 272 (.ref 27), en P (sS "watched.library-objects") 0 (.str (sS "\x0c") 0), en P (sS "watched.library-deep._sre") 273 (.str (sS "\x04\x00\x00\x0b\x04\x00\x00\x0b\x04\x00\x00\x03\x04\x00\x00\x0b\x08\x04dict\x02") 0)].toArray 9, [].toArray⟩
noncomputable def o3v0 (P : Params) : Obj := ⟨.type "dict", none, .dict [en P (sS "__name__") 165 (.str (sS "__main__") 164), en P (sS "__doc__") 166 (.none), en P (sS "__package__") 167 (.none), en P (sS "__loader__") 168 (.builtin "__main__.__loader__#opaque"), en P (sS "__spec__") 169 (.none), en P (sS "__annotations__") 170 (.ref 6), en P (sS "__builtins__") 171 (.ref 4), en P (sS "__file__") 173 (.str (sS "/claim/cut.py") 172), en P (sS "__cached__") 174 (.none), en P (sS "_sre") 275 (.ref 12)].toArray 10, [].toArray⟩
noncomputable def o4v0 (_ : Params) : Obj := ⟨.type "module", (some 0), .plain, [].toArray⟩
noncomputable def o5v0 (_ : Params) : Obj := ⟨.type "module", (some 3), .plain, [].toArray⟩
noncomputable def o6v0 (_ : Params) : Obj := ⟨.type "dict", none, .dict [].toArray 0, [].toArray⟩
noncomputable def o7v0 (_ : Params) : Obj := ⟨.type "tuple", none, .seq [].toArray 0, [].toArray⟩
noncomputable def o8v0 (_ : Params) : Obj := ⟨.none, none, .fields [].toArray, [].toArray⟩
noncomputable def o9v0 (_ : Params) : Obj := ⟨.type "code", none, .fields [.str (sS "<module>") 176, .str (sS "<module>") 177, .str (sS "/claim/cut.py") 178, .int 1 0, .int 0 0, .int 0 0, .int 0 0, .int 0 0, .ref 7, .bool false, .int 175 0, .ref 8, .none, .none, .none, .none, .int 179 0, .int 1 0, .str (sS "/claim/cut.py") 180].toArray, [].toArray⟩
noncomputable def o10v0 (_ : Params) : Obj := ⟨.type "frame", none, .plain, [(some (.ref 9)), (some (.ref 3)), (some (.ref 3)), none, (some (.str (sS "__main__") 164)), none, (some (.ref 0))].toArray⟩
noncomputable def o11v0 (P : Params) : Obj := ⟨.type "dict", none, .dict [en P (sS "__name__") 247 (.str (sS "_sre") 246), en P (sS "__doc__") 248 (.none), en P (sS "__package__") 250 (.str (sS "") 249), en P (sS "__loader__") 251 (.builtin "off-the-table:_sre.__loader__:shared#opaque"), en P (sS "__spec__") 252 (.builtin "off-the-table:_sre.__spec__:shared#opaque"), en P (sS "compile") 253 (.builtin "_sre.compile"), en P (sS "template") 254 (.builtin "off-the-table:_sre.template:shared#opaque"), en P (sS "getcodesize") 255 (.builtin "off-the-table:_sre.getcodesize:shared#opaque"), en P (sS "ascii_iscased") 256 (.builtin "off-the-table:_sre.ascii_iscased:shared#opaque"), en P (sS "unicode_iscased") 257 (.builtin "off-the-table:_sre.unicode_iscased:shared#opaque"), en P (sS "ascii_tolower") 258 (.builtin "off-the-table:_sre.ascii_tolower:shared#opaque"), en P (sS "unicode_tolower") 259 (.builtin "off-the-table:_sre.unicode_tolower:shared#opaque"), en P (sS "MAGIC") 261 (.int 20230612 260), en P (sS "CODESIZE") 263 (.int 4 262), en P (sS "MAXREPEAT") 265 (.int 4294967295 264), en P (sS "MAXGROUPS") 267 (.int 1073741823 266), en P (sS "copyright") 269 (.str (sS " SRE 2.2.2 Copyright (c) 1997-2002 by Secret Labs AB ") 268)].toArray 17, [].toArray⟩
noncomputable def o12v0 (_ : Params) : Obj := ⟨.type "module", (some 11), .plain, [].toArray⟩
noncomputable def o13v0 (P : Params) : Obj := ⟨.type "dict", none, .dict [en P (sS "__module__") 189 (.str (PySem.Str.mk [95, 102, 114, 111, 122, 101, 110, 95, 105, 109, 112, 111, 114, 116, 108, 105, 98].toArray) 186), en P (sS "__firstlineno__") 190 (.int 971 187), en P (sS "__doc__") 191 (.builtin "_frozen_importlib.BuiltinImporter.__doc__:str#opaque"), en P (sS "_ORIGIN") 192 (.str (sS "built-in") 188), en P (sS "find_spec") 193 (.builtin "_frozen_importlib.BuiltinImporter.find_spec#opaque"), en P (sS "create_module") 194 (.builtin "_frozen_importlib.BuiltinImporter.create_module#opaque"), en P (sS "exec_module") 195 (.builtin "_frozen_importlib.BuiltinImporter.exec_module#opaque"), en P (sS "get_code") 196 (.builtin "_frozen_importlib.BuiltinImporter.get_code#opaque"), en P (sS "get_source") 197 (.builtin "_frozen_importlib.BuiltinImporter.get_source#opaque"), en P (sS "is_package") 198 (.builtin "_frozen_importlib.BuiltinImporter.is_package#opaque"), en P (sS "load_module") 199 (.builtin "_frozen_importlib.BuiltinImporter.load_module#opaque"), en P (sS "__static_attributes__") 200 (.ref 15), en P (sS "__dict__") 202 (.ref 16), en P (sS "__weakref__") 204 (.ref 17)].toArray 14, [].toArray⟩
noncomputable def o14v0 (_ : Params) : Obj := ⟨.type "type", none, .cls ⟨(sS "BuiltinImporter"), [.type "object"], [.ref 14, .type "object"], 13, (sS "BuiltinImporter"), true, [], [], false, none, false⟩, [].toArray⟩
noncomputable def o15v0 (_ : Params) : Obj := ⟨.type "tuple", none, .seq [].toArray 0, [].toArray⟩
noncomputable def o16v0 (_ : Params) : Obj := ⟨.type "getset_descriptor", none, .fields [.str (sS "__dict__") 201, .ref 14, .builtin "function.__dict__", .builtin "function.__dict__#set"].toArray, [].toArray⟩
noncomputable def o17v0 (_ : Params) : Obj := ⟨.type "getset_descriptor", none, .fields [.str (sS "__weakref__") 203, .ref 14, .builtin "ExceptionGroup.__weakref__", .none].toArray, [].toArray⟩
noncomputable def o18v0 (_ : Params) : Obj := ⟨.none, none, .seq [.int 13 0, .str (PySem.Str.mk [6, 189, 10, 95, 95, 109, 111, 100, 117, 108, 101, 95, 95, 6, 186, 17, 95, 102, 114, 111, 122, 101, 110, 95, 105, 109, 112, 111, 114, 116, 108, 105, 98, 6, 190, 15, 95, 95, 102, 105, 114, 115, 116, 108, 105, 110, 101, 110, 111, 95, 95, 4, 187, 0, 971, 6, 191, 7, 95, 95, 100, 111, 99, 95, 95, 9, 52, 95, 102, 114, 111, 122, 101, 110, 95, 105, 109, 112, 111, 114, 116, 108, 105, 98, 46, 66, 117, 105, 108, 116, 105, 110, 73, 109, 112, 111, 114, 116, 101, 114, 46, 95, 95, 100, 111, 99, 95, 95, 58, 115, 116, 114, 35, 111, 112, 97, 113, 117, 101, 6, 192, 7, 95, 79, 82, 73, 71, 73, 78, 6, 188, 8, 98, 117, 105, 108, 116, 45, 105, 110, 6, 193, 9, 102, 105, 110, 100, 95, 115, 112, 101, 99, 9, 50, 95, 102, 114, 111, 122, 101, 110, 95, 105, 109, 112, 111, 114, 116, 108, 105, 98, 46, 66, 117, 105, 108, 116, 105, 110, 73, 109, 112, 111, 114, 116, 101, 114, 46, 102, 105, 110, 100, 95, 115, 112, 101, 99, 35, 111, 112, 97, 113, 117, 101, 6, 194, 13, 99, 114, 101, 97, 116, 101, 95, 109, 111, 100, 117, 108, 101, 9, 54, 95, 102, 114, 111, 122, 101, 110, 95, 105, 109, 112, 111, 114, 116, 108, 105, 98, 46, 66, 117, 105, 108, 116, 105, 110, 73, 109, 112, 111, 114, 116, 101, 114, 46, 99, 114, 101, 97, 116, 101, 95, 109, 111, 100, 117, 108, 101, 35, 111, 112, 97, 113, 117, 101, 6, 195, 11, 101, 120, 101, 99, 95, 109, 111, 100, 117, 108, 101, 9, 52, 95, 102, 114, 111, 122, 101, 110, 95, 105, 109, 112, 111, 114, 116, 108, 105, 98, 46, 66, 117, 105, 108, 116, 105, 110, 73, 109, 112, 111, 114, 116, 101, 114, 46, 101, 120, 101, 99, 95, 109, 111, 100, 117, 108, 101, 35, 111, 112, 97, 113, 117, 101, 6, 196, 8, 103, 101, 116, 95, 99, 111, 100, 101, 9, 49, 95, 102, 114, 111, 122, 101, 110, 95, 105, 109, 112, 111, 114, 116, 108, 105, 98, 46, 66, 117, 105, 108, 116, 105, 110, 73, 109, 112, 111, 114, 116, 101, 114, 46, 103, 101, 116, 95, 99, 111, 100, 101, 35, 111, 112, 97, 113, 117, 101, 6, 197, 10, 103, 101, 116, 95, 115, 111, 117, 114, 99, 101, 9, 51, 95, 102, 114, 111, 122, 101, 110, 95, 105, 109, 112, 111, 114, 116, 108, 105, 98, 46, 66, 117, 105, 108, 116, 105, 110, 73, 109, 112, 111, 114, 116, 101, 114, 46, 103, 101, 116, 95, 115, 111, 117, 114, 99, 101, 35, 111, 112, 97, 113, 117, 101, 6, 198, 10, 105, 115, 95, 112, 97, 99, 107, 97, 103, 101, 9, 51, 95, 102, 114, 111, 122, 101, 110, 95, 105, 109, 112, 111, 114, 116, 108, 105, 98, 46, 66, 117, 105, 108, 116, 105, 110, 73, 109, 112, 111, 114, 116, 101, 114, 46, 105, 115, 95, 112, 97, 99, 107, 97, 103, 101, 35, 111, 112, 97, 113, 117, 101, 6, 199, 11, 108, 111, 97, 100, 95, 109, 111, 100, 117, 108, 101, 9, 52, 95, 102, 114, 111, 122, 101, 110, 95, 105, 109, 112, 111, 114, 116, 108, 105, 98, 46, 66, 117, 105, 108, 116, 105, 110, 73, 109, 112, 111, 114, 116, 101, 114, 46, 108, 111, 97, 100, 95, 109, 111, 100, 117, 108, 101, 35, 111, 112, 97, 113, 117, 101, 6, 200, 21, 95, 95, 115, 116, 97, 116, 105, 99, 95, 97, 116, 116, 114, 105, 98, 117, 116, 101, 115, 95, 95, 4, 0, 0, 15, 6, 202, 8, 95, 95, 100, 105, 99, 116, 95, 95, 4, 0, 0, 16, 6, 204, 11, 95, 95, 119, 101, 97, 107, 114, 101, 102, 95, 95, 4, 0, 0, 17].toArray) 0, .bool true, .bool true, .str (sS "") 205, .int 21 0, .str (PySem.Str.mk [6, 227, 10, 95, 95, 109, 111, 100, 117, 108, 101, 95, 95, 6, 217, 17, 95, 102, 114, 111, 122, 101, 110, 95, 105, 109, 112, 111, 114, 116, 108, 105, 98, 6, 228, 15, 95, 95, 102, 105, 114, 115, 116, 108, 105, 110, 101, 110, 111, 95, 95, 4, 218, 0, 562, 6, 229, 7, 95, 95, 100, 111, 99, 95, 95, 9, 47, 95, 102, 114, 111, 122, 101, 110, 95, 105, 109, 112, 111, 114, 116, 108, 105, 98, 46, 77, 111, 100, 117, 108, 101, 83, 112, 101, 99, 46, 95, 95, 100, 111, 99, 95, 95, 58, 115, 116, 114, 35, 111, 112, 97, 113, 117, 101, 6, 230, 8, 95, 95, 105, 110, 105, 116, 95, 95, 9, 44, 95, 102, 114, 111, 122, 101, 110, 95, 105, 109, 112, 111, 114, 116, 108, 105, 98, 46, 77, 111, 100, 117, 108, 101, 83, 112, 101, 99, 46, 95, 95, 105, 110, 105, 116, 95, 95, 35, 111, 112, 97, 113, 117, 101, 6, 231, 8, 95, 95, 114, 101, 112, 114, 95, 95, 9, 44, 95, 102, 114, 111, 122, 101, 110, 95, 105, 109, 112, 111, 114, 116, 108, 105, 98, 46, 77, 111, 100, 117, 108, 101, 83, 112, 101, 99, 46, 95, 95, 114, 101, 112, 114, 95, 95, 35, 111, 112, 97, 113, 117, 101, 6, 232, 6, 95, 95, 101, 113, 95, 95, 9, 42, 95, 102, 114, 111, 122, 101, 110, 95, 105, 109, 112, 111, 114, 116, 108, 105, 98, 46, 77, 111, 100, 117, 108, 101, 83, 112, 101, 99, 46, 95, 95, 101, 113, 95, 95, 35, 111, 112, 97, 113, 117, 101, 6, 233, 6, 99, 97, 99, 104, 101, 100, 9, 42, 95, 102, 114, 111, 122, 101, 110, 95, 105, 109, 112, 111, 114, 116, 108, 105, 98, 46, 77, 111, 100, 117, 108, 101, 83, 112, 101, 99, 46, 99, 97, 99, 104, 101, 100, 35, 111, 112, 97, 113, 117, 101, 6, 234, 6, 112, 97, 114, 101, 110, 116, 9, 42, 95, 102, 114, 111, 122, 101, 110, 95, 105, 109, 112, 111, 114, 116, 108, 105, 98, 46, 77, 111, 100, 117, 108, 101, 83, 112, 101, 99, 46, 112, 97, 114, 101, 110, 116, 35, 111, 112, 97, 113, 117, 101, 6, 235, 12, 104, 97, 115, 95, 108, 111, 99, 97, 116, 105, 111, 110, 9, 48, 95, 102, 114, 111, 122, 101, 110, 95, 105, 109, 112, 111, 114, 116, 108, 105, 98, 46, 77, 111, 100, 117, 108, 101, 83, 112, 101, 99, 46, 104, 97, 115, 95, 108, 111, 99, 97, 116, 105, 111, 110, 35, 111, 112, 97, 113, 117, 101, 6, 236, 21, 95, 95, 115, 116, 97, 116, 105, 99, 95, 97, 116, 116, 114, 105, 98, 117, 116, 101, 115, 95, 95, 4, 0, 0, 23, 6, 238, 8, 95, 95, 100, 105, 99, 116, 95, 95, 4, 0, 0, 24, 6, 240, 11, 95, 95, 119, 101, 97, 107, 114, 101, 102, 95, 95, 4, 0, 0, 25, 6, 241, 8, 95, 95, 104, 97, 115, 104, 95, 95, 0].toArray) 0, .bool true, .bool true, .str (sS "") 242].toArray 1, [].toArray⟩
noncomputable def o19v0 (_ : Params) : Obj := ⟨.type "list", none, .seq [].toArray 0, [].toArray⟩
noncomputable def o20v0 (P : Params) : Obj := ⟨.type "dict", none, .dict [en P (sS "name") 208 (.str (sS "_sre") 207), en P (sS "loader") 209 (.ref 14), en P (sS "origin") 210 (.str (sS "built-in") 184), en P (sS "loader_state") 211 (.none), en P (sS "submodule_search_locations") 212 (.none), en P (sS "_uninitialized_submodules") 213 (.ref 19), en P (sS "_set_fileattr") 214 (.bool false), en P (sS "_cached") 215 (.none), en P (sS "_initializing") 243 (.bool false)].toArray 9, [].toArray⟩
noncomputable def o21v0 (P : Params) : Obj := ⟨.type "dict", none, .dict [en P (sS "__module__") 227 (.str (PySem.Str.mk [95, 102, 114, 111, 122, 101, 110, 95, 105, 109, 112, 111, 114, 116, 108, 105, 98].toArray) 217), en P (sS "__firstlineno__") 228 (.int 562 218), en P (sS "__doc__") 229 (.builtin "_frozen_importlib.ModuleSpec.__doc__:str#opaque"), en P (sS "__init__") 230 (.builtin "_frozen_importlib.ModuleSpec.__init__#opaque"), en P (sS "__repr__") 231 (.builtin "_frozen_importlib.ModuleSpec.__repr__#opaque"), en P (sS "__eq__") 232 (.builtin "_frozen_importlib.ModuleSpec.__eq__#opaque"), en P (sS "cached") 233 (.builtin "_frozen_importlib.ModuleSpec.cached#opaque"), en P (sS "parent") 234 (.builtin "_frozen_importlib.ModuleSpec.parent#opaque"), en P (sS "has_location") 235 (.builtin "_frozen_importlib.ModuleSpec.has_location#opaque"), en P (sS "__static_attributes__") 236 (.ref 23), en P (sS "__dict__") 238 (.ref 24), en P (sS "__weakref__") 240 (.ref 25), en P (sS "__hash__") 241 (.none)].toArray 13, [].toArray⟩
noncomputable def o22v0 (_ : Params) : Obj := ⟨.type "type", none, .cls ⟨(sS "ModuleSpec"), [.type "object"], [.ref 22, .type "object"], 21, (sS "ModuleSpec"), true, [], [], false, none, false⟩, [].toArray⟩
noncomputable def o23v0 (_ : Params) : Obj := ⟨.type "tuple", none, .seq [.str (sS "_cached") 219, .str (sS "_set_fileattr") 220, .str (sS "_uninitialized_submodules") 221, .str (sS "loader") 222, .str (sS "loader_state") 223, .str (sS "name") 224, .str (sS "origin") 225, .str (sS "submodule_search_locations") 226].toArray 0, [].toArray⟩
noncomputable def o24v0 (_ : Params) : Obj := ⟨.type "getset_descriptor", none, .fields [.str (sS "__dict__") 237, .ref 22, .builtin "function.__dict__", .builtin "function.__dict__#set"].toArray, [].toArray⟩
noncomputable def o25v0 (_ : Params) : Obj := ⟨.type "getset_descriptor", none, .fields [.str (sS "__weakref__") 239, .ref 22, .builtin "ExceptionGroup.__weakref__", .none].toArray, [].toArray⟩
noncomputable def o26v0 (_ : Params) : Obj := ⟨.ref 22, (some 20), .plain, [].toArray⟩
noncomputable def o27v0 (_ : Params) : Obj := ⟨.none, none, .seq [.int 11 0, .str (PySem.Str.mk [6, 247, 8, 95, 95, 110, 97, 109, 101, 95, 95, 6, 246, 4, 95, 115, 114, 101, 6, 248, 7, 95, 95, 100, 111, 99, 95, 95, 0, 6, 250, 11, 95, 95, 112, 97, 99, 107, 97, 103, 101, 95, 95, 6, 249, 0, 6, 251, 10, 95, 95, 108, 111, 97, 100, 101, 114, 95, 95, 4, 0, 0, 14, 6, 252, 8, 95, 95, 115, 112, 101, 99, 95, 95, 4, 0, 0, 26, 6, 253, 7, 99, 111, 109, 112, 105, 108, 101, 9, 12, 95, 115, 114, 101, 46, 99, 111, 109, 112, 105, 108, 101, 6, 254, 8, 116, 101, 109, 112, 108, 97, 116, 101, 9, 13, 95, 115, 114, 101, 46, 116, 101, 109, 112, 108, 97, 116, 101, 6, 255, 11, 103, 101, 116, 99, 111, 100, 101, 115, 105, 122, 101, 9, 16, 95, 115, 114, 101, 46, 103, 101, 116, 99, 111, 100, 101, 115, 105, 122, 101, 6, 256, 13, 97, 115, 99, 105, 105, 95, 105, 115, 99, 97, 115, 101, 100, 9, 18, 95, 115, 114, 101, 46, 97, 115, 99, 105, 105, 95, 105, 115, 99, 97, 115, 101, 100, 6, 257, 15, 117, 110, 105, 99, 111, 100, 101, 95, 105, 115, 99, 97, 115, 101, 100, 9, 20, 95, 115, 114, 101, 46, 117, 110, 105, 99, 111, 100, 101, 95, 105, 115, 99, 97, 115, 101, 100, 6, 258, 13, 97, 115, 99, 105, 105, 95, 116, 111, 108, 111, 119, 101, 114, 9, 18, 95, 115, 114, 101, 46, 97, 115, 99, 105, 105, 95, 116, 111, 108, 111, 119, 101, 114, 6, 259, 15, 117, 110, 105, 99, 111, 100, 101, 95, 116, 111, 108, 111, 119, 101, 114, 9, 20, 95, 115, 114, 101, 46, 117, 110, 105, 99, 111, 100, 101, 95, 116, 111, 108, 111, 119, 101, 114, 6, 261, 5, 77, 65, 71, 73, 67, 4, 260, 0, 20230612, 6, 263, 8, 67, 79, 68, 69, 83, 73, 90, 69, 4, 262, 0, 4, 6, 265, 9, 77, 65, 88, 82, 69, 80, 69, 65, 84, 4, 264, 0, 4294967295, 6, 267, 9, 77, 65, 88, 71, 82, 79, 85, 80, 83, 4, 266, 0, 1073741823, 6, 269, 9, 99, 111, 112, 121, 114, 105, 103, 104, 116, 6, 268, 53, 32, 83, 82, 69, 32, 50, 46, 50, 46, 50, 32, 67, 111, 112, 121, 114, 105, 103, 104, 116, 32, 40, 99, 41, 32, 49, 57, 57, 55, 45, 50, 48, 48, 50, 32, 98, 121, 32, 83, 101, 99, 114, 101, 116, 32, 76, 97, 98, 115, 32, 65, 66, 32].toArray) 0, .bool true, .bool false, .str (sS "_sre") 271].toArray 0, [].toArray⟩
noncomputable def tr0 (P : Params) : BT := (.node (o0v0 P) (.node (o1v0 P) (.node (o3v0 P) (.node (o7v0 P) (.node (o15v0 P) .nil .nil) (.node (o23v0 P) .nil .nil)) (.node (o11v0 P) (.node (o19v0 P) .nil .nil) (.node (o27v0 P) .nil .nil))) (.node (o5v0 P) (.node (o9v0 P) (.node (o17v0 P) .nil .nil) (.node (o25v0 P) .nil .nil)) (.node (o13v0 P) (.node (o21v0 P) .nil .nil) .nil))) (.node (o2v0 P) (.node (o4v0 P) (.node (o8v0 P) (.node (o16v0 P) .nil .nil) (.node (o24v0 P) .nil .nil)) (.node (o12v0 P) (.node (o20v0 P) .nil .nil) .nil)) (.node (o6v0 P) (.node (o10v0 P) (.node (o18v0 P) .nil .nil) (.node (o26v0 P) .nil .nil)) (.node (o14v0 P) (.node (o22v0 P) .nil .nil) .nil))))
noncomputable def hp0 (P : Params) : Heap := ⟨[o0v0 P, o1v0 P, o2v0 P, o3v0 P, o4v0 P, o5v0 P, o6v0 P, o7v0 P, o8v0 P, o9v0 P, o10v0 P, o11v0 P, o12v0 P, o13v0 P, o14v0 P, o15v0 P, o16v0 P, o17v0 P, o18v0 P, o19v0 P, o20v0 P, o21v0 P, o22v0 P, o23v0 P, o24v0 P, o25v0 P, o26v0 P, o27v0 P].toArray, {}⟩
-- state 1: 32 objects, toks 282
noncomputable def o28v1 (_ : Params) : Obj := ⟨.type "tuple", none, .seq [].toArray 0, [].toArray⟩
noncomputable def o29v1 (_ : Params) : Obj := ⟨.none, none, .fields [].toArray, [].toArray⟩
noncomputable def o30v1 (_ : Params) : Obj := ⟨.type "code", none, .fields [.str (sS "<module>") 277, .str (sS "<module>") 278, .str (sS "/claim/cut.py") 279, .int 1 0, .int 0 0, .int 0 0, .int 0 0, .int 0 0, .ref 28, .bool false, .int 276 0, .ref 29, .none, .none, .none, .none, .int 280 0, .int 1 0, .str (sS "/claim/cut.py") 281].toArray, [].toArray⟩
noncomputable def o31v1 (_ : Params) : Obj := ⟨.type "frame", none, .plain, [(some (.ref 30)), (some (.ref 3)), (some (.ref 3)), none, (some (.str (sS "__main__") 164)), none, (some (.ref 0))].toArray⟩
noncomputable def tr1 (P : Params) : BT := (.node (o0v0 P) (.node (o1v0 P) (.node (o3v0 P) (.node (o7v0 P) (.node (o15v0 P) (.node (o31v1 P) .nil .nil) .nil) (.node (o23v0 P) .nil .nil)) (.node (o11v0 P) (.node (o19v0 P) .nil .nil) (.node (o27v0 P) .nil .nil))) (.node (o5v0 P) (.node (o9v0 P) (.node (o17v0 P) .nil .nil) (.node (o25v0 P) .nil .nil)) (.node (o13v0 P) (.node (o21v0 P) .nil .nil) (.node (o29v1 P) .nil .nil)))) (.node (o2v0 P) (.node (o4v0 P) (.node (o8v0 P) (.node (o16v0 P) .nil .nil) (.node (o24v0 P) .nil .nil)) (.node (o12v0 P) (.node (o20v0 P) .nil .nil) (.node (o28v1 P) .nil .nil))) (.node (o6v0 P) (.node (o10v0 P) (.node (o18v0 P) .nil .nil) (.node (o26v0 P) .nil .nil)) (.node (o14v0 P) (.node (o22v0 P) .nil .nil) (.node (o30v1 P) .nil .nil)))))
-- state 2: 88 objects, toks 387
noncomputable def o3v2 (P : Params) : Obj := ⟨.type "dict", none, .dict [en P (sS "__name__") 165 (.str (sS "cpy313.stringprep") 385), en P (sS "__doc__") 166 (.none), en P (sS "__package__") 167 (.none), en P (sS "__loader__") 168 (.builtin "__main__.__loader__#opaque"), en P (sS "__spec__") 169 (.none), en P (sS "__annotations__") 170 (.ref 6), en P (sS "__builtins__") 171 (.ref 4), en P (sS "__file__") 173 (.str (sS "/claim/cut.py") 172), en P (sS "__cached__") 174 (.none), en P (sS "_sre") 275 (.ref 12), en P (sS "_wall") 288 (.ref 38), en P (sS "_MOVE_COST") 292 (.int 2 291), en P (sS "_CASE_COST") 294 (.int 1 293), en P (sS "_substitution_cost") 302 (.ref 45), en P (sS "_DIV_LIMIT") 306 (.int 4000 305), en P (sS "_div2n1n") 323 (.ref 52), en P (sS "_div3n2n") 337 (.ref 59), en P (sS "_int2digits") 348 (.ref 66), en P (sS "_digits2int") 359 (.ref 73), en P (sS "_divmod_pos") 374 (.ref 80), en P (sS "int_divmod") 384 (.ref 87)].toArray 21, [].toArray⟩
noncomputable def o29v2 (_ : Params) : Obj := ⟨.none, none, .fields [.int 2 0, .int 0 0, .ref 37, .int 8 0, .int 0 0, .ref 44, .int 16 0, .int 0 0, .ref 51, .int 32 0, .int 0 0, .ref 58, .int 42 0, .int 0 0, .ref 65, .int 58 0, .int 0 0, .ref 72, .int 67 0, .int 0 0, .ref 79, .int 78 0, .int 0 0, .ref 86].toArray, [].toArray⟩
noncomputable def o32v2 (_ : Params) : Obj := ⟨.type "tuple", none, .seq [].toArray 0, [].toArray⟩
noncomputable def o33v2 (_ : Params) : Obj := ⟨.none, none, .fields [].toArray, [].toArray⟩
noncomputable def o34v2 (_ : Params) : Obj := ⟨.type "tuple", none, .seq [.str (sS "k") 285].toArray 0, [].toArray⟩
noncomputable def o35v2 (_ : Params) : Obj := ⟨.type "tuple", none, .seq [].toArray 0, [].toArray⟩
noncomputable def o36v2 (_ : Params) : Obj := ⟨.none, none, .func ⟨(sS "_wall"), (sS "_wall"), fA (stA 1), .stmts (fB (stA 1)), fS (stA 1), 0, [], .none, .none, .none, .none, none, .none, .none, 0⟩, [].toArray⟩
noncomputable def o37v2 (_ : Params) : Obj := ⟨.type "code", none, .fields [.str (sS "_wall") 282, .str (sS "_wall") 283, .str (sS "/claim/cut.py") 284, .int 2 0, .int 1 0, .int 0 0, .int 0 0, .int 3 0, .ref 32, .bool true, .int 276 0, .ref 33, .none, .ref 34, .ref 35, .ref 36, .int 286 0, .int 2 0, .str (sS "/claim/cut.py") 287].toArray, [].toArray⟩
noncomputable def o38v2 (_ : Params) : Obj := ⟨.type "function", none, .func ⟨(sS "_wall"), (sS "_wall"), fA (stA 1), .stmts (fB (stA 1)), fS (stA 1), 3, [], .none, .none, .none, .str (sS "__main__") 164, none, .ref 37, .none, 0⟩, [].toArray⟩
noncomputable def o39v2 (_ : Params) : Obj := ⟨.type "tuple", none, .seq [].toArray 0, [].toArray⟩
noncomputable def o40v2 (_ : Params) : Obj := ⟨.none, none, .fields [].toArray, [].toArray⟩
noncomputable def o41v2 (_ : Params) : Obj := ⟨.type "tuple", none, .seq [.str (sS "ch_a") 298, .str (sS "ch_b") 299].toArray 0, [].toArray⟩
noncomputable def o42v2 (_ : Params) : Obj := ⟨.type "tuple", none, .seq [].toArray 0, [].toArray⟩
noncomputable def o43v2 (_ : Params) : Obj := ⟨.none, none, .func ⟨(sS "_substitution_cost"), (sS "_substitution_cost"), fA (stA 5), .stmts (fB (stA 5)), fS (stA 5), 0, [], .none, .none, .none, .none, none, .none, .none, 0⟩, [].toArray⟩
noncomputable def o44v2 (_ : Params) : Obj := ⟨.type "code", none, .fields [.str (sS "_substitution_cost") 295, .str (sS "_substitution_cost") 296, .str (sS "/claim/cut.py") 297, .int 8 0, .int 2 0, .int 0 0, .int 0 0, .int 3 0, .ref 39, .bool true, .int 276 0, .ref 40, .none, .ref 41, .ref 42, .ref 43, .int 300 0, .int 8 0, .str (sS "/claim/cut.py") 301].toArray, [].toArray⟩
noncomputable def o45v2 (_ : Params) : Obj := ⟨.type "function", none, .func ⟨(sS "_substitution_cost"), (sS "_substitution_cost"), fA (stA 5), .stmts (fB (stA 5)), fS (stA 5), 3, [], .none, .none, .none, .str (sS "cpy313.traceback") 289, none, .ref 44, .none, 0⟩, [].toArray⟩
noncomputable def o46v2 (_ : Params) : Obj := ⟨.type "tuple", none, .seq [].toArray 0, [].toArray⟩
noncomputable def o47v2 (_ : Params) : Obj := ⟨.none, none, .fields [].toArray, [].toArray⟩
noncomputable def o48v2 (_ : Params) : Obj := ⟨.type "tuple", none, .seq [.str (sS "a") 310, .str (sS "b") 311, .str (sS "n") 312, .str (sS "pad") 313, .str (sS "half_n") 314, .str (sS "mask") 315, .str (sS "b1") 316, .str (sS "b2") 317, .str (sS "q1") 318, .str (sS "r") 319, .str (sS "q2") 320].toArray 0, [].toArray⟩
noncomputable def o49v2 (_ : Params) : Obj := ⟨.type "tuple", none, .seq [].toArray 0, [].toArray⟩
noncomputable def o50v2 (_ : Params) : Obj := ⟨.none, none, .func ⟨(sS "_div2n1n"), (sS "_div2n1n"), fA (stA 8), .stmts (fB (stA 8)), fS (stA 8), 0, [], .none, .none, .none, .none, none, .none, .none, 0⟩, [].toArray⟩
noncomputable def o51v2 (_ : Params) : Obj := ⟨.type "code", none, .fields [.str (sS "_div2n1n") 307, .str (sS "_div2n1n") 308, .str (sS "/claim/cut.py") 309, .int 16 0, .int 3 0, .int 0 0, .int 0 0, .int 3 0, .ref 46, .bool true, .int 276 0, .ref 47, .none, .ref 48, .ref 49, .ref 50, .int 321 0, .int 16 0, .str (sS "/claim/cut.py") 322].toArray, [].toArray⟩
noncomputable def o52v2 (_ : Params) : Obj := ⟨.type "function", none, .func ⟨(sS "_div2n1n"), (sS "_div2n1n"), fA (stA 8), .stmts (fB (stA 8)), fS (stA 8), 3, [], .none, .none, .none, .str (sS "cpy313._pylong") 303, none, .ref 51, .none, 0⟩, [].toArray⟩
noncomputable def o53v2 (_ : Params) : Obj := ⟨.type "tuple", none, .seq [].toArray 0, [].toArray⟩
noncomputable def o54v2 (_ : Params) : Obj := ⟨.none, none, .fields [].toArray, [].toArray⟩
noncomputable def o55v2 (_ : Params) : Obj := ⟨.type "tuple", none, .seq [.str (sS "a12") 327, .str (sS "a3") 328, .str (sS "b") 329, .str (sS "b1") 330, .str (sS "b2") 331, .str (sS "n") 332, .str (sS "q") 333, .str (sS "r") 334].toArray 0, [].toArray⟩
noncomputable def o56v2 (_ : Params) : Obj := ⟨.type "tuple", none, .seq [].toArray 0, [].toArray⟩
noncomputable def o57v2 (_ : Params) : Obj := ⟨.none, none, .func ⟨(sS "_div3n2n"), (sS "_div3n2n"), fA (stA 9), .stmts (fB (stA 9)), fS (stA 9), 0, [], .none, .none, .none, .none, none, .none, .none, 0⟩, [].toArray⟩
noncomputable def o58v2 (_ : Params) : Obj := ⟨.type "code", none, .fields [.str (sS "_div3n2n") 324, .str (sS "_div3n2n") 325, .str (sS "/claim/cut.py") 326, .int 32 0, .int 6 0, .int 0 0, .int 0 0, .int 3 0, .ref 53, .bool true, .int 276 0, .ref 54, .none, .ref 55, .ref 56, .ref 57, .int 335 0, .int 32 0, .str (sS "/claim/cut.py") 336].toArray, [].toArray⟩
noncomputable def o59v2 (_ : Params) : Obj := ⟨.type "function", none, .func ⟨(sS "_div3n2n"), (sS "_div3n2n"), fA (stA 9), .stmts (fB (stA 9)), fS (stA 9), 3, [], .none, .none, .none, .str (sS "cpy313._pylong") 303, none, .ref 58, .none, 0⟩, [].toArray⟩
noncomputable def o60v2 (_ : Params) : Obj := ⟨.type "tuple", none, .seq [].toArray 0, [].toArray⟩
noncomputable def o61v2 (_ : Params) : Obj := ⟨.none, none, .fields [].toArray, [].toArray⟩
noncomputable def o62v2 (_ : Params) : Obj := ⟨.type "tuple", none, .seq [.str (sS "a") 341, .str (sS "n") 342].toArray 0, [].toArray⟩
noncomputable def o63v2 (_ : Params) : Obj := ⟨.type "tuple", none, .seq [.str (sS "n") 343, .str (sS "a_digits") 344, .str (sS "inner") 345].toArray 0, [].toArray⟩
noncomputable def o64v2 (_ : Params) : Obj := ⟨.none, none, .func ⟨(sS "_int2digits"), (sS "_int2digits"), fA (stA 10), .stmts (fB (stA 10)), fS (stA 10), 0, [], .none, .none, .none, .none, none, .none, .none, 0⟩, [].toArray⟩
noncomputable def o65v2 (_ : Params) : Obj := ⟨.type "code", none, .fields [.str (sS "_int2digits") 338, .str (sS "_int2digits") 339, .str (sS "/claim/cut.py") 340, .int 42 0, .int 2 0, .int 0 0, .int 0 0, .int 3 0, .ref 60, .bool true, .int 276 0, .ref 61, .none, .ref 62, .ref 63, .ref 64, .int 346 0, .int 42 0, .str (sS "/claim/cut.py") 347].toArray, [].toArray⟩
noncomputable def o66v2 (_ : Params) : Obj := ⟨.type "function", none, .func ⟨(sS "_int2digits"), (sS "_int2digits"), fA (stA 10), .stmts (fB (stA 10)), fS (stA 10), 3, [], .none, .none, .none, .str (sS "cpy313._pylong") 303, none, .ref 65, .none, 0⟩, [].toArray⟩
noncomputable def o67v2 (_ : Params) : Obj := ⟨.type "tuple", none, .seq [].toArray 0, [].toArray⟩
noncomputable def o68v2 (_ : Params) : Obj := ⟨.none, none, .fields [].toArray, [].toArray⟩
noncomputable def o69v2 (_ : Params) : Obj := ⟨.type "tuple", none, .seq [.str (sS "digits") 352, .str (sS "n") 353].toArray 0, [].toArray⟩
noncomputable def o70v2 (_ : Params) : Obj := ⟨.type "tuple", none, .seq [.str (sS "digits") 354, .str (sS "n") 355, .str (sS "inner") 356].toArray 0, [].toArray⟩
noncomputable def o71v2 (_ : Params) : Obj := ⟨.none, none, .func ⟨(sS "_digits2int"), (sS "_digits2int"), fA (stA 11), .stmts (fB (stA 11)), fS (stA 11), 0, [], .none, .none, .none, .none, none, .none, .none, 0⟩, [].toArray⟩
noncomputable def o72v2 (_ : Params) : Obj := ⟨.type "code", none, .fields [.str (sS "_digits2int") 349, .str (sS "_digits2int") 350, .str (sS "/claim/cut.py") 351, .int 58 0, .int 2 0, .int 0 0, .int 0 0, .int 3 0, .ref 67, .bool true, .int 276 0, .ref 68, .none, .ref 69, .ref 70, .ref 71, .int 357 0, .int 58 0, .str (sS "/claim/cut.py") 358].toArray, [].toArray⟩
noncomputable def o73v2 (_ : Params) : Obj := ⟨.type "function", none, .func ⟨(sS "_digits2int"), (sS "_digits2int"), fA (stA 11), .stmts (fB (stA 11)), fS (stA 11), 3, [], .none, .none, .none, .str (sS "cpy313._pylong") 303, none, .ref 72, .none, 0⟩, [].toArray⟩
noncomputable def o74v2 (_ : Params) : Obj := ⟨.type "tuple", none, .seq [].toArray 0, [].toArray⟩
noncomputable def o75v2 (_ : Params) : Obj := ⟨.none, none, .fields [].toArray, [].toArray⟩
noncomputable def o76v2 (_ : Params) : Obj := ⟨.type "tuple", none, .seq [.str (sS "a") 363, .str (sS "b") 364, .str (sS "n") 365, .str (sS "a_digits") 366, .str (sS "r") 367, .str (sS "q_digits") 368, .str (sS "a_digit") 369, .str (sS "q_digit") 370, .str (sS "q") 371].toArray 0, [].toArray⟩
noncomputable def o77v2 (_ : Params) : Obj := ⟨.type "tuple", none, .seq [].toArray 0, [].toArray⟩
noncomputable def o78v2 (_ : Params) : Obj := ⟨.none, none, .func ⟨(sS "_divmod_pos"), (sS "_divmod_pos"), fA (stA 12), .stmts (fB (stA 12)), fS (stA 12), 0, [], .none, .none, .none, .none, none, .none, .none, 0⟩, [].toArray⟩
noncomputable def o79v2 (_ : Params) : Obj := ⟨.type "code", none, .fields [.str (sS "_divmod_pos") 360, .str (sS "_divmod_pos") 361, .str (sS "/claim/cut.py") 362, .int 67 0, .int 2 0, .int 0 0, .int 0 0, .int 3 0, .ref 74, .bool true, .int 276 0, .ref 75, .none, .ref 76, .ref 77, .ref 78, .int 372 0, .int 67 0, .str (sS "/claim/cut.py") 373].toArray, [].toArray⟩
noncomputable def o80v2 (_ : Params) : Obj := ⟨.type "function", none, .func ⟨(sS "_divmod_pos"), (sS "_divmod_pos"), fA (stA 12), .stmts (fB (stA 12)), fS (stA 12), 3, [], .none, .none, .none, .str (sS "cpy313._pylong") 303, none, .ref 79, .none, 0⟩, [].toArray⟩
noncomputable def o81v2 (_ : Params) : Obj := ⟨.type "tuple", none, .seq [].toArray 0, [].toArray⟩
noncomputable def o82v2 (_ : Params) : Obj := ⟨.none, none, .fields [].toArray, [].toArray⟩
noncomputable def o83v2 (_ : Params) : Obj := ⟨.type "tuple", none, .seq [.str (sS "a") 378, .str (sS "b") 379, .str (sS "q") 380, .str (sS "r") 381].toArray 0, [].toArray⟩
noncomputable def o84v2 (_ : Params) : Obj := ⟨.type "tuple", none, .seq [].toArray 0, [].toArray⟩
noncomputable def o85v2 (_ : Params) : Obj := ⟨.none, none, .func ⟨(sS "int_divmod"), (sS "int_divmod"), fA (stA 13), .stmts (fB (stA 13)), fS (stA 13), 0, [], .none, .none, .none, .none, none, .none, .none, 0⟩, [].toArray⟩
noncomputable def o86v2 (_ : Params) : Obj := ⟨.type "code", none, .fields [.str (sS "int_divmod") 375, .str (sS "int_divmod") 376, .str (sS "/claim/cut.py") 377, .int 78 0, .int 2 0, .int 0 0, .int 0 0, .int 3 0, .ref 81, .bool true, .int 276 0, .ref 82, .none, .ref 83, .ref 84, .ref 85, .int 382 0, .int 78 0, .str (sS "/claim/cut.py") 383].toArray, [].toArray⟩
noncomputable def o87v2 (_ : Params) : Obj := ⟨.type "function", none, .func ⟨(sS "int_divmod"), (sS "int_divmod"), fA (stA 13), .stmts (fB (stA 13)), fS (stA 13), 3, [], .none, .none, .none, .str (sS "cpy313._pylong") 303, none, .ref 86, .none, 0⟩, [].toArray⟩
noncomputable def tr2 (P : Params) : BT := (.node (o0v0 P) (.node (o1v0 P) (.node (o3v2 P) (.node (o7v0 P) (.node (o15v0 P) (.node (o31v1 P) (.node (o63v2 P) .nil .nil) .nil) (.node (o47v2 P) (.node (o79v2 P) .nil .nil) .nil)) (.node (o23v0 P) (.node (o39v2 P) (.node (o71v2 P) .nil .nil) .nil) (.node (o55v2 P) (.node (o87v2 P) .nil .nil) .nil))) (.node (o11v0 P) (.node (o19v0 P) (.node (o35v2 P) (.node (o67v2 P) .nil .nil) .nil) (.node (o51v2 P) (.node (o83v2 P) .nil .nil) .nil)) (.node (o27v0 P) (.node (o43v2 P) (.node (o75v2 P) .nil .nil) .nil) (.node (o59v2 P) .nil .nil)))) (.node (o5v0 P) (.node (o9v0 P) (.node (o17v0 P) (.node (o33v2 P) (.node (o65v2 P) .nil .nil) .nil) (.node (o49v2 P) (.node (o81v2 P) .nil .nil) .nil)) (.node (o25v0 P) (.node (o41v2 P) (.node (o73v2 P) .nil .nil) .nil) (.node (o57v2 P) .nil .nil))) (.node (o13v0 P) (.node (o21v0 P) (.node (o37v2 P) (.node (o69v2 P) .nil .nil) .nil) (.node (o53v2 P) (.node (o85v2 P) .nil .nil) .nil)) (.node (o29v2 P) (.node (o45v2 P) (.node (o77v2 P) .nil .nil) .nil) (.node (o61v2 P) .nil .nil))))) (.node (o2v0 P) (.node (o4v0 P) (.node (o8v0 P) (.node (o16v0 P) (.node (o32v2 P) (.node (o64v2 P) .nil .nil) .nil) (.node (o48v2 P) (.node (o80v2 P) .nil .nil) .nil)) (.node (o24v0 P) (.node (o40v2 P) (.node (o72v2 P) .nil .nil) .nil) (.node (o56v2 P) .nil .nil))) (.node (o12v0 P) (.node (o20v0 P) (.node (o36v2 P) (.node (o68v2 P) .nil .nil) .nil) (.node (o52v2 P) (.node (o84v2 P) .nil .nil) .nil)) (.node (o28v1 P) (.node (o44v2 P) (.node (o76v2 P) .nil .nil) .nil) (.node (o60v2 P) .nil .nil)))) (.node (o6v0 P) (.node (o10v0 P) (.node (o18v0 P) (.node (o34v2 P) (.node (o66v2 P) .nil .nil) .nil) (.node (o50v2 P) (.node (o82v2 P) .nil .nil) .nil)) (.node (o26v0 P) (.node (o42v2 P) (.node (o74v2 P) .nil .nil) .nil) (.node (o58v2 P) .nil .nil))) (.node (o14v0 P) (.node (o22v0 P) (.node (o38v2 P) (.node (o70v2 P) .nil .nil) .nil) (.node (o54v2 P) (.node (o86v2 P) .nil .nil) .nil)) (.node (o30v1 P) (.node (o46v2 P) (.node (o78v2 P) .nil .nil) .nil) (.node (o62v2 P) .nil .nil))))))
-- state 3: 99 objects, toks 447
noncomputable def o3v3 (P : Params) : Obj := ⟨.type "dict", none, .dict [en P (sS "__name__") 165 (.str (sS "cpy313.stringprep") 385), en P (sS "__doc__") 166 (.none), en P (sS "__package__") 167 (.none), en P (sS "__loader__") 168 (.builtin "__main__.__loader__#opaque"), en P (sS "__spec__") 169 (.none), en P (sS "__annotations__") 170 (.ref 6), en P (sS "__builtins__") 171 (.ref 4), en P (sS "__file__") 173 (.str (sS "/claim/cut.py") 172), en P (sS "__cached__") 174 (.none), en P (sS "_sre") 275 (.ref 12), en P (sS "_wall") 288 (.ref 38), en P (sS "_MOVE_COST") 292 (.int 2 291), en P (sS "_CASE_COST") 294 (.int 1 293), en P (sS "_substitution_cost") 302 (.ref 45), en P (sS "_DIV_LIMIT") 306 (.int 4000 305), en P (sS "_div2n1n") 323 (.ref 52), en P (sS "_div3n2n") 337 (.ref 59), en P (sS "_int2digits") 348 (.ref 66), en P (sS "_digits2int") 359 (.ref 73), en P (sS "_divmod_pos") 374 (.ref 80), en P (sS "int_divmod") 384 (.ref 87), en P (sS "b1_set") 446 (.ref 95)].toArray 22, [].toArray⟩
noncomputable def o88v3 (_ : Params) : Obj := ⟨.type "list", none, .seq [.int 173 387, .int 847 388, .int 6150 389, .int 6155 390, .int 6156 391, .int 6157 392, .int 8203 393, .int 8204 394, .int 8205 395, .int 8288 396, .int 65279 397].toArray 0, [].toArray⟩
noncomputable def o89v3 (_ : Params) : Obj := ⟨.type "range", none, .fields [.int 65024 398, .int 65040 399, .int 1 400].toArray, [].toArray⟩
noncomputable def o90v3 (_ : Params) : Obj := ⟨.type "list", none, .seq [.int 65024 403, .int 65025 404, .int 65026 405, .int 65027 406, .int 65028 407, .int 65029 408, .int 65030 409, .int 65031 410, .int 65032 411, .int 65033 412, .int 65034 413, .int 65035 414, .int 65036 415, .int 65037 416, .int 65038 417, .int 65039 418].toArray 18, [].toArray⟩
noncomputable def o91v3 (_ : Params) : Obj := ⟨.type "range_iterator", none, .fields [.int 65040 0, .int 0 0, .int 1 0].toArray, [].toArray⟩
noncomputable def o92v3 (_ : Params) : Obj := ⟨.type "tuple", none, .seq [].toArray 0, [].toArray⟩
noncomputable def o93v3 (_ : Params) : Obj := ⟨.type "StopIteration", none, .fields [.ref 92, .none, .none, .none, .bool false, .none].toArray, [].toArray⟩
noncomputable def o94v3 (_ : Params) : Obj := ⟨.type "list", none, .seq [.int 173 387, .int 847 388, .int 6150 389, .int 6155 390, .int 6156 391, .int 6157 392, .int 8203 393, .int 8204 394, .int 8205 395, .int 8288 396, .int 65279 397, .int 65024 403, .int 65025 404, .int 65026 405, .int 65027 406, .int 65028 407, .int 65029 408, .int 65030 409, .int 65031 410, .int 65032 411, .int 65033 412, .int 65034 413, .int 65035 414, .int 65036 415, .int 65037 416, .int 65038 417, .int 65039 418].toArray 0, [].toArray⟩
noncomputable def o95v3 (P : Params) : Obj := ⟨.type "set", none, .set [(65024, .int 65024 403), (65025, .int 65025 404), (65026, .int 65026 405), (65027, .int 65027 406), (65028, .int 65028 407), (65029, .int 65029 408), (6150, .int 6150 389), (65030, .int 65030 409), (65031, .int 65031 410), (65032, .int 65032 411), (65033, .int 65033 412), (6155, .int 6155 390), (6156, .int 6156 391), (6157, .int 6157 392), (8203, .int 8203 393), (8204, .int 8204 394), (8205, .int 8205 395), (65034, .int 65034 413), (65035, .int 65035 414), (65036, .int 65036 415), (65037, .int 65037 416), (65038, .int 65038 417), (65039, .int 65039 418), (173, .int 173 387), (847, .int 847 388), (8288, .int 8288 396), (65279, .int 65279 397)].toArray 29 ⟨127, [0, 1, 2, 3, 4, 5, 6, 7, 8, 9, 10, 11, 12, 13, 14, 15, 16, 17, 18, 19, 20, 21, 22, 45, 79, 96, 127].toArray, [].toArray, 0, !P.followText "set-order", 2, true⟩, [].toArray⟩
noncomputable def o96v3 (_ : Params) : Obj := ⟨.type "list_iterator", none, .fields [.none, .int 27 0].toArray, [].toArray⟩
noncomputable def o97v3 (_ : Params) : Obj := ⟨.type "tuple", none, .seq [].toArray 0, [].toArray⟩
noncomputable def o98v3 (_ : Params) : Obj := ⟨.type "StopIteration", none, .fields [.ref 97, .none, .none, .none, .bool false, .none].toArray, [].toArray⟩
noncomputable def tr3 (P : Params) : BT := (.node (o0v0 P) (.node (o1v0 P) (.node (o3v3 P) (.node (o7v0 P) (.node (o15v0 P) (.node (o31v1 P) (.node (o63v2 P) .nil .nil) (.node (o95v3 P) .nil .nil)) (.node (o47v2 P) (.node (o79v2 P) .nil .nil) .nil)) (.node (o23v0 P) (.node (o39v2 P) (.node (o71v2 P) .nil .nil) .nil) (.node (o55v2 P) (.node (o87v2 P) .nil .nil) .nil))) (.node (o11v0 P) (.node (o19v0 P) (.node (o35v2 P) (.node (o67v2 P) .nil .nil) .nil) (.node (o51v2 P) (.node (o83v2 P) .nil .nil) .nil)) (.node (o27v0 P) (.node (o43v2 P) (.node (o75v2 P) .nil .nil) .nil) (.node (o59v2 P) (.node (o91v3 P) .nil .nil) .nil)))) (.node (o5v0 P) (.node (o9v0 P) (.node (o17v0 P) (.node (o33v2 P) (.node (o65v2 P) .nil .nil) (.node (o97v3 P) .nil .nil)) (.node (o49v2 P) (.node (o81v2 P) .nil .nil) .nil)) (.node (o25v0 P) (.node (o41v2 P) (.node (o73v2 P) .nil .nil) .nil) (.node (o57v2 P) (.node (o89v3 P) .nil .nil) .nil))) (.node (o13v0 P) (.node (o21v0 P) (.node (o37v2 P) (.node (o69v2 P) .nil .nil) .nil) (.node (o53v2 P) (.node (o85v2 P) .nil .nil) .nil)) (.node (o29v2 P) (.node (o45v2 P) (.node (o77v2 P) .nil .nil) .nil) (.node (o61v2 P) (.node (o93v3 P) .nil .nil) .nil))))) (.node (o2v0 P) (.node (o4v0 P) (.node (o8v0 P) (.node (o16v0 P) (.node (o32v2 P) (.node (o64v2 P) .nil .nil) (.node (o96v3 P) .nil .nil)) (.node (o48v2 P) (.node (o80v2 P) .nil .nil) .nil)) (.node (o24v0 P) (.node (o40v2 P) (.node (o72v2 P) .nil .nil) .nil) (.node (o56v2 P) (.node (o88v3 P) .nil .nil) .nil))) (.node (o12v0 P) (.node (o20v0 P) (.node (o36v2 P) (.node (o68v2 P) .nil .nil) .nil) (.node (o52v2 P) (.node (o84v2 P) .nil .nil) .nil)) (.node (o28v1 P) (.node (o44v2 P) (.node (o76v2 P) .nil .nil) .nil) (.node (o60v2 P) (.node (o92v3 P) .nil .nil) .nil)))) (.node (o6v0 P) (.node (o10v0 P) (.node (o18v0 P) (.node (o34v2 P) (.node (o66v2 P) .nil .nil) (.node (o98v3 P) .nil .nil)) (.node (o50v2 P) (.node (o82v2 P) .nil .nil) .nil)) (.node (o26v0 P) (.node (o42v2 P) (.node (o74v2 P) .nil .nil) .nil) (.node (o58v2 P) (.node (o90v3 P) .nil .nil) .nil))) (.node (o14v0 P) (.node (o22v0 P) (.node (o38v2 P) (.node (o70v2 P) .nil .nil) .nil) (.node (o54v2 P) (.node (o86v2 P) .nil .nil) .nil)) (.node (o30v1 P) (.node (o46v2 P) (.node (o78v2 P) .nil .nil) .nil) (.node (o62v2 P) (.node (o94v3 P) .nil .nil) .nil))))))
-- state 4: 106 objects, toks 454
noncomputable def o3v4 (P : Params) : Obj := ⟨.type "dict", none, .dict [en P (sS "__name__") 165 (.str (sS "cpy313.stringprep") 385), en P (sS "__doc__") 166 (.none), en P (sS "__package__") 167 (.none), en P (sS "__loader__") 168 (.builtin "__main__.__loader__#opaque"), en P (sS "__spec__") 169 (.none), en P (sS "__annotations__") 170 (.ref 6), en P (sS "__builtins__") 171 (.ref 4), en P (sS "__file__") 173 (.str (sS "/claim/cut.py") 172), en P (sS "__cached__") 174 (.none), en P (sS "_sre") 275 (.ref 12), en P (sS "_wall") 288 (.ref 38), en P (sS "_MOVE_COST") 292 (.int 2 291), en P (sS "_CASE_COST") 294 (.int 1 293), en P (sS "_substitution_cost") 302 (.ref 45), en P (sS "_DIV_LIMIT") 306 (.int 4000 305), en P (sS "_div2n1n") 323 (.ref 52), en P (sS "_div3n2n") 337 (.ref 59), en P (sS "_int2digits") 348 (.ref 66), en P (sS "_digits2int") 359 (.ref 73), en P (sS "_divmod_pos") 374 (.ref 80), en P (sS "int_divmod") 384 (.ref 87), en P (sS "b1_set") 446 (.ref 95), en P (sS "in_table_b1") 453 (.ref 105)].toArray 23, [].toArray⟩
noncomputable def o29v4 (_ : Params) : Obj := ⟨.none, none, .fields [.int 2 0, .int 0 0, .ref 37, .int 8 0, .int 0 0, .ref 44, .int 16 0, .int 0 0, .ref 51, .int 32 0, .int 0 0, .ref 58, .int 42 0, .int 0 0, .ref 65, .int 58 0, .int 0 0, .ref 72, .int 67 0, .int 0 0, .ref 79, .int 78 0, .int 0 0, .ref 86, .int 91 0, .int 0 0, .ref 104].toArray, [].toArray⟩
noncomputable def o99v4 (_ : Params) : Obj := ⟨.type "tuple", none, .seq [].toArray 0, [].toArray⟩
noncomputable def o100v4 (_ : Params) : Obj := ⟨.none, none, .fields [].toArray, [].toArray⟩
noncomputable def o101v4 (_ : Params) : Obj := ⟨.type "tuple", none, .seq [.str (sS "code") 450].toArray 0, [].toArray⟩
noncomputable def o102v4 (_ : Params) : Obj := ⟨.type "tuple", none, .seq [].toArray 0, [].toArray⟩
noncomputable def o103v4 (_ : Params) : Obj := ⟨.none, none, .func ⟨(sS "in_table_b1"), (sS "in_table_b1"), fA (stA 16), .stmts (fB (stA 16)), fS (stA 16), 0, [], .none, .none, .none, .none, none, .none, .none, 0⟩, [].toArray⟩
noncomputable def o104v4 (_ : Params) : Obj := ⟨.type "code", none, .fields [.str (sS "in_table_b1") 447, .str (sS "in_table_b1") 448, .str (sS "/claim/cut.py") 449, .int 91 0, .int 1 0, .int 0 0, .int 0 0, .int 3 0, .ref 99, .bool true, .int 276 0, .ref 100, .none, .ref 101, .ref 102, .ref 103, .int 451 0, .int 91 0, .str (sS "/claim/cut.py") 452].toArray, [].toArray⟩
noncomputable def o105v4 (_ : Params) : Obj := ⟨.type "function", none, .func ⟨(sS "in_table_b1"), (sS "in_table_b1"), fA (stA 16), .stmts (fB (stA 16)), fS (stA 16), 3, [], .none, .none, .none, .str (sS "cpy313.stringprep") 385, none, .ref 104, .none, 0⟩, [].toArray⟩
noncomputable def tr4 (P : Params) : BT := (.node (o0v0 P) (.node (o1v0 P) (.node (o3v4 P) (.node (o7v0 P) (.node (o15v0 P) (.node (o31v1 P) (.node (o63v2 P) .nil .nil) (.node (o95v3 P) .nil .nil)) (.node (o47v2 P) (.node (o79v2 P) .nil .nil) .nil)) (.node (o23v0 P) (.node (o39v2 P) (.node (o71v2 P) .nil .nil) (.node (o103v4 P) .nil .nil)) (.node (o55v2 P) (.node (o87v2 P) .nil .nil) .nil))) (.node (o11v0 P) (.node (o19v0 P) (.node (o35v2 P) (.node (o67v2 P) .nil .nil) (.node (o99v4 P) .nil .nil)) (.node (o51v2 P) (.node (o83v2 P) .nil .nil) .nil)) (.node (o27v0 P) (.node (o43v2 P) (.node (o75v2 P) .nil .nil) .nil) (.node (o59v2 P) (.node (o91v3 P) .nil .nil) .nil)))) (.node (o5v0 P) (.node (o9v0 P) (.node (o17v0 P) (.node (o33v2 P) (.node (o65v2 P) .nil .nil) (.node (o97v3 P) .nil .nil)) (.node (o49v2 P) (.node (o81v2 P) .nil .nil) .nil)) (.node (o25v0 P) (.node (o41v2 P) (.node (o73v2 P) .nil .nil) (.node (o105v4 P) .nil .nil)) (.node (o57v2 P) (.node (o89v3 P) .nil .nil) .nil))) (.node (o13v0 P) (.node (o21v0 P) (.node (o37v2 P) (.node (o69v2 P) .nil .nil) (.node (o101v4 P) .nil .nil)) (.node (o53v2 P) (.node (o85v2 P) .nil .nil) .nil)) (.node (o29v4 P) (.node (o45v2 P) (.node (o77v2 P) .nil .nil) .nil) (.node (o61v2 P) (.node (o93v3 P) .nil .nil) .nil))))) (.node (o2v0 P) (.node (o4v0 P) (.node (o8v0 P) (.node (o16v0 P) (.node (o32v2 P) (.node (o64v2 P) .nil .nil) (.node (o96v3 P) .nil .nil)) (.node (o48v2 P) (.node (o80v2 P) .nil .nil) .nil)) (.node (o24v0 P) (.node (o40v2 P) (.node (o72v2 P) .nil .nil) (.node (o104v4 P) .nil .nil)) (.node (o56v2 P) (.node (o88v3 P) .nil .nil) .nil))) (.node (o12v0 P) (.node (o20v0 P) (.node (o36v2 P) (.node (o68v2 P) .nil .nil) (.node (o100v4 P) .nil .nil)) (.node (o52v2 P) (.node (o84v2 P) .nil .nil) .nil)) (.node (o28v1 P) (.node (o44v2 P) (.node (o76v2 P) .nil .nil) .nil) (.node (o60v2 P) (.node (o92v3 P) .nil .nil) .nil)))) (.node (o6v0 P) (.node (o10v0 P) (.node (o18v0 P) (.node (o34v2 P) (.node (o66v2 P) .nil .nil) (.node (o98v3 P) .nil .nil)) (.node (o50v2 P) (.node (o82v2 P) .nil .nil) .nil)) (.node (o26v0 P) (.node (o42v2 P) (.node (o74v2 P) .nil .nil) .nil) (.node (o58v2 P) (.node (o90v3 P) .nil .nil) .nil))) (.node (o14v0 P) (.node (o22v0 P) (.node (o38v2 P) (.node (o70v2 P) .nil .nil) (.node (o102v4 P) .nil .nil)) (.node (o54v2 P) (.node (o86v2 P) .nil .nil) .nil)) (.node (o30v1 P) (.node (o46v2 P) (.node (o78v2 P) .nil .nil) .nil) (.node (o62v2 P) (.node (o94v3 P) .nil .nil) .nil))))))
-- state 5: 145 objects, toks 2405
noncomputable def o3v5 (P : Params) : Obj := ⟨.type "dict", none, .dict [en P (sS "__name__") 165 (.str (sS "cpy313.stringprep") 385), en P (sS "__doc__") 166 (.none), en P (sS "__package__") 167 (.none), en P (sS "__loader__") 168 (.builtin "__main__.__loader__#opaque"), en P (sS "__spec__") 169 (.none), en P (sS "__annotations__") 170 (.ref 6), en P (sS "__builtins__") 171 (.ref 4), en P (sS "__file__") 173 (.str (sS "/claim/cut.py") 172), en P (sS "__cached__") 174 (.none), en P (sS "_sre") 275 (.ref 12), en P (sS "_wall") 288 (.ref 38), en P (sS "_MOVE_COST") 292 (.int 2 291), en P (sS "_CASE_COST") 294 (.int 1 293), en P (sS "_substitution_cost") 302 (.ref 45), en P (sS "_DIV_LIMIT") 306 (.int 4000 305), en P (sS "_div2n1n") 323 (.ref 52), en P (sS "_div3n2n") 337 (.ref 59), en P (sS "_int2digits") 348 (.ref 66), en P (sS "_digits2int") 359 (.ref 73), en P (sS "_divmod_pos") 374 (.ref 80), en P (sS "int_divmod") 384 (.ref 87), en P (sS "b1_set") 446 (.ref 95), en P (sS "in_table_b1") 453 (.ref 105), en P (sS "b3_exceptions") 2404 (.ref 106)].toArray 24, [].toArray⟩
noncomputable def tr5 (P : Params) : BT := (.node (o0v0 P) (.node (o1v0 P) (.node (o3v5 P) (.node (o7v0 P) (.node (o15v0 P) (.node (o31v1 P) (.node (o63v2 P) (.node (o127v5 P) .nil .nil) .nil) (.node (o95v3 P) .nil .nil)) (.node (o47v2 P) (.node (o79v2 P) (.node (o143v5 P) .nil .nil) .nil) (.node (o111v5 P) .nil .nil))) (.node (o23v0 P) (.node (o39v2 P) (.node (o71v2 P) (.node (o135v5 P) .nil .nil) .nil) (.node (o103v4 P) .nil .nil)) (.node (o55v2 P) (.node (o87v2 P) .nil .nil) (.node (o119v5 P) .nil .nil)))) (.node (o11v0 P) (.node (o19v0 P) (.node (o35v2 P) (.node (o67v2 P) (.node (o131v5 P) .nil .nil) .nil) (.node (o99v4 P) .nil .nil)) (.node (o51v2 P) (.node (o83v2 P) .nil .nil) (.node (o115v5 P) .nil .nil))) (.node (o27v0 P) (.node (o43v2 P) (.node (o75v2 P) (.node (o139v5 P) .nil .nil) .nil) (.node (o107v5 P) .nil .nil)) (.node (o59v2 P) (.node (o91v3 P) .nil .nil) (.node (o123v5 P) .nil .nil))))) (.node (o5v0 P) (.node (o9v0 P) (.node (o17v0 P) (.node (o33v2 P) (.node (o65v2 P) (.node (o129v5 P) .nil .nil) .nil) (.node (o97v3 P) .nil .nil)) (.node (o49v2 P) (.node (o81v2 P) .nil .nil) (.node (o113v5 P) .nil .nil))) (.node (o25v0 P) (.node (o41v2 P) (.node (o73v2 P) (.node (o137v5 P) .nil .nil) .nil) (.node (o105v4 P) .nil .nil)) (.node (o57v2 P) (.node (o89v3 P) .nil .nil) (.node (o121v5 P) .nil .nil)))) (.node (o13v0 P) (.node (o21v0 P) (.node (o37v2 P) (.node (o69v2 P) (.node (o133v5 P) .nil .nil) .nil) (.node (o101v4 P) .nil .nil)) (.node (o53v2 P) (.node (o85v2 P) .nil .nil) (.node (o117v5 P) .nil .nil))) (.node (o29v4 P) (.node (o45v2 P) (.node (o77v2 P) (.node (o141v5 P) .nil .nil) .nil) (.node (o109v5 P) .nil .nil)) (.node (o61v2 P) (.node (o93v3 P) .nil .nil) (.node (o125v5 P) .nil .nil)))))) (.node (o2v0 P) (.node (o4v0 P) (.node (o8v0 P) (.node (o16v0 P) (.node (o32v2 P) (.node (o64v2 P) (.node (o128v5 P) .nil .nil) .nil) (.node (o96v3 P) .nil .nil)) (.node (o48v2 P) (.node (o80v2 P) (.node (o144v5 P) .nil .nil) .nil) (.node (o112v5 P) .nil .nil))) (.node (o24v0 P) (.node (o40v2 P) (.node (o72v2 P) (.node (o136v5 P) .nil .nil) .nil) (.node (o104v4 P) .nil .nil)) (.node (o56v2 P) (.node (o88v3 P) .nil .nil) (.node (o120v5 P) .nil .nil)))) (.node (o12v0 P) (.node (o20v0 P) (.node (o36v2 P) (.node (o68v2 P) (.node (o132v5 P) .nil .nil) .nil) (.node (o100v4 P) .nil .nil)) (.node (o52v2 P) (.node (o84v2 P) .nil .nil) (.node (o116v5 P) .nil .nil))) (.node (o28v1 P) (.node (o44v2 P) (.node (o76v2 P) (.node (o140v5 P) .nil .nil) .nil) (.node (o108v5 P) .nil .nil)) (.node (o60v2 P) (.node (o92v3 P) .nil .nil) (.node (o124v5 P) .nil .nil))))) (.node (o6v0 P) (.node (o10v0 P) (.node (o18v0 P) (.node (o34v2 P) (.node (o66v2 P) (.node (o130v5 P) .nil .nil) .nil) (.node (o98v3 P) .nil .nil)) (.node (o50v2 P) (.node (o82v2 P) .nil .nil) (.node (o114v5 P) .nil .nil))) (.node (o26v0 P) (.node (o42v2 P) (.node (o74v2 P) (.node (o138v5 P) .nil .nil) .nil) (.node (o106v5 P) .nil .nil)) (.node (o58v2 P) (.node (o90v3 P) .nil .nil) (.node (o122v5 P) .nil .nil)))) (.node (o14v0 P) (.node (o22v0 P) (.node (o38v2 P) (.node (o70v2 P) (.node (o134v5 P) .nil .nil) .nil) (.node (o102v4 P) .nil .nil)) (.node (o54v2 P) (.node (o86v2 P) .nil .nil) (.node (o118v5 P) .nil .nil))) (.node (o30v1 P) (.node (o46v2 P) (.node (o78v2 P) (.node (o142v5 P) .nil .nil) .nil) (.node (o110v5 P) .nil .nil)) (.node (o62v2 P) (.node (o94v3 P) .nil .nil) (.node (o126v5 P) .nil .nil)))))))
-- state 6: 175 objects, toks 2519
noncomputable def o3v6 (P : Params) : Obj := ⟨.type "dict", none, .dict [en P (sS "__name__") 165 (.str (sS "cpy313.wsgiref.headers") 2413), en P (sS "__doc__") 166 (.none), en P (sS "__package__") 167 (.none), en P (sS "__loader__") 168 (.builtin "__main__.__loader__#opaque"), en P (sS "__spec__") 169 (.none), en P (sS "__annotations__") 170 (.ref 6), en P (sS "__builtins__") 171 (.ref 4), en P (sS "__file__") 173 (.str (sS "/claim/cut.py") 172), en P (sS "__cached__") 174 (.none), en P (sS "_sre") 275 (.ref 12), en P (sS "_wall") 288 (.ref 38), en P (sS "_MOVE_COST") 292 (.int 2 291), en P (sS "_CASE_COST") 294 (.int 1 293), en P (sS "_substitution_cost") 302 (.ref 45), en P (sS "_DIV_LIMIT") 306 (.int 4000 305), en P (sS "_div2n1n") 323 (.ref 52), en P (sS "_div3n2n") 337 (.ref 59), en P (sS "_int2digits") 348 (.ref 66), en P (sS "_digits2int") 359 (.ref 73), en P (sS "_divmod_pos") 374 (.ref 80), en P (sS "int_divmod") 384 (.ref 87), en P (sS "b1_set") 446 (.ref 95), en P (sS "in_table_b1") 453 (.ref 105), en P (sS "b3_exceptions") 2404 (.ref 106), en P (sS "map_table_b3") 2412 (.ref 151), en P (sS "tspecials") 2448 (.ref 156), en P (sS "_name_disallowed_re") 2474 (.ref 161), en P (sS "_value_disallowed_re") 2508 (.ref 166), en P (sS "_formatparam") 2518 (.ref 174)].toArray 29, [].toArray⟩
noncomputable def o29v6 (_ : Params) : Obj := ⟨.none, none, .fields [.int 2 0, .int 0 0, .ref 37, .int 8 0, .int 0 0, .ref 44, .int 16 0, .int 0 0, .ref 51, .int 32 0, .int 0 0, .ref 58, .int 42 0, .int 0 0, .ref 65, .int 58 0, .int 0 0, .ref 72, .int 67 0, .int 0 0, .ref 79, .int 78 0, .int 0 0, .ref 86, .int 91 0, .int 0 0, .ref 104, .int 94 0, .int 0 0, .ref 150, .int 103 0, .int 0 0, .ref 173].toArray, [].toArray⟩
noncomputable def o145v6 (_ : Params) : Obj := ⟨.type "tuple", none, .seq [].toArray 0, [].toArray⟩
noncomputable def o146v6 (_ : Params) : Obj := ⟨.none, none, .fields [].toArray, [].toArray⟩
noncomputable def o147v6 (_ : Params) : Obj := ⟨.type "tuple", none, .seq [.str (sS "code") 2408, .str (sS "r") 2409].toArray 0, [].toArray⟩
noncomputable def o148v6 (_ : Params) : Obj := ⟨.type "tuple", none, .seq [].toArray 0, [].toArray⟩
noncomputable def o149v6 (_ : Params) : Obj := ⟨.none, none, .func ⟨(sS "map_table_b3"), (sS "map_table_b3"), fA (stA 18), .stmts (fB (stA 18)), fS (stA 18), 0, [], .none, .none, .none, .none, none, .none, .none, 0⟩, [].toArray⟩
noncomputable def o150v6 (_ : Params) : Obj := ⟨.type "code", none, .fields [.str (sS "map_table_b3") 2405, .str (sS "map_table_b3") 2406, .str (sS "/claim/cut.py") 2407, .int 94 0, .int 1 0, .int 0 0, .int 0 0, .int 3 0, .ref 145, .bool true, .int 276 0, .ref 146, .none, .ref 147, .ref 148, .ref 149, .int 2410 0, .int 94 0, .str (sS "/claim/cut.py") 2411].toArray, [].toArray⟩
noncomputable def o151v6 (_ : Params) : Obj := ⟨.type "function", none, .func ⟨(sS "map_table_b3"), (sS "map_table_b3"), fA (stA 18), .stmts (fB (stA 18)), fS (stA 18), 3, [], .none, .none, .none, .str (sS "cpy313.stringprep") 385, none, .ref 150, .none, 0⟩, [].toArray⟩
noncomputable def o152v6 (_ : Params) : Obj := ⟨.type "list", none, .seq [.int 14 2418, .int 14 2419, .int 4 2420, .int 1 2421, .int 1 2422, .int 9 2423, .int 0 2424, .int 4227896069 2425, .int 939524097 2426, .int 0 2427, .int 0 2428, .int 0 2429, .int 0 2430, .int 0 2431, .int 0 2432, .int 13 2433, .int 11 2434, .int 9 2435, .int 0 2436, .int 4227896069 2437, .int 939524097 2438, .int 0 2439, .int 0 2440, .int 0 2441, .int 0 2442, .int 0 2443, .int 0 2444, .int 1 2445].toArray 0, [].toArray⟩
noncomputable def o153v6 (_ : Params) : Obj := ⟨.type "dict", none, .dict [].toArray 0, [].toArray⟩
noncomputable def o154v6 (_ : Params) : Obj := ⟨.type "tuple", none, .seq [.none].toArray 0, [].toArray⟩
noncomputable def o155v6 (_ : Params) : Obj := ⟨.type "tuple", none, .seq [.int 14 0, .int 14 0, .int 4 0, .int 1 0, .int 1 0, .int 9 0, .int 0 0, .int 4227896069 0, .int 939524097 0, .int 0 0, .int 0 0, .int 0 0, .int 0 0, .int 0 0, .int 0 0, .int 13 0, .int 11 0, .int 9 0, .int 0 0, .int 4227896069 0, .int 939524097 0, .int 0 0, .int 0 0, .int 0 0, .int 0 0, .int 0 0, .int 0 0, .int 1 0].toArray 0, [].toArray⟩
noncomputable def o156v6 (_ : Params) : Obj := ⟨.type "re.Pattern", none, .fields [.str (sS "[ \\(\\)<>@,;:\\\\\"/\\[\\]\\?=]") 2416, .int 32 2447, .int 0 0, .none, .none, .ref 155, .int 0 0].toArray, [].toArray⟩
noncomputable def o157v6 (_ : Params) : Obj := ⟨.type "list", none, .seq [.int 14 2452, .int 10 2453, .int 4 2454, .int 1 2455, .int 1 2456, .int 22 2457, .int 0 2458, .int 31 2459, .int 16 2460, .int 127 2461, .int 0 2462, .int 13 2463, .int 7 2464, .int 22 2465, .int 0 2466, .int 31 2467, .int 16 2468, .int 127 2469, .int 0 2470, .int 1 2471].toArray 0, [].toArray⟩
noncomputable def o158v6 (_ : Params) : Obj := ⟨.type "dict", none, .dict [].toArray 0, [].toArray⟩
noncomputable def o159v6 (_ : Params) : Obj := ⟨.type "tuple", none, .seq [.none].toArray 0, [].toArray⟩
noncomputable def o160v6 (_ : Params) : Obj := ⟨.type "tuple", none, .seq [.int 14 0, .int 10 0, .int 4 0, .int 1 0, .int 1 0, .int 22 0, .int 0 0, .int 31 0, .int 16 0, .int 127 0, .int 0 0, .int 13 0, .int 7 0, .int 22 0, .int 0 0, .int 31 0, .int 16 0, .int 127 0, .int 0 0, .int 1 0].toArray 0, [].toArray⟩
noncomputable def o161v6 (_ : Params) : Obj := ⟨.type "re.Pattern", none, .fields [.str (sS "[\\x00-\\x1F\\x7F]") 2450, .int 32 2473, .int 0 0, .none, .none, .ref 160, .int 0 0].toArray, [].toArray⟩
noncomputable def o162v6 (_ : Params) : Obj := ⟨.type "list", none, .seq [.int 14 2478, .int 14 2479, .int 4 2480, .int 1 2481, .int 1 2482, .int 9 2483, .int 4294966783 2484, .int 0 2485, .int 0 2486, .int 2147483648 2487, .int 0 2488, .int 0 2489, .int 0 2490, .int 0 2491, .int 0 2492, .int 13 2493, .int 11 2494, .int 9 2495, .int 4294966783 2496, .int 0 2497, .int 0 2498, .int 2147483648 2499, .int 0 2500, .int 0 2501, .int 0 2502, .int 0 2503, .int 0 2504, .int 1 2505].toArray 0, [].toArray⟩
noncomputable def o163v6 (_ : Params) : Obj := ⟨.type "dict", none, .dict [].toArray 0, [].toArray⟩
noncomputable def o164v6 (_ : Params) : Obj := ⟨.type "tuple", none, .seq [.none].toArray 0, [].toArray⟩
noncomputable def o165v6 (_ : Params) : Obj := ⟨.type "tuple", none, .seq [.int 14 0, .int 14 0, .int 4 0, .int 1 0, .int 1 0, .int 9 0, .int 4294966783 0, .int 0 0, .int 0 0, .int 2147483648 0, .int 0 0, .int 0 0, .int 0 0, .int 0 0, .int 0 0, .int 13 0, .int 11 0, .int 9 0, .int 4294966783 0, .int 0 0, .int 0 0, .int 2147483648 0, .int 0 0, .int 0 0, .int 0 0, .int 0 0, .int 0 0, .int 1 0].toArray 0, [].toArray⟩
noncomputable def o166v6 (_ : Params) : Obj := ⟨.type "re.Pattern", none, .fields [.str (sS "[\\x00-\\x08\\x0A-\\x1F\\x7F]") 2476, .int 32 2507, .int 0 0, .none, .none, .ref 165, .int 0 0].toArray, [].toArray⟩
noncomputable def o167v6 (_ : Params) : Obj := ⟨.type "tuple", none, .seq [.none, .int 1 2509].toArray 0, [].toArray⟩
noncomputable def o168v6 (_ : Params) : Obj := ⟨.type "tuple", none, .seq [].toArray 0, [].toArray⟩
noncomputable def o169v6 (_ : Params) : Obj := ⟨.none, none, .fields [].toArray, [].toArray⟩
noncomputable def o170v6 (_ : Params) : Obj := ⟨.type "tuple", none, .seq [.str (sS "param") 2513, .str (sS "value") 2514, .str (sS "quote") 2515].toArray 0, [].toArray⟩
noncomputable def o171v6 (_ : Params) : Obj := ⟨.type "tuple", none, .seq [].toArray 0, [].toArray⟩
noncomputable def o172v6 (_ : Params) : Obj := ⟨.none, none, .func ⟨(sS "_formatparam"), (sS "_formatparam"), fA (stA 23), .stmts (fB (stA 23)), fS (stA 23), 0, [], .none, .none, .none, .none, none, .none, .none, 0⟩, [].toArray⟩
noncomputable def o173v6 (_ : Params) : Obj := ⟨.type "code", none, .fields [.str (sS "_formatparam") 2510, .str (sS "_formatparam") 2511, .str (sS "/claim/cut.py") 2512, .int 103 0, .int 3 0, .int 0 0, .int 0 0, .int 3 0, .ref 168, .bool true, .int 276 0, .ref 169, .none, .ref 170, .ref 171, .ref 172, .int 2516 0, .int 103 0, .str (sS "/claim/cut.py") 2517].toArray, [].toArray⟩
noncomputable def o174v6 (_ : Params) : Obj := ⟨.type "function", none, .func ⟨(sS "_formatparam"), (sS "_formatparam"), fA (stA 23), .stmts (fB (stA 23)), fS (stA 23), 3, [], .ref 167, .none, .none, .str (sS "cpy313.wsgiref.headers") 2413, none, .ref 173, .none, 0⟩, [].toArray⟩
noncomputable def tr6 (P : Params) : BT := (.node (o0v0 P) (.node (o1v0 P) (.node (o3v6 P) (.node (o7v0 P) (.node (o15v0 P) (.node (o31v1 P) (.node (o63v2 P) (.node (o127v5 P) .nil .nil) .nil) (.node (o95v3 P) (.node (o159v6 P) .nil .nil) .nil)) (.node (o47v2 P) (.node (o79v2 P) (.node (o143v5 P) .nil .nil) .nil) (.node (o111v5 P) .nil .nil))) (.node (o23v0 P) (.node (o39v2 P) (.node (o71v2 P) (.node (o135v5 P) .nil .nil) .nil) (.node (o103v4 P) (.node (o167v6 P) .nil .nil) .nil)) (.node (o55v2 P) (.node (o87v2 P) (.node (o151v6 P) .nil .nil) .nil) (.node (o119v5 P) .nil .nil)))) (.node (o11v0 P) (.node (o19v0 P) (.node (o35v2 P) (.node (o67v2 P) (.node (o131v5 P) .nil .nil) .nil) (.node (o99v4 P) (.node (o163v6 P) .nil .nil) .nil)) (.node (o51v2 P) (.node (o83v2 P) (.node (o147v6 P) .nil .nil) .nil) (.node (o115v5 P) .nil .nil))) (.node (o27v0 P) (.node (o43v2 P) (.node (o75v2 P) (.node (o139v5 P) .nil .nil) .nil) (.node (o107v5 P) (.node (o171v6 P) .nil .nil) .nil)) (.node (o59v2 P) (.node (o91v3 P) (.node (o155v6 P) .nil .nil) .nil) (.node (o123v5 P) .nil .nil))))) (.node (o5v0 P) (.node (o9v0 P) (.node (o17v0 P) (.node (o33v2 P) (.node (o65v2 P) (.node (o129v5 P) .nil .nil) .nil) (.node (o97v3 P) (.node (o161v6 P) .nil .nil) .nil)) (.node (o49v2 P) (.node (o81v2 P) (.node (o145v6 P) .nil .nil) .nil) (.node (o113v5 P) .nil .nil))) (.node (o25v0 P) (.node (o41v2 P) (.node (o73v2 P) (.node (o137v5 P) .nil .nil) .nil) (.node (o105v4 P) (.node (o169v6 P) .nil .nil) .nil)) (.node (o57v2 P) (.node (o89v3 P) (.node (o153v6 P) .nil .nil) .nil) (.node (o121v5 P) .nil .nil)))) (.node (o13v0 P) (.node (o21v0 P) (.node (o37v2 P) (.node (o69v2 P) (.node (o133v5 P) .nil .nil) .nil) (.node (o101v4 P) (.node (o165v6 P) .nil .nil) .nil)) (.node (o53v2 P) (.node (o85v2 P) (.node (o149v6 P) .nil .nil) .nil) (.node (o117v5 P) .nil .nil))) (.node (o29v6 P) (.node (o45v2 P) (.node (o77v2 P) (.node (o141v5 P) .nil .nil) .nil) (.node (o109v5 P) (.node (o173v6 P) .nil .nil) .nil)) (.node (o61v2 P) (.node (o93v3 P) (.node (o157v6 P) .nil .nil) .nil) (.node (o125v5 P) .nil .nil)))))) (.node (o2v0 P) (.node (o4v0 P) (.node (o8v0 P) (.node (o16v0 P) (.node (o32v2 P) (.node (o64v2 P) (.node (o128v5 P) .nil .nil) .nil) (.node (o96v3 P) (.node (o160v6 P) .nil .nil) .nil)) (.node (o48v2 P) (.node (o80v2 P) (.node (o144v5 P) .nil .nil) .nil) (.node (o112v5 P) .nil .nil))) (.node (o24v0 P) (.node (o40v2 P) (.node (o72v2 P) (.node (o136v5 P) .nil .nil) .nil) (.node (o104v4 P) (.node (o168v6 P) .nil .nil) .nil)) (.node (o56v2 P) (.node (o88v3 P) (.node (o152v6 P) .nil .nil) .nil) (.node (o120v5 P) .nil .nil)))) (.node (o12v0 P) (.node (o20v0 P) (.node (o36v2 P) (.node (o68v2 P) (.node (o132v5 P) .nil .nil) .nil) (.node (o100v4 P) (.node (o164v6 P) .nil .nil) .nil)) (.node (o52v2 P) (.node (o84v2 P) (.node (o148v6 P) .nil .nil) .nil) (.node (o116v5 P) .nil .nil))) (.node (o28v1 P) (.node (o44v2 P) (.node (o76v2 P) (.node (o140v5 P) .nil .nil) .nil) (.node (o108v5 P) (.node (o172v6 P) .nil .nil) .nil)) (.node (o60v2 P) (.node (o92v3 P) (.node (o156v6 P) .nil .nil) .nil) (.node (o124v5 P) .nil .nil))))) (.node (o6v0 P) (.node (o10v0 P) (.node (o18v0 P) (.node (o34v2 P) (.node (o66v2 P) (.node (o130v5 P) .nil .nil) .nil) (.node (o98v3 P) (.node (o162v6 P) .nil .nil) .nil)) (.node (o50v2 P) (.node (o82v2 P) (.node (o146v6 P) .nil .nil) .nil) (.node (o114v5 P) .nil .nil))) (.node (o26v0 P) (.node (o42v2 P) (.node (o74v2 P) (.node (o138v5 P) .nil .nil) .nil) (.node (o106v5 P) (.node (o170v6 P) .nil .nil) .nil)) (.node (o58v2 P) (.node (o90v3 P) (.node (o154v6 P) .nil .nil) .nil) (.node (o122v5 P) .nil .nil)))) (.node (o14v0 P) (.node (o22v0 P) (.node (o38v2 P) (.node (o70v2 P) (.node (o134v5 P) .nil .nil) .nil) (.node (o102v4 P) (.node (o166v6 P) .nil .nil) .nil)) (.node (o54v2 P) (.node (o86v2 P) (.node (o150v6 P) .nil .nil) .nil) (.node (o118v5 P) .nil .nil))) (.node (o30v1 P) (.node (o46v2 P) (.node (o78v2 P) (.node (o142v5 P) .nil .nil) .nil) (.node (o110v5 P) (.node (o174v6 P) .nil .nil) .nil)) (.node (o62v2 P) (.node (o94v3 P) (.node (o158v6 P) .nil .nil) .nil) (.node (o126v5 P) .nil .nil)))))))
-- state 7: 300 objects, toks 2676
noncomputable def o3v7 (P : Params) : Obj := ⟨.type "dict", none, .dict [en P (sS "__name__") 165 (.str (sS "cpy313.wsgiref.headers") 2413), en P (sS "__doc__") 166 (.none), en P (sS "__package__") 167 (.none), en P (sS "__loader__") 168 (.builtin "__main__.__loader__#opaque"), en P (sS "__spec__") 169 (.none), en P (sS "__annotations__") 170 (.ref 6), en P (sS "__builtins__") 171 (.ref 4), en P (sS "__file__") 173 (.str (sS "/claim/cut.py") 172), en P (sS "__cached__") 174 (.none), en P (sS "_sre") 275 (.ref 12), en P (sS "_wall") 288 (.ref 38), en P (sS "_MOVE_COST") 292 (.int 2 291), en P (sS "_CASE_COST") 294 (.int 1 293), en P (sS "_substitution_cost") 302 (.ref 45), en P (sS "_DIV_LIMIT") 306 (.int 4000 305), en P (sS "_div2n1n") 323 (.ref 52), en P (sS "_div3n2n") 337 (.ref 59), en P (sS "_int2digits") 348 (.ref 66), en P (sS "_digits2int") 359 (.ref 73), en P (sS "_divmod_pos") 374 (.ref 80), en P (sS "int_divmod") 384 (.ref 87), en P (sS "b1_set") 446 (.ref 95), en P (sS "in_table_b1") 453 (.ref 105), en P (sS "b3_exceptions") 2404 (.ref 106), en P (sS "map_table_b3") 2412 (.ref 151), en P (sS "tspecials") 2448 (.ref 156), en P (sS "_name_disallowed_re") 2474 (.ref 161), en P (sS "_value_disallowed_re") 2508 (.ref 166), en P (sS "_formatparam") 2518 (.ref 174), en P (sS "Headers") 2675 (.ref 295)].toArray 30, [].toArray⟩
noncomputable def o29v7 (_ : Params) : Obj := ⟨.none, none, .fields [.int 2 0, .int 0 0, .ref 37, .int 8 0, .int 0 0, .ref 44, .int 16 0, .int 0 0, .ref 51, .int 32 0, .int 0 0, .ref 58, .int 42 0, .int 0 0, .ref 65, .int 58 0, .int 0 0, .ref 72, .int 67 0, .int 0 0, .ref 79, .int 78 0, .int 0 0, .ref 86, .int 91 0, .int 0 0, .ref 104, .int 94 0, .int 0 0, .ref 150, .int 103 0, .int 0 0, .ref 173, .int 112 0, .int 0 0, .ref 180].toArray, [].toArray⟩
noncomputable def o175v7 (_ : Params) : Obj := ⟨.type "tuple", none, .seq [].toArray 0, [].toArray⟩
noncomputable def o176v7 (_ : Params) : Obj := ⟨.type "builtin_function_or_method", none, .fields [.builtin "type.__prepare__", .type "type"].toArray, [].toArray⟩
noncomputable def o177v7 (P : Params) : Obj := ⟨.type "dict", none, .dict [en P (sS "__module__") 2526 (.str (sS "cpy313.wsgiref.headers") 2413), en P (sS "__qualname__") 2528 (.str (sS "Headers") 2527), en P (sS "__firstlineno__") 2530 (.int 112 2529), en P (sS "__init__") 2540 (.ref 189), en P (sS "_convert_string_type") 2550 (.ref 196), en P (sS "__len__") 2557 (.ref 203), en P (sS "__setitem__") 2566 (.ref 210), en P (sS "__delitem__") 2572 (.ref 215), en P (sS "__getitem__") 2580 (.ref 222), en P (sS "__contains__") 2588 (.ref 229), en P (sS "get_all") 2594 (.ref 234), en P (sS "get") 2605 (.ref 242), en P (sS "keys") 2611 (.ref 247), en P (sS "values") 2617 (.ref 252), en P (sS "items") 2624 (.ref 259), en P (sS "__repr__") 2631 (.ref 266), en P (sS "__str__") 2637 (.ref 271), en P (sS "__bytes__") 2644 (.ref 278), en P (sS "setdefault") 2653 (.ref 285), en P (sS "add_header") 2666 (.ref 292), en P (sS "__static_attributes__") 2668 (.ref 293)].toArray 21, [].toArray⟩
noncomputable def o178v7 (_ : Params) : Obj := ⟨.type "tuple", none, .seq [].toArray 0, [].toArray⟩
noncomputable def o179v7 (_ : Params) : Obj := ⟨.none, none, .fields [.int 114 0, .int 4 0, .ref 188, .int 124 0, .int 4 0, .ref 195, .int 132 0, .int 4 0, .ref 202, .int 135 0, .int 4 0, .ref 209, .int 139 0, .int 4 0, .ref 214, .int 143 0, .int 4 0, .ref 221, .int 146 0, .int 4 0, .ref 228, .int 149 0, .int 4 0, .ref 233, .int 153 0, .int 4 0, .ref 241, .int 160 0, .int 4 0, .ref 246, .int 163 0, .int 4 0, .ref 251, .int 166 0, .int 4 0, .ref 258, .int 169 0, .int 4 0, .ref 265, .int 172 0, .int 4 0, .ref 270, .int 175 0, .int 4 0, .ref 277, .int 178 0, .int 4 0, .ref 284, .int 181 0, .int 4 0, .ref 291].toArray, [].toArray⟩
noncomputable def o180v7 (_ : Params) : Obj := ⟨.type "code", none, .fields [.str (sS "Headers") 2521, .str (sS "Headers") 2522, .str (sS "/claim/cut.py") 2523, .int 112 0, .int 0 0, .int 0 0, .int 0 0, .int 0 0, .ref 178, .bool false, .int 276 0, .ref 179, .none, .none, .none, .none, .int 2524 0, .int 112 0, .str (sS "/claim/cut.py") 2525].toArray, [].toArray⟩
noncomputable def o181v7 (_ : Params) : Obj := ⟨.type "frame", none, .plain, [(some (.ref 180)), (some (.ref 3)), (some (.ref 177)), none, (some (.str (sS "cpy313.wsgiref.headers") 2413)), none, (some (.ref 0))].toArray⟩
noncomputable def o182v7 (_ : Params) : Obj := ⟨.type "tuple", none, .seq [.none].toArray 0, [].toArray⟩
noncomputable def o183v7 (_ : Params) : Obj := ⟨.type "tuple", none, .seq [].toArray 0, [].toArray⟩
noncomputable def o184v7 (_ : Params) : Obj := ⟨.none, none, .fields [].toArray, [].toArray⟩
noncomputable def o185v7 (_ : Params) : Obj := ⟨.type "tuple", none, .seq [.str (sS "self") 2534, .str (sS "headers") 2535, .str (sS "k") 2536, .str (sS "v") 2537].toArray 0, [].toArray⟩
noncomputable def o186v7 (_ : Params) : Obj := ⟨.type "tuple", none, .seq [].toArray 0, [].toArray⟩
noncomputable def o187v7 (_ : Params) : Obj := ⟨.none, none, .func ⟨(sS "__init__"), (sS "Headers.__init__"), fA (meA 24 0), .stmts (fB (meA 24 0)), fS (meA 24 0), 0, [], .none, .none, .none, .none, none, .none, .none, 0⟩, [].toArray⟩
noncomputable def o188v7 (_ : Params) : Obj := ⟨.type "code", none, .fields [.str (sS "__init__") 2531, .str (sS "Headers.__init__") 2532, .str (sS "/claim/cut.py") 2533, .int 114 0, .int 2 0, .int 0 0, .int 0 0, .int 3 0, .ref 183, .bool true, .int 276 0, .ref 184, .none, .ref 185, .ref 186, .ref 187, .int 2538 0, .int 114 0, .str (sS "/claim/cut.py") 2539].toArray, [].toArray⟩
noncomputable def o189v7 (_ : Params) : Obj := ⟨.type "function", none, .func ⟨(sS "__init__"), (sS "Headers.__init__"), fA (meA 24 0), .stmts (fB (meA 24 0)), fS (meA 24 0), 3, [], .ref 182, .none, .none, .str (sS "cpy313.wsgiref.headers") 2413, none, .ref 188, .none, 0⟩, [].toArray⟩
noncomputable def o190v7 (_ : Params) : Obj := ⟨.type "tuple", none, .seq [].toArray 0, [].toArray⟩
noncomputable def o191v7 (_ : Params) : Obj := ⟨.none, none, .fields [].toArray, [].toArray⟩
noncomputable def o192v7 (_ : Params) : Obj := ⟨.type "tuple", none, .seq [.str (sS "self") 2544, .str (sS "value") 2545, .str (sS "name") 2546, .str (sS "regex") 2547].toArray 0, [].toArray⟩
noncomputable def o193v7 (_ : Params) : Obj := ⟨.type "tuple", none, .seq [].toArray 0, [].toArray⟩
noncomputable def o194v7 (_ : Params) : Obj := ⟨.none, none, .func ⟨(sS "_convert_string_type"), (sS "Headers._convert_string_type"), fA (meA 24 1), .stmts (fB (meA 24 1)), fS (meA 24 1), 0, [], .none, .none, .none, .none, none, .none, .none, 0⟩, [].toArray⟩
noncomputable def o195v7 (_ : Params) : Obj := ⟨.type "code", none, .fields [.str (sS "_convert_string_type") 2541, .str (sS "Headers._convert_string_type") 2542, .str (sS "/claim/cut.py") 2543, .int 124 0, .int 2 0, .int 0 0, .int 1 0, .int 3 0, .ref 190, .bool true, .int 276 0, .ref 191, .none, .ref 192, .ref 193, .ref 194, .int 2548 0, .int 124 0, .str (sS "/claim/cut.py") 2549].toArray, [].toArray⟩
noncomputable def o196v7 (_ : Params) : Obj := ⟨.type "function", none, .func ⟨(sS "_convert_string_type"), (sS "Headers._convert_string_type"), fA (meA 24 1), .stmts (fB (meA 24 1)), fS (meA 24 1), 3, [], .none, .none, .none, .str (sS "cpy313.wsgiref.headers") 2413, none, .ref 195, .none, 0⟩, [].toArray⟩
noncomputable def o197v7 (_ : Params) : Obj := ⟨.type "tuple", none, .seq [].toArray 0, [].toArray⟩
noncomputable def o198v7 (_ : Params) : Obj := ⟨.none, none, .fields [].toArray, [].toArray⟩
noncomputable def o199v7 (_ : Params) : Obj := ⟨.type "tuple", none, .seq [.str (sS "self") 2554].toArray 0, [].toArray⟩
noncomputable def o200v7 (_ : Params) : Obj := ⟨.type "tuple", none, .seq [].toArray 0, [].toArray⟩
noncomputable def o201v7 (_ : Params) : Obj := ⟨.none, none, .func ⟨(sS "__len__"), (sS "Headers.__len__"), fA (meA 24 2), .stmts (fB (meA 24 2)), fS (meA 24 2), 0, [], .none, .none, .none, .none, none, .none, .none, 0⟩, [].toArray⟩
noncomputable def o202v7 (_ : Params) : Obj := ⟨.type "code", none, .fields [.str (sS "__len__") 2551, .str (sS "Headers.__len__") 2552, .str (sS "/claim/cut.py") 2553, .int 132 0, .int 1 0, .int 0 0, .int 0 0, .int 3 0, .ref 197, .bool true, .int 276 0, .ref 198, .none, .ref 199, .ref 200, .ref 201, .int 2555 0, .int 132 0, .str (sS "/claim/cut.py") 2556].toArray, [].toArray⟩
noncomputable def o203v7 (_ : Params) : Obj := ⟨.type "function", none, .func ⟨(sS "__len__"), (sS "Headers.__len__"), fA (meA 24 2), .stmts (fB (meA 24 2)), fS (meA 24 2), 3, [], .none, .none, .none, .str (sS "cpy313.wsgiref.headers") 2413, none, .ref 202, .none, 0⟩, [].toArray⟩
noncomputable def o204v7 (_ : Params) : Obj := ⟨.type "tuple", none, .seq [].toArray 0, [].toArray⟩
noncomputable def o205v7 (_ : Params) : Obj := ⟨.none, none, .fields [].toArray, [].toArray⟩
noncomputable def o206v7 (_ : Params) : Obj := ⟨.type "tuple", none, .seq [.str (sS "self") 2561, .str (sS "name") 2562, .str (sS "val") 2563].toArray 0, [].toArray⟩
noncomputable def o207v7 (_ : Params) : Obj := ⟨.type "tuple", none, .seq [].toArray 0, [].toArray⟩
noncomputable def o208v7 (_ : Params) : Obj := ⟨.none, none, .func ⟨(sS "__setitem__"), (sS "Headers.__setitem__"), fA (meA 24 3), .stmts (fB (meA 24 3)), fS (meA 24 3), 0, [], .none, .none, .none, .none, none, .none, .none, 0⟩, [].toArray⟩
noncomputable def o209v7 (_ : Params) : Obj := ⟨.type "code", none, .fields [.str (sS "__setitem__") 2558, .str (sS "Headers.__setitem__") 2559, .str (sS "/claim/cut.py") 2560, .int 135 0, .int 3 0, .int 0 0, .int 0 0, .int 3 0, .ref 204, .bool true, .int 276 0, .ref 205, .none, .ref 206, .ref 207, .ref 208, .int 2564 0, .int 135 0, .str (sS "/claim/cut.py") 2565].toArray, [].toArray⟩
noncomputable def o210v7 (_ : Params) : Obj := ⟨.type "function", none, .func ⟨(sS "__setitem__"), (sS "Headers.__setitem__"), fA (meA 24 3), .stmts (fB (meA 24 3)), fS (meA 24 3), 3, [], .none, .none, .none, .str (sS "cpy313.wsgiref.headers") 2413, none, .ref 209, .none, 0⟩, [].toArray⟩
noncomputable def o211v7 (_ : Params) : Obj := ⟨.type "tuple", none, .seq [].toArray 0, [].toArray⟩
noncomputable def o212v7 (_ : Params) : Obj := ⟨.none, none, .fields [].toArray, [].toArray⟩
noncomputable def o213v7 (_ : Params) : Obj := ⟨.none, none, .func ⟨(sS "__delitem__"), (sS "Headers.__delitem__"), fA (meA 24 4), .stmts (fB (meA 24 4)), fS (meA 24 4), 0, [], .none, .none, .none, .none, none, .none, .none, 0⟩, [].toArray⟩
noncomputable def o214v7 (_ : Params) : Obj := ⟨.type "code", none, .fields [.str (sS "__delitem__") 2567, .str (sS "Headers.__delitem__") 2568, .str (sS "/claim/cut.py") 2569, .int 139 0, .int 2 0, .int 0 0, .int 0 0, .int 3 0, .ref 211, .bool true, .int 276 0, .ref 212, .none, .none, .none, .ref 213, .int 2570 0, .int 139 0, .str (sS "/claim/cut.py") 2571].toArray, [].toArray⟩
noncomputable def o215v7 (_ : Params) : Obj := ⟨.type "function", none, .func ⟨(sS "__delitem__"), (sS "Headers.__delitem__"), fA (meA 24 4), .stmts (fB (meA 24 4)), fS (meA 24 4), 3, [], .none, .none, .none, .str (sS "cpy313.wsgiref.headers") 2413, none, .ref 214, .none, 0⟩, [].toArray⟩
noncomputable def o216v7 (_ : Params) : Obj := ⟨.type "tuple", none, .seq [].toArray 0, [].toArray⟩
noncomputable def o217v7 (_ : Params) : Obj := ⟨.none, none, .fields [].toArray, [].toArray⟩
noncomputable def o218v7 (_ : Params) : Obj := ⟨.type "tuple", none, .seq [.str (sS "self") 2576, .str (sS "name") 2577].toArray 0, [].toArray⟩
noncomputable def o219v7 (_ : Params) : Obj := ⟨.type "tuple", none, .seq [].toArray 0, [].toArray⟩
noncomputable def o220v7 (_ : Params) : Obj := ⟨.none, none, .func ⟨(sS "__getitem__"), (sS "Headers.__getitem__"), fA (meA 24 5), .stmts (fB (meA 24 5)), fS (meA 24 5), 0, [], .none, .none, .none, .none, none, .none, .none, 0⟩, [].toArray⟩
noncomputable def o221v7 (_ : Params) : Obj := ⟨.type "code", none, .fields [.str (sS "__getitem__") 2573, .str (sS "Headers.__getitem__") 2574, .str (sS "/claim/cut.py") 2575, .int 143 0, .int 2 0, .int 0 0, .int 0 0, .int 3 0, .ref 216, .bool true, .int 276 0, .ref 217, .none, .ref 218, .ref 219, .ref 220, .int 2578 0, .int 143 0, .str (sS "/claim/cut.py") 2579].toArray, [].toArray⟩
noncomputable def o222v7 (_ : Params) : Obj := ⟨.type "function", none, .func ⟨(sS "__getitem__"), (sS "Headers.__getitem__"), fA (meA 24 5), .stmts (fB (meA 24 5)), fS (meA 24 5), 3, [], .none, .none, .none, .str (sS "cpy313.wsgiref.headers") 2413, none, .ref 221, .none, 0⟩, [].toArray⟩
noncomputable def o223v7 (_ : Params) : Obj := ⟨.type "tuple", none, .seq [].toArray 0, [].toArray⟩
noncomputable def o224v7 (_ : Params) : Obj := ⟨.none, none, .fields [].toArray, [].toArray⟩
noncomputable def o225v7 (_ : Params) : Obj := ⟨.type "tuple", none, .seq [.str (sS "self") 2584, .str (sS "name") 2585].toArray 0, [].toArray⟩
noncomputable def o226v7 (_ : Params) : Obj := ⟨.type "tuple", none, .seq [].toArray 0, [].toArray⟩
noncomputable def o227v7 (_ : Params) : Obj := ⟨.none, none, .func ⟨(sS "__contains__"), (sS "Headers.__contains__"), fA (meA 24 6), .stmts (fB (meA 24 6)), fS (meA 24 6), 0, [], .none, .none, .none, .none, none, .none, .none, 0⟩, [].toArray⟩
noncomputable def o228v7 (_ : Params) : Obj := ⟨.type "code", none, .fields [.str (sS "__contains__") 2581, .str (sS "Headers.__contains__") 2582, .str (sS "/claim/cut.py") 2583, .int 146 0, .int 2 0, .int 0 0, .int 0 0, .int 3 0, .ref 223, .bool true, .int 276 0, .ref 224, .none, .ref 225, .ref 226, .ref 227, .int 2586 0, .int 146 0, .str (sS "/claim/cut.py") 2587].toArray, [].toArray⟩
noncomputable def o229v7 (_ : Params) : Obj := ⟨.type "function", none, .func ⟨(sS "__contains__"), (sS "Headers.__contains__"), fA (meA 24 6), .stmts (fB (meA 24 6)), fS (meA 24 6), 3, [], .none, .none, .none, .str (sS "cpy313.wsgiref.headers") 2413, none, .ref 228, .none, 0⟩, [].toArray⟩
noncomputable def o230v7 (_ : Params) : Obj := ⟨.type "tuple", none, .seq [].toArray 0, [].toArray⟩
noncomputable def o231v7 (_ : Params) : Obj := ⟨.none, none, .fields [].toArray, [].toArray⟩
noncomputable def o232v7 (_ : Params) : Obj := ⟨.none, none, .func ⟨(sS "get_all"), (sS "Headers.get_all"), fA (meA 24 7), .stmts (fB (meA 24 7)), fS (meA 24 7), 0, [], .none, .none, .none, .none, none, .none, .none, 0⟩, [].toArray⟩
noncomputable def o233v7 (_ : Params) : Obj := ⟨.type "code", none, .fields [.str (sS "get_all") 2589, .str (sS "Headers.get_all") 2590, .str (sS "/claim/cut.py") 2591, .int 149 0, .int 2 0, .int 0 0, .int 0 0, .int 3 0, .ref 230, .bool true, .int 276 0, .ref 231, .none, .none, .none, .ref 232, .int 2592 0, .int 149 0, .str (sS "/claim/cut.py") 2593].toArray, [].toArray⟩
noncomputable def o234v7 (_ : Params) : Obj := ⟨.type "function", none, .func ⟨(sS "get_all"), (sS "Headers.get_all"), fA (meA 24 7), .stmts (fB (meA 24 7)), fS (meA 24 7), 3, [], .none, .none, .none, .str (sS "cpy313.wsgiref.headers") 2413, none, .ref 233, .none, 0⟩, [].toArray⟩
noncomputable def o235v7 (_ : Params) : Obj := ⟨.type "tuple", none, .seq [.none].toArray 0, [].toArray⟩
noncomputable def o236v7 (_ : Params) : Obj := ⟨.type "tuple", none, .seq [].toArray 0, [].toArray⟩
noncomputable def o237v7 (_ : Params) : Obj := ⟨.none, none, .fields [].toArray, [].toArray⟩
noncomputable def o238v7 (_ : Params) : Obj := ⟨.type "tuple", none, .seq [.str (sS "self") 2598, .str (sS "name") 2599, .str (sS "default") 2600, .str (sS "k") 2601, .str (sS "v") 2602].toArray 0, [].toArray⟩
noncomputable def o239v7 (_ : Params) : Obj := ⟨.type "tuple", none, .seq [].toArray 0, [].toArray⟩
noncomputable def o240v7 (_ : Params) : Obj := ⟨.none, none, .func ⟨(sS "get"), (sS "Headers.get"), fA (meA 24 8), .stmts (fB (meA 24 8)), fS (meA 24 8), 0, [], .none, .none, .none, .none, none, .none, .none, 0⟩, [].toArray⟩
noncomputable def o241v7 (_ : Params) : Obj := ⟨.type "code", none, .fields [.str (sS "get") 2595, .str (sS "Headers.get") 2596, .str (sS "/claim/cut.py") 2597, .int 153 0, .int 3 0, .int 0 0, .int 0 0, .int 3 0, .ref 236, .bool true, .int 276 0, .ref 237, .none, .ref 238, .ref 239, .ref 240, .int 2603 0, .int 153 0, .str (sS "/claim/cut.py") 2604].toArray, [].toArray⟩
noncomputable def o242v7 (_ : Params) : Obj := ⟨.type "function", none, .func ⟨(sS "get"), (sS "Headers.get"), fA (meA 24 8), .stmts (fB (meA 24 8)), fS (meA 24 8), 3, [], .ref 235, .none, .none, .str (sS "cpy313.wsgiref.headers") 2413, none, .ref 241, .none, 0⟩, [].toArray⟩
noncomputable def o243v7 (_ : Params) : Obj := ⟨.type "tuple", none, .seq [].toArray 0, [].toArray⟩
noncomputable def o244v7 (_ : Params) : Obj := ⟨.none, none, .fields [].toArray, [].toArray⟩
noncomputable def o245v7 (_ : Params) : Obj := ⟨.none, none, .func ⟨(sS "keys"), (sS "Headers.keys"), fA (meA 24 9), .stmts (fB (meA 24 9)), fS (meA 24 9), 0, [], .none, .none, .none, .none, none, .none, .none, 0⟩, [].toArray⟩
noncomputable def o246v7 (_ : Params) : Obj := ⟨.type "code", none, .fields [.str (sS "keys") 2606, .str (sS "Headers.keys") 2607, .str (sS "/claim/cut.py") 2608, .int 160 0, .int 1 0, .int 0 0, .int 0 0, .int 3 0, .ref 243, .bool true, .int 276 0, .ref 244, .none, .none, .none, .ref 245, .int 2609 0, .int 160 0, .str (sS "/claim/cut.py") 2610].toArray, [].toArray⟩
noncomputable def o247v7 (_ : Params) : Obj := ⟨.type "function", none, .func ⟨(sS "keys"), (sS "Headers.keys"), fA (meA 24 9), .stmts (fB (meA 24 9)), fS (meA 24 9), 3, [], .none, .none, .none, .str (sS "cpy313.wsgiref.headers") 2413, none, .ref 246, .none, 0⟩, [].toArray⟩
noncomputable def o248v7 (_ : Params) : Obj := ⟨.type "tuple", none, .seq [].toArray 0, [].toArray⟩
noncomputable def o249v7 (_ : Params) : Obj := ⟨.none, none, .fields [].toArray, [].toArray⟩
noncomputable def o250v7 (_ : Params) : Obj := ⟨.none, none, .func ⟨(sS "values"), (sS "Headers.values"), fA (meA 24 10), .stmts (fB (meA 24 10)), fS (meA 24 10), 0, [], .none, .none, .none, .none, none, .none, .none, 0⟩, [].toArray⟩
noncomputable def o251v7 (_ : Params) : Obj := ⟨.type "code", none, .fields [.str (sS "values") 2612, .str (sS "Headers.values") 2613, .str (sS "/claim/cut.py") 2614, .int 163 0, .int 1 0, .int 0 0, .int 0 0, .int 3 0, .ref 248, .bool true, .int 276 0, .ref 249, .none, .none, .none, .ref 250, .int 2615 0, .int 163 0, .str (sS "/claim/cut.py") 2616].toArray, [].toArray⟩
noncomputable def o252v7 (_ : Params) : Obj := ⟨.type "function", none, .func ⟨(sS "values"), (sS "Headers.values"), fA (meA 24 10), .stmts (fB (meA 24 10)), fS (meA 24 10), 3, [], .none, .none, .none, .str (sS "cpy313.wsgiref.headers") 2413, none, .ref 251, .none, 0⟩, [].toArray⟩
noncomputable def o253v7 (_ : Params) : Obj := ⟨.type "tuple", none, .seq [].toArray 0, [].toArray⟩
noncomputable def o254v7 (_ : Params) : Obj := ⟨.none, none, .fields [].toArray, [].toArray⟩
noncomputable def o255v7 (_ : Params) : Obj := ⟨.type "tuple", none, .seq [.str (sS "self") 2621].toArray 0, [].toArray⟩
noncomputable def o256v7 (_ : Params) : Obj := ⟨.type "tuple", none, .seq [].toArray 0, [].toArray⟩
noncomputable def o257v7 (_ : Params) : Obj := ⟨.none, none, .func ⟨(sS "items"), (sS "Headers.items"), fA (meA 24 11), .stmts (fB (meA 24 11)), fS (meA 24 11), 0, [], .none, .none, .none, .none, none, .none, .none, 0⟩, [].toArray⟩
noncomputable def o258v7 (_ : Params) : Obj := ⟨.type "code", none, .fields [.str (sS "items") 2618, .str (sS "Headers.items") 2619, .str (sS "/claim/cut.py") 2620, .int 166 0, .int 1 0, .int 0 0, .int 0 0, .int 3 0, .ref 253, .bool true, .int 276 0, .ref 254, .none, .ref 255, .ref 256, .ref 257, .int 2622 0, .int 166 0, .str (sS "/claim/cut.py") 2623].toArray, [].toArray⟩
noncomputable def o259v7 (_ : Params) : Obj := ⟨.type "function", none, .func ⟨(sS "items"), (sS "Headers.items"), fA (meA 24 11), .stmts (fB (meA 24 11)), fS (meA 24 11), 3, [], .none, .none, .none, .str (sS "cpy313.wsgiref.headers") 2413, none, .ref 258, .none, 0⟩, [].toArray⟩
noncomputable def o260v7 (_ : Params) : Obj := ⟨.type "tuple", none, .seq [].toArray 0, [].toArray⟩
noncomputable def o261v7 (_ : Params) : Obj := ⟨.none, none, .fields [].toArray, [].toArray⟩
noncomputable def o262v7 (_ : Params) : Obj := ⟨.type "tuple", none, .seq [.str (sS "self") 2628].toArray 0, [].toArray⟩
noncomputable def o263v7 (_ : Params) : Obj := ⟨.type "tuple", none, .seq [].toArray 0, [].toArray⟩
noncomputable def o264v7 (_ : Params) : Obj := ⟨.none, none, .func ⟨(sS "__repr__"), (sS "Headers.__repr__"), fA (meA 24 12), .stmts (fB (meA 24 12)), fS (meA 24 12), 0, [], .none, .none, .none, .none, none, .none, .none, 0⟩, [].toArray⟩
noncomputable def o265v7 (_ : Params) : Obj := ⟨.type "code", none, .fields [.str (sS "__repr__") 2625, .str (sS "Headers.__repr__") 2626, .str (sS "/claim/cut.py") 2627, .int 169 0, .int 1 0, .int 0 0, .int 0 0, .int 3 0, .ref 260, .bool true, .int 276 0, .ref 261, .none, .ref 262, .ref 263, .ref 264, .int 2629 0, .int 169 0, .str (sS "/claim/cut.py") 2630].toArray, [].toArray⟩
noncomputable def o266v7 (_ : Params) : Obj := ⟨.type "function", none, .func ⟨(sS "__repr__"), (sS "Headers.__repr__"), fA (meA 24 12), .stmts (fB (meA 24 12)), fS (meA 24 12), 3, [], .none, .none, .none, .str (sS "cpy313.wsgiref.headers") 2413, none, .ref 265, .none, 0⟩, [].toArray⟩
noncomputable def o267v7 (_ : Params) : Obj := ⟨.type "tuple", none, .seq [].toArray 0, [].toArray⟩
noncomputable def o268v7 (_ : Params) : Obj := ⟨.none, none, .fields [].toArray, [].toArray⟩
noncomputable def o269v7 (_ : Params) : Obj := ⟨.none, none, .func ⟨(sS "__str__"), (sS "Headers.__str__"), fA (meA 24 13), .stmts (fB (meA 24 13)), fS (meA 24 13), 0, [], .none, .none, .none, .none, none, .none, .none, 0⟩, [].toArray⟩
noncomputable def o270v7 (_ : Params) : Obj := ⟨.type "code", none, .fields [.str (sS "__str__") 2632, .str (sS "Headers.__str__") 2633, .str (sS "/claim/cut.py") 2634, .int 172 0, .int 1 0, .int 0 0, .int 0 0, .int 3 0, .ref 267, .bool true, .int 276 0, .ref 268, .none, .none, .none, .ref 269, .int 2635 0, .int 172 0, .str (sS "/claim/cut.py") 2636].toArray, [].toArray⟩
noncomputable def o271v7 (_ : Params) : Obj := ⟨.type "function", none, .func ⟨(sS "__str__"), (sS "Headers.__str__"), fA (meA 24 13), .stmts (fB (meA 24 13)), fS (meA 24 13), 3, [], .none, .none, .none, .str (sS "cpy313.wsgiref.headers") 2413, none, .ref 270, .none, 0⟩, [].toArray⟩
noncomputable def o272v7 (_ : Params) : Obj := ⟨.type "tuple", none, .seq [].toArray 0, [].toArray⟩
noncomputable def o273v7 (_ : Params) : Obj := ⟨.none, none, .fields [].toArray, [].toArray⟩
noncomputable def o274v7 (_ : Params) : Obj := ⟨.type "tuple", none, .seq [.str (sS "self") 2641].toArray 0, [].toArray⟩
noncomputable def o275v7 (_ : Params) : Obj := ⟨.type "tuple", none, .seq [].toArray 0, [].toArray⟩
noncomputable def o276v7 (_ : Params) : Obj := ⟨.none, none, .func ⟨(sS "__bytes__"), (sS "Headers.__bytes__"), fA (meA 24 14), .stmts (fB (meA 24 14)), fS (meA 24 14), 0, [], .none, .none, .none, .none, none, .none, .none, 0⟩, [].toArray⟩
noncomputable def o277v7 (_ : Params) : Obj := ⟨.type "code", none, .fields [.str (sS "__bytes__") 2638, .str (sS "Headers.__bytes__") 2639, .str (sS "/claim/cut.py") 2640, .int 175 0, .int 1 0, .int 0 0, .int 0 0, .int 3 0, .ref 272, .bool true, .int 276 0, .ref 273, .none, .ref 274, .ref 275, .ref 276, .int 2642 0, .int 175 0, .str (sS "/claim/cut.py") 2643].toArray, [].toArray⟩
noncomputable def o278v7 (_ : Params) : Obj := ⟨.type "function", none, .func ⟨(sS "__bytes__"), (sS "Headers.__bytes__"), fA (meA 24 14), .stmts (fB (meA 24 14)), fS (meA 24 14), 3, [], .none, .none, .none, .str (sS "cpy313.wsgiref.headers") 2413, none, .ref 277, .none, 0⟩, [].toArray⟩
noncomputable def o279v7 (_ : Params) : Obj := ⟨.type "tuple", none, .seq [].toArray 0, [].toArray⟩
noncomputable def o280v7 (_ : Params) : Obj := ⟨.none, none, .fields [].toArray, [].toArray⟩
noncomputable def o281v7 (_ : Params) : Obj := ⟨.type "tuple", none, .seq [.str (sS "self") 2648, .str (sS "name") 2649, .str (sS "value") 2650].toArray 0, [].toArray⟩
noncomputable def o282v7 (_ : Params) : Obj := ⟨.type "tuple", none, .seq [].toArray 0, [].toArray⟩
noncomputable def o283v7 (_ : Params) : Obj := ⟨.none, none, .func ⟨(sS "setdefault"), (sS "Headers.setdefault"), fA (meA 24 15), .stmts (fB (meA 24 15)), fS (meA 24 15), 0, [], .none, .none, .none, .none, none, .none, .none, 0⟩, [].toArray⟩
noncomputable def o284v7 (_ : Params) : Obj := ⟨.type "code", none, .fields [.str (sS "setdefault") 2645, .str (sS "Headers.setdefault") 2646, .str (sS "/claim/cut.py") 2647, .int 178 0, .int 3 0, .int 0 0, .int 0 0, .int 3 0, .ref 279, .bool true, .int 276 0, .ref 280, .none, .ref 281, .ref 282, .ref 283, .int 2651 0, .int 178 0, .str (sS "/claim/cut.py") 2652].toArray, [].toArray⟩
noncomputable def o285v7 (_ : Params) : Obj := ⟨.type "function", none, .func ⟨(sS "setdefault"), (sS "Headers.setdefault"), fA (meA 24 15), .stmts (fB (meA 24 15)), fS (meA 24 15), 3, [], .none, .none, .none, .str (sS "cpy313.wsgiref.headers") 2413, none, .ref 284, .none, 0⟩, [].toArray⟩
noncomputable def o286v7 (_ : Params) : Obj := ⟨.type "tuple", none, .seq [].toArray 0, [].toArray⟩
noncomputable def o287v7 (_ : Params) : Obj := ⟨.none, none, .fields [].toArray, [].toArray⟩
noncomputable def o288v7 (_ : Params) : Obj := ⟨.type "tuple", none, .seq [.str (sS "self") 2657, .str (sS "_name") 2658, .str (sS "_value") 2659, .str (sS "_params") 2660, .str (sS "parts") 2661, .str (sS "k") 2662, .str (sS "v") 2663].toArray 0, [].toArray⟩
noncomputable def o289v7 (_ : Params) : Obj := ⟨.type "tuple", none, .seq [].toArray 0, [].toArray⟩
noncomputable def o290v7 (_ : Params) : Obj := ⟨.none, none, .func ⟨(sS "add_header"), (sS "Headers.add_header"), fA (meA 24 16), .stmts (fB (meA 24 16)), fS (meA 24 16), 0, [], .none, .none, .none, .none, none, .none, .none, 0⟩, [].toArray⟩
noncomputable def o291v7 (_ : Params) : Obj := ⟨.type "code", none, .fields [.str (sS "add_header") 2654, .str (sS "Headers.add_header") 2655, .str (sS "/claim/cut.py") 2656, .int 181 0, .int 3 0, .int 0 0, .int 0 0, .int 11 0, .ref 286, .bool true, .int 276 0, .ref 287, .none, .ref 288, .ref 289, .ref 290, .int 2664 0, .int 181 0, .str (sS "/claim/cut.py") 2665].toArray, [].toArray⟩
noncomputable def o292v7 (_ : Params) : Obj := ⟨.type "function", none, .func ⟨(sS "add_header"), (sS "Headers.add_header"), fA (meA 24 16), .stmts (fB (meA 24 16)), fS (meA 24 16), 3, [], .none, .none, .none, .str (sS "cpy313.wsgiref.headers") 2413, none, .ref 291, .none, 0⟩, [].toArray⟩
noncomputable def o293v7 (_ : Params) : Obj := ⟨.type "tuple", none, .seq [.str (sS "_headers") 2667].toArray 0, [].toArray⟩
noncomputable def o294v7 (P : Params) : Obj := ⟨.type "dict", none, .dict [en P (sS "__module__") 2526 (.str (sS "cpy313.wsgiref.headers") 2413), en P (sS "__firstlineno__") 2530 (.int 112 2529), en P (sS "__init__") 2540 (.ref 189), en P (sS "_convert_string_type") 2550 (.ref 196), en P (sS "__len__") 2557 (.ref 203), en P (sS "__setitem__") 2566 (.ref 210), en P (sS "__delitem__") 2572 (.ref 215), en P (sS "__getitem__") 2580 (.ref 222), en P (sS "__contains__") 2588 (.ref 229), en P (sS "get_all") 2594 (.ref 234), en P (sS "get") 2605 (.ref 242), en P (sS "keys") 2611 (.ref 247), en P (sS "values") 2617 (.ref 252), en P (sS "items") 2624 (.ref 259), en P (sS "__repr__") 2631 (.ref 266), en P (sS "__str__") 2637 (.ref 271), en P (sS "__bytes__") 2644 (.ref 278), en P (sS "setdefault") 2653 (.ref 285), en P (sS "add_header") 2666 (.ref 292), en P (sS "__static_attributes__") 2668 (.ref 293), en P (sS "__dict__") 2670 (.ref 296), en P (sS "__weakref__") 2672 (.ref 297), en P (sS "__doc__") 2673 (.none)].toArray 4, [].toArray⟩
noncomputable def o295v7 (_ : Params) : Obj := ⟨.type "type", none, .cls ⟨(sS "Headers"), [.type "object"], [.ref 295, .type "object"], 294, (sS "Headers"), true, [], [], false, none, false⟩, [none, none, (some (.str (sS "Headers") 2519)), (some (.str (sS "Headers") 2527)), (some (.builtin "object.__new__")), (some (.bool true))].toArray⟩
noncomputable def o296v7 (_ : Params) : Obj := ⟨.type "getset_descriptor", none, .fields [.str (sS "__dict__") 2669, .ref 295, .builtin "function.__dict__", .builtin "function.__dict__#set"].toArray, [].toArray⟩
noncomputable def o297v7 (_ : Params) : Obj := ⟨.type "getset_descriptor", none, .fields [.str (sS "__weakref__") 2671, .ref 295, .builtin "ExceptionGroup.__weakref__", .none].toArray, [].toArray⟩
noncomputable def o298v7 (_ : Params) : Obj := ⟨.type "super", none, .fields [.ref 295, .ref 295, .ref 295].toArray, [].toArray⟩
noncomputable def o299v7 (_ : Params) : Obj := ⟨.type "builtin_function_or_method", none, .fields [.builtin "object.__init_subclass__", .ref 295].toArray, [].toArray⟩
noncomputable def tr7 (P : Params) : BT := (.node (o0v0 P) (.node (o1v0 P) (.node (o3v7 P) (.node (o7v0 P) (.node (o15v0 P) (.node (o31v1 P) (.node (o63v2 P) (.node (o127v5 P) (.node (o255v7 P) .nil .nil) .nil) (.node (o191v7 P) .nil .nil)) (.node (o95v3 P) (.node (o159v6 P) (.node (o287v7 P) .nil .nil) .nil) (.node (o223v7 P) .nil .nil))) (.node (o47v2 P) (.node (o79v2 P) (.node (o143v5 P) (.node (o271v7 P) .nil .nil) .nil) (.node (o207v7 P) .nil .nil)) (.node (o111v5 P) (.node (o175v7 P) .nil .nil) (.node (o239v7 P) .nil .nil)))) (.node (o23v0 P) (.node (o39v2 P) (.node (o71v2 P) (.node (o135v5 P) (.node (o263v7 P) .nil .nil) .nil) (.node (o199v7 P) .nil .nil)) (.node (o103v4 P) (.node (o167v6 P) (.node (o295v7 P) .nil .nil) .nil) (.node (o231v7 P) .nil .nil))) (.node (o55v2 P) (.node (o87v2 P) (.node (o151v6 P) (.node (o279v7 P) .nil .nil) .nil) (.node (o215v7 P) .nil .nil)) (.node (o119v5 P) (.node (o183v7 P) .nil .nil) (.node (o247v7 P) .nil .nil))))) (.node (o11v0 P) (.node (o19v0 P) (.node (o35v2 P) (.node (o67v2 P) (.node (o131v5 P) (.node (o259v7 P) .nil .nil) .nil) (.node (o195v7 P) .nil .nil)) (.node (o99v4 P) (.node (o163v6 P) (.node (o291v7 P) .nil .nil) .nil) (.node (o227v7 P) .nil .nil))) (.node (o51v2 P) (.node (o83v2 P) (.node (o147v6 P) (.node (o275v7 P) .nil .nil) .nil) (.node (o211v7 P) .nil .nil)) (.node (o115v5 P) (.node (o179v7 P) .nil .nil) (.node (o243v7 P) .nil .nil)))) (.node (o27v0 P) (.node (o43v2 P) (.node (o75v2 P) (.node (o139v5 P) (.node (o267v7 P) .nil .nil) .nil) (.node (o203v7 P) .nil .nil)) (.node (o107v5 P) (.node (o171v6 P) (.node (o299v7 P) .nil .nil) .nil) (.node (o235v7 P) .nil .nil))) (.node (o59v2 P) (.node (o91v3 P) (.node (o155v6 P) (.node (o283v7 P) .nil .nil) .nil) (.node (o219v7 P) .nil .nil)) (.node (o123v5 P) (.node (o187v7 P) .nil .nil) (.node (o251v7 P) .nil .nil)))))) (.node (o5v0 P) (.node (o9v0 P) (.node (o17v0 P) (.node (o33v2 P) (.node (o65v2 P) (.node (o129v5 P) (.node (o257v7 P) .nil .nil) .nil) (.node (o193v7 P) .nil .nil)) (.node (o97v3 P) (.node (o161v6 P) (.node (o289v7 P) .nil .nil) .nil) (.node (o225v7 P) .nil .nil))) (.node (o49v2 P) (.node (o81v2 P) (.node (o145v6 P) (.node (o273v7 P) .nil .nil) .nil) (.node (o209v7 P) .nil .nil)) (.node (o113v5 P) (.node (o177v7 P) .nil .nil) (.node (o241v7 P) .nil .nil)))) (.node (o25v0 P) (.node (o41v2 P) (.node (o73v2 P) (.node (o137v5 P) (.node (o265v7 P) .nil .nil) .nil) (.node (o201v7 P) .nil .nil)) (.node (o105v4 P) (.node (o169v6 P) (.node (o297v7 P) .nil .nil) .nil) (.node (o233v7 P) .nil .nil))) (.node (o57v2 P) (.node (o89v3 P) (.node (o153v6 P) (.node (o281v7 P) .nil .nil) .nil) (.node (o217v7 P) .nil .nil)) (.node (o121v5 P) (.node (o185v7 P) .nil .nil) (.node (o249v7 P) .nil .nil))))) (.node (o13v0 P) (.node (o21v0 P) (.node (o37v2 P) (.node (o69v2 P) (.node (o133v5 P) (.node (o261v7 P) .nil .nil) .nil) (.node (o197v7 P) .nil .nil)) (.node (o101v4 P) (.node (o165v6 P) (.node (o293v7 P) .nil .nil) .nil) (.node (o229v7 P) .nil .nil))) (.node (o53v2 P) (.node (o85v2 P) (.node (o149v6 P) (.node (o277v7 P) .nil .nil) .nil) (.node (o213v7 P) .nil .nil)) (.node (o117v5 P) (.node (o181v7 P) .nil .nil) (.node (o245v7 P) .nil .nil)))) (.node (o29v7 P) (.node (o45v2 P) (.node (o77v2 P) (.node (o141v5 P) (.node (o269v7 P) .nil .nil) .nil) (.node (o205v7 P) .nil .nil)) (.node (o109v5 P) (.node (o173v6 P) .nil .nil) (.node (o237v7 P) .nil .nil))) (.node (o61v2 P) (.node (o93v3 P) (.node (o157v6 P) (.node (o285v7 P) .nil .nil) .nil) (.node (o221v7 P) .nil .nil)) (.node (o125v5 P) (.node (o189v7 P) .nil .nil) (.node (o253v7 P) .nil .nil))))))) (.node (o2v0 P) (.node (o4v0 P) (.node (o8v0 P) (.node (o16v0 P) (.node (o32v2 P) (.node (o64v2 P) (.node (o128v5 P) (.node (o256v7 P) .nil .nil) .nil) (.node (o192v7 P) .nil .nil)) (.node (o96v3 P) (.node (o160v6 P) (.node (o288v7 P) .nil .nil) .nil) (.node (o224v7 P) .nil .nil))) (.node (o48v2 P) (.node (o80v2 P) (.node (o144v5 P) (.node (o272v7 P) .nil .nil) .nil) (.node (o208v7 P) .nil .nil)) (.node (o112v5 P) (.node (o176v7 P) .nil .nil) (.node (o240v7 P) .nil .nil)))) (.node (o24v0 P) (.node (o40v2 P) (.node (o72v2 P) (.node (o136v5 P) (.node (o264v7 P) .nil .nil) .nil) (.node (o200v7 P) .nil .nil)) (.node (o104v4 P) (.node (o168v6 P) (.node (o296v7 P) .nil .nil) .nil) (.node (o232v7 P) .nil .nil))) (.node (o56v2 P) (.node (o88v3 P) (.node (o152v6 P) (.node (o280v7 P) .nil .nil) .nil) (.node (o216v7 P) .nil .nil)) (.node (o120v5 P) (.node (o184v7 P) .nil .nil) (.node (o248v7 P) .nil .nil))))) (.node (o12v0 P) (.node (o20v0 P) (.node (o36v2 P) (.node (o68v2 P) (.node (o132v5 P) (.node (o260v7 P) .nil .nil) .nil) (.node (o196v7 P) .nil .nil)) (.node (o100v4 P) (.node (o164v6 P) (.node (o292v7 P) .nil .nil) .nil) (.node (o228v7 P) .nil .nil))) (.node (o52v2 P) (.node (o84v2 P) (.node (o148v6 P) (.node (o276v7 P) .nil .nil) .nil) (.node (o212v7 P) .nil .nil)) (.node (o116v5 P) (.node (o180v7 P) .nil .nil) (.node (o244v7 P) .nil .nil)))) (.node (o28v1 P) (.node (o44v2 P) (.node (o76v2 P) (.node (o140v5 P) (.node (o268v7 P) .nil .nil) .nil) (.node (o204v7 P) .nil .nil)) (.node (o108v5 P) (.node (o172v6 P) .nil .nil) (.node (o236v7 P) .nil .nil))) (.node (o60v2 P) (.node (o92v3 P) (.node (o156v6 P) (.node (o284v7 P) .nil .nil) .nil) (.node (o220v7 P) .nil .nil)) (.node (o124v5 P) (.node (o188v7 P) .nil .nil) (.node (o252v7 P) .nil .nil)))))) (.node (o6v0 P) (.node (o10v0 P) (.node (o18v0 P) (.node (o34v2 P) (.node (o66v2 P) (.node (o130v5 P) (.node (o258v7 P) .nil .nil) .nil) (.node (o194v7 P) .nil .nil)) (.node (o98v3 P) (.node (o162v6 P) (.node (o290v7 P) .nil .nil) .nil) (.node (o226v7 P) .nil .nil))) (.node (o50v2 P) (.node (o82v2 P) (.node (o146v6 P) (.node (o274v7 P) .nil .nil) .nil) (.node (o210v7 P) .nil .nil)) (.node (o114v5 P) (.node (o178v7 P) .nil .nil) (.node (o242v7 P) .nil .nil)))) (.node (o26v0 P) (.node (o42v2 P) (.node (o74v2 P) (.node (o138v5 P) (.node (o266v7 P) .nil .nil) .nil) (.node (o202v7 P) .nil .nil)) (.node (o106v5 P) (.node (o170v6 P) (.node (o298v7 P) .nil .nil) .nil) (.node (o234v7 P) .nil .nil))) (.node (o58v2 P) (.node (o90v3 P) (.node (o154v6 P) (.node (o282v7 P) .nil .nil) .nil) (.node (o218v7 P) .nil .nil)) (.node (o122v5 P) (.node (o186v7 P) .nil .nil) (.node (o250v7 P) .nil .nil))))) (.node (o14v0 P) (.node (o22v0 P) (.node (o38v2 P) (.node (o70v2 P) (.node (o134v5 P) (.node (o262v7 P) .nil .nil) .nil) (.node (o198v7 P) .nil .nil)) (.node (o102v4 P) (.node (o166v6 P) (.node (o294v7 P) .nil .nil) .nil) (.node (o230v7 P) .nil .nil))) (.node (o54v2 P) (.node (o86v2 P) (.node (o150v6 P) (.node (o278v7 P) .nil .nil) .nil) (.node (o214v7 P) .nil .nil)) (.node (o118v5 P) (.node (o182v7 P) .nil .nil) (.node (o246v7 P) .nil .nil)))) (.node (o30v1 P) (.node (o46v2 P) (.node (o78v2 P) (.node (o142v5 P) (.node (o270v7 P) .nil .nil) .nil) (.node (o206v7 P) .nil .nil)) (.node (o110v5 P) (.node (o174v6 P) .nil .nil) (.node (o238v7 P) .nil .nil))) (.node (o62v2 P) (.node (o94v3 P) (.node (o158v6 P) (.node (o286v7 P) .nil .nil) .nil) (.node (o222v7 P) .nil .nil)) (.node (o126v5 P) (.node (o190v7 P) .nil .nil) (.node (o254v7 P) .nil .nil))))))))
-- state 8: 351 objects, toks 2745
noncomputable def o3v8 (P : Params) : Obj := ⟨.type "dict", none, .dict [en P (sS "__name__") 165 (.str (sS "law_to0087_01") 2676), en P (sS "__doc__") 166 (.none), en P (sS "__package__") 167 (.none), en P (sS "__loader__") 168 (.builtin "__main__.__loader__#opaque"), en P (sS "__spec__") 169 (.none), en P (sS "__annotations__") 170 (.ref 6), en P (sS "__builtins__") 171 (.ref 4), en P (sS "__file__") 173 (.str (sS "/claim/cut.py") 172), en P (sS "__cached__") 174 (.none), en P (sS "_sre") 275 (.ref 12), en P (sS "_wall") 288 (.ref 38), en P (sS "_MOVE_COST") 292 (.int 2 291), en P (sS "_CASE_COST") 294 (.int 1 293), en P (sS "_substitution_cost") 302 (.ref 45), en P (sS "_DIV_LIMIT") 306 (.int 4000 305), en P (sS "_div2n1n") 323 (.ref 52), en P (sS "_div3n2n") 337 (.ref 59), en P (sS "_int2digits") 348 (.ref 66), en P (sS "_digits2int") 359 (.ref 73), en P (sS "_divmod_pos") 374 (.ref 80), en P (sS "int_divmod") 384 (.ref 87), en P (sS "b1_set") 446 (.ref 95), en P (sS "in_table_b1") 453 (.ref 105), en P (sS "b3_exceptions") 2404 (.ref 106), en P (sS "map_table_b3") 2412 (.ref 151), en P (sS "tspecials") 2448 (.ref 156), en P (sS "_name_disallowed_re") 2474 (.ref 161), en P (sS "_value_disallowed_re") 2508 (.ref 166), en P (sS "_formatparam") 2518 (.ref 174), en P (sS "Headers") 2675 (.ref 295), en P (sS "_law_given") 2683 (.ref 304), en P (sS "_law_typed") 2692 (.ref 311), en P (sS "_law_read") 2698 (.ref 316), en P (sS "_law_page") 2707 (.ref 323), en P (sS "_law_paintings") 2720 (.ref 330), en P (sS "_law_fewest") 2726 (.ref 335), en P (sS "_law_weights") 2732 (.ref 340), en P (sS "_law_even") 2738 (.ref 345), en P (sS "law") 2744 (.ref 350)].toArray 39, [].toArray⟩
noncomputable def o29v8 (_ : Params) : Obj := ⟨.none, none, .fields [.int 2 0, .int 0 0, .ref 37, .int 8 0, .int 0 0, .ref 44, .int 16 0, .int 0 0, .ref 51, .int 32 0, .int 0 0, .ref 58, .int 42 0, .int 0 0, .ref 65, .int 58 0, .int 0 0, .ref 72, .int 67 0, .int 0 0, .ref 79, .int 78 0, .int 0 0, .ref 86, .int 91 0, .int 0 0, .ref 104, .int 94 0, .int 0 0, .ref 150, .int 103 0, .int 0 0, .ref 173, .int 112 0, .int 0 0, .ref 180, .int 195 0, .int 0 0, .ref 303, .int 198 0, .int 0 0, .ref 310, .int 201 0, .int 0 0, .ref 315, .int 203 0, .int 0 0, .ref 322, .int 209 0, .int 0 0, .ref 329, .int 219 0, .int 0 0, .ref 334, .int 235 0, .int 0 0, .ref 339, .int 246 0, .int 0 0, .ref 344, .int 258 0, .int 0 0, .ref 349].toArray, [].toArray⟩
noncomputable def o300v8 (_ : Params) : Obj := ⟨.type "tuple", none, .seq [].toArray 0, [].toArray⟩
noncomputable def o301v8 (_ : Params) : Obj := ⟨.none, none, .fields [].toArray, [].toArray⟩
noncomputable def o302v8 (_ : Params) : Obj := ⟨.none, none, .func ⟨(sS "_law_given"), (sS "_law_given"), fA (stA 26), .stmts (fB (stA 26)), fS (stA 26), 0, [], .none, .none, .none, .none, none, .none, .none, 0⟩, [].toArray⟩
noncomputable def o303v8 (_ : Params) : Obj := ⟨.type "code", none, .fields [.str (sS "_law_given") 2678, .str (sS "_law_given") 2679, .str (sS "/claim/cut.py") 2680, .int 195 0, .int 1 0, .int 0 0, .int 0 0, .int 3 0, .ref 300, .bool true, .int 276 0, .ref 301, .none, .none, .none, .ref 302, .int 2681 0, .int 195 0, .str (sS "/claim/cut.py") 2682].toArray, [].toArray⟩
noncomputable def o304v8 (_ : Params) : Obj := ⟨.type "function", none, .func ⟨(sS "_law_given"), (sS "_law_given"), fA (stA 26), .stmts (fB (stA 26)), fS (stA 26), 3, [], .none, .none, .none, .str (sS "law_to0087_01") 2676, none, .ref 303, .none, 0⟩, [].toArray⟩
noncomputable def o305v8 (_ : Params) : Obj := ⟨.type "tuple", none, .seq [].toArray 0, [].toArray⟩
noncomputable def o306v8 (_ : Params) : Obj := ⟨.none, none, .fields [].toArray, [].toArray⟩
noncomputable def o307v8 (_ : Params) : Obj := ⟨.type "tuple", none, .seq [.str (sS "place") 2687, .str (sS "x") 2688, .str (sS "forms") 2689].toArray 0, [].toArray⟩
noncomputable def o308v8 (_ : Params) : Obj := ⟨.type "tuple", none, .seq [].toArray 0, [].toArray⟩
noncomputable def o309v8 (_ : Params) : Obj := ⟨.none, none, .func ⟨(sS "_law_typed"), (sS "_law_typed"), fA (stA 27), .stmts (fB (stA 27)), fS (stA 27), 0, [], .none, .none, .none, .none, none, .none, .none, 0⟩, [].toArray⟩
noncomputable def o310v8 (_ : Params) : Obj := ⟨.type "code", none, .fields [.str (sS "_law_typed") 2684, .str (sS "_law_typed") 2685, .str (sS "/claim/cut.py") 2686, .int 198 0, .int 2 0, .int 0 0, .int 0 0, .int 3 0, .ref 305, .bool true, .int 276 0, .ref 306, .none, .ref 307, .ref 308, .ref 309, .int 2690 0, .int 198 0, .str (sS "/claim/cut.py") 2691].toArray, [].toArray⟩
noncomputable def o311v8 (_ : Params) : Obj := ⟨.type "function", none, .func ⟨(sS "_law_typed"), (sS "_law_typed"), fA (stA 27), .stmts (fB (stA 27)), fS (stA 27), 3, [], .none, .none, .none, .str (sS "law_to0087_01") 2676, none, .ref 310, .none, 0⟩, [].toArray⟩
noncomputable def o312v8 (_ : Params) : Obj := ⟨.type "tuple", none, .seq [].toArray 0, [].toArray⟩
noncomputable def o313v8 (_ : Params) : Obj := ⟨.none, none, .fields [].toArray, [].toArray⟩
noncomputable def o314v8 (_ : Params) : Obj := ⟨.none, none, .func ⟨(sS "_law_read"), (sS "_law_read"), fA (stA 28), .stmts (fB (stA 28)), fS (stA 28), 0, [], .none, .none, .none, .none, none, .none, .none, 0⟩, [].toArray⟩
noncomputable def o315v8 (_ : Params) : Obj := ⟨.type "code", none, .fields [.str (sS "_law_read") 2693, .str (sS "_law_read") 2694, .str (sS "/claim/cut.py") 2695, .int 201 0, .int 1 0, .int 0 0, .int 0 0, .int 3 0, .ref 312, .bool true, .int 276 0, .ref 313, .none, .none, .none, .ref 314, .int 2696 0, .int 201 0, .str (sS "/claim/cut.py") 2697].toArray, [].toArray⟩
noncomputable def o316v8 (_ : Params) : Obj := ⟨.type "function", none, .func ⟨(sS "_law_read"), (sS "_law_read"), fA (stA 28), .stmts (fB (stA 28)), fS (stA 28), 3, [], .none, .none, .none, .str (sS "law_to0087_01") 2676, none, .ref 315, .none, 0⟩, [].toArray⟩
noncomputable def o317v8 (_ : Params) : Obj := ⟨.type "tuple", none, .seq [].toArray 0, [].toArray⟩
noncomputable def o318v8 (_ : Params) : Obj := ⟨.none, none, .fields [].toArray, [].toArray⟩
noncomputable def o319v8 (_ : Params) : Obj := ⟨.type "tuple", none, .seq [.str (sS "given") 2702, .str (sS "page") 2703, .str (sS "k") 2704].toArray 0, [].toArray⟩
noncomputable def o320v8 (_ : Params) : Obj := ⟨.type "tuple", none, .seq [].toArray 0, [].toArray⟩
noncomputable def o321v8 (_ : Params) : Obj := ⟨.none, none, .func ⟨(sS "_law_page"), (sS "_law_page"), fA (stA 29), .stmts (fB (stA 29)), fS (stA 29), 0, [], .none, .none, .none, .none, none, .none, .none, 0⟩, [].toArray⟩
noncomputable def o322v8 (_ : Params) : Obj := ⟨.type "code", none, .fields [.str (sS "_law_page") 2699, .str (sS "_law_page") 2700, .str (sS "/claim/cut.py") 2701, .int 203 0, .int 1 0, .int 0 0, .int 0 0, .int 3 0, .ref 317, .bool true, .int 276 0, .ref 318, .none, .ref 319, .ref 320, .ref 321, .int 2705 0, .int 203 0, .str (sS "/claim/cut.py") 2706].toArray, [].toArray⟩
noncomputable def o323v8 (_ : Params) : Obj := ⟨.type "function", none, .func ⟨(sS "_law_page"), (sS "_law_page"), fA (stA 29), .stmts (fB (stA 29)), fS (stA 29), 3, [], .none, .none, .none, .str (sS "law_to0087_01") 2676, none, .ref 322, .none, 0⟩, [].toArray⟩
noncomputable def o324v8 (_ : Params) : Obj := ⟨.type "tuple", none, .seq [].toArray 0, [].toArray⟩
noncomputable def o325v8 (_ : Params) : Obj := ⟨.none, none, .fields [].toArray, [].toArray⟩
noncomputable def o326v8 (_ : Params) : Obj := ⟨.type "tuple", none, .seq [.str (sS "roads") 2711, .str (sS "paintings") 2712, .str (sS "ring") 2713, .str (sS "drawn") 2714, .str (sS "longer") 2715, .str (sS "red") 2716, .str (sS "blue") 2717].toArray 0, [].toArray⟩
noncomputable def o327v8 (_ : Params) : Obj := ⟨.type "tuple", none, .seq [].toArray 0, [].toArray⟩
noncomputable def o328v8 (_ : Params) : Obj := ⟨.none, none, .func ⟨(sS "_law_paintings"), (sS "_law_paintings"), fA (stA 30), .stmts (fB (stA 30)), fS (stA 30), 0, [], .none, .none, .none, .none, none, .none, .none, 0⟩, [].toArray⟩
noncomputable def o329v8 (_ : Params) : Obj := ⟨.type "code", none, .fields [.str (sS "_law_paintings") 2708, .str (sS "_law_paintings") 2709, .str (sS "/claim/cut.py") 2710, .int 209 0, .int 1 0, .int 0 0, .int 0 0, .int 3 0, .ref 324, .bool true, .int 276 0, .ref 325, .none, .ref 326, .ref 327, .ref 328, .int 2718 0, .int 209 0, .str (sS "/claim/cut.py") 2719].toArray, [].toArray⟩
noncomputable def o330v8 (_ : Params) : Obj := ⟨.type "function", none, .func ⟨(sS "_law_paintings"), (sS "_law_paintings"), fA (stA 30), .stmts (fB (stA 30)), fS (stA 30), 3, [], .none, .none, .none, .str (sS "law_to0087_01") 2676, none, .ref 329, .none, 0⟩, [].toArray⟩
noncomputable def o331v8 (_ : Params) : Obj := ⟨.type "tuple", none, .seq [].toArray 0, [].toArray⟩
noncomputable def o332v8 (_ : Params) : Obj := ⟨.none, none, .fields [].toArray, [].toArray⟩
noncomputable def o333v8 (_ : Params) : Obj := ⟨.none, none, .func ⟨(sS "_law_fewest"), (sS "_law_fewest"), fA (stA 31), .stmts (fB (stA 31)), fS (stA 31), 0, [], .none, .none, .none, .none, none, .none, .none, 0⟩, [].toArray⟩
noncomputable def o334v8 (_ : Params) : Obj := ⟨.type "code", none, .fields [.str (sS "_law_fewest") 2721, .str (sS "_law_fewest") 2722, .str (sS "/claim/cut.py") 2723, .int 219 0, .int 2 0, .int 0 0, .int 0 0, .int 3 0, .ref 331, .bool true, .int 276 0, .ref 332, .none, .none, .none, .ref 333, .int 2724 0, .int 219 0, .str (sS "/claim/cut.py") 2725].toArray, [].toArray⟩
noncomputable def o335v8 (_ : Params) : Obj := ⟨.type "function", none, .func ⟨(sS "_law_fewest"), (sS "_law_fewest"), fA (stA 31), .stmts (fB (stA 31)), fS (stA 31), 3, [], .none, .none, .none, .str (sS "law_to0087_01") 2676, none, .ref 334, .none, 0⟩, [].toArray⟩
noncomputable def o336v8 (_ : Params) : Obj := ⟨.type "tuple", none, .seq [].toArray 0, [].toArray⟩
noncomputable def o337v8 (_ : Params) : Obj := ⟨.none, none, .fields [].toArray, [].toArray⟩
noncomputable def o338v8 (_ : Params) : Obj := ⟨.none, none, .func ⟨(sS "_law_weights"), (sS "_law_weights"), fA (stA 32), .stmts (fB (stA 32)), fS (stA 32), 0, [], .none, .none, .none, .none, none, .none, .none, 0⟩, [].toArray⟩
noncomputable def o339v8 (_ : Params) : Obj := ⟨.type "code", none, .fields [.str (sS "_law_weights") 2727, .str (sS "_law_weights") 2728, .str (sS "/claim/cut.py") 2729, .int 235 0, .int 1 0, .int 0 0, .int 0 0, .int 3 0, .ref 336, .bool true, .int 276 0, .ref 337, .none, .none, .none, .ref 338, .int 2730 0, .int 235 0, .str (sS "/claim/cut.py") 2731].toArray, [].toArray⟩
noncomputable def o340v8 (_ : Params) : Obj := ⟨.type "function", none, .func ⟨(sS "_law_weights"), (sS "_law_weights"), fA (stA 32), .stmts (fB (stA 32)), fS (stA 32), 3, [], .none, .none, .none, .str (sS "law_to0087_01") 2676, none, .ref 339, .none, 0⟩, [].toArray⟩
noncomputable def o341v8 (_ : Params) : Obj := ⟨.type "tuple", none, .seq [].toArray 0, [].toArray⟩
noncomputable def o342v8 (_ : Params) : Obj := ⟨.none, none, .fields [].toArray, [].toArray⟩
noncomputable def o343v8 (_ : Params) : Obj := ⟨.none, none, .func ⟨(sS "_law_even"), (sS "_law_even"), fA (stA 33), .stmts (fB (stA 33)), fS (stA 33), 0, [], .none, .none, .none, .none, none, .none, .none, 0⟩, [].toArray⟩
noncomputable def o344v8 (_ : Params) : Obj := ⟨.type "code", none, .fields [.str (sS "_law_even") 2733, .str (sS "_law_even") 2734, .str (sS "/claim/cut.py") 2735, .int 246 0, .int 2 0, .int 0 0, .int 0 0, .int 3 0, .ref 341, .bool true, .int 276 0, .ref 342, .none, .none, .none, .ref 343, .int 2736 0, .int 246 0, .str (sS "/claim/cut.py") 2737].toArray, [].toArray⟩
noncomputable def o345v8 (_ : Params) : Obj := ⟨.type "function", none, .func ⟨(sS "_law_even"), (sS "_law_even"), fA (stA 33), .stmts (fB (stA 33)), fS (stA 33), 3, [], .none, .none, .none, .str (sS "law_to0087_01") 2676, none, .ref 344, .none, 0⟩, [].toArray⟩
noncomputable def o346v8 (_ : Params) : Obj := ⟨.type "tuple", none, .seq [].toArray 0, [].toArray⟩
noncomputable def o347v8 (_ : Params) : Obj := ⟨.none, none, .fields [].toArray, [].toArray⟩
noncomputable def o348v8 (_ : Params) : Obj := ⟨.none, none, .func ⟨(sS "law"), (sS "law"), fA (stA 34), .stmts (fB (stA 34)), fS (stA 34), 0, [], .none, .none, .none, .none, none, .none, .none, 0⟩, [].toArray⟩
noncomputable def o349v8 (_ : Params) : Obj := ⟨.type "code", none, .fields [.str (sS "law") 2739, .str (sS "law") 2740, .str (sS "/claim/cut.py") 2741, .int 258 0, .int 1 0, .int 0 0, .int 0 0, .int 3 0, .ref 346, .bool true, .int 276 0, .ref 347, .none, .none, .none, .ref 348, .int 2742 0, .int 258 0, .str (sS "/claim/cut.py") 2743].toArray, [].toArray⟩
noncomputable def o350v8 (_ : Params) : Obj := ⟨.type "function", none, .func ⟨(sS "law"), (sS "law"), fA (stA 34), .stmts (fB (stA 34)), fS (stA 34), 3, [], .none, .none, .none, .str (sS "law_to0087_01") 2676, none, .ref 349, .none, 0⟩, [].toArray⟩
noncomputable def tr8 (P : Params) : BT := (.node (o0v0 P) (.node (o1v0 P) (.node (o3v8 P) (.node (o7v0 P) (.node (o15v0 P) (.node (o31v1 P) (.node (o63v2 P) (.node (o127v5 P) (.node (o255v7 P) .nil .nil) .nil) (.node (o191v7 P) (.node (o319v8 P) .nil .nil) .nil)) (.node (o95v3 P) (.node (o159v6 P) (.node (o287v7 P) .nil .nil) .nil) (.node (o223v7 P) .nil .nil))) (.node (o47v2 P) (.node (o79v2 P) (.node (o143v5 P) (.node (o271v7 P) .nil .nil) .nil) (.node (o207v7 P) (.node (o335v8 P) .nil .nil) .nil)) (.node (o111v5 P) (.node (o175v7 P) (.node (o303v8 P) .nil .nil) .nil) (.node (o239v7 P) .nil .nil)))) (.node (o23v0 P) (.node (o39v2 P) (.node (o71v2 P) (.node (o135v5 P) (.node (o263v7 P) .nil .nil) .nil) (.node (o199v7 P) (.node (o327v8 P) .nil .nil) .nil)) (.node (o103v4 P) (.node (o167v6 P) (.node (o295v7 P) .nil .nil) .nil) (.node (o231v7 P) .nil .nil))) (.node (o55v2 P) (.node (o87v2 P) (.node (o151v6 P) (.node (o279v7 P) .nil .nil) .nil) (.node (o215v7 P) (.node (o343v8 P) .nil .nil) .nil)) (.node (o119v5 P) (.node (o183v7 P) (.node (o311v8 P) .nil .nil) .nil) (.node (o247v7 P) .nil .nil))))) (.node (o11v0 P) (.node (o19v0 P) (.node (o35v2 P) (.node (o67v2 P) (.node (o131v5 P) (.node (o259v7 P) .nil .nil) .nil) (.node (o195v7 P) (.node (o323v8 P) .nil .nil) .nil)) (.node (o99v4 P) (.node (o163v6 P) (.node (o291v7 P) .nil .nil) .nil) (.node (o227v7 P) .nil .nil))) (.node (o51v2 P) (.node (o83v2 P) (.node (o147v6 P) (.node (o275v7 P) .nil .nil) .nil) (.node (o211v7 P) (.node (o339v8 P) .nil .nil) .nil)) (.node (o115v5 P) (.node (o179v7 P) (.node (o307v8 P) .nil .nil) .nil) (.node (o243v7 P) .nil .nil)))) (.node (o27v0 P) (.node (o43v2 P) (.node (o75v2 P) (.node (o139v5 P) (.node (o267v7 P) .nil .nil) .nil) (.node (o203v7 P) (.node (o331v8 P) .nil .nil) .nil)) (.node (o107v5 P) (.node (o171v6 P) (.node (o299v7 P) .nil .nil) .nil) (.node (o235v7 P) .nil .nil))) (.node (o59v2 P) (.node (o91v3 P) (.node (o155v6 P) (.node (o283v7 P) .nil .nil) .nil) (.node (o219v7 P) (.node (o347v8 P) .nil .nil) .nil)) (.node (o123v5 P) (.node (o187v7 P) (.node (o315v8 P) .nil .nil) .nil) (.node (o251v7 P) .nil .nil)))))) (.node (o5v0 P) (.node (o9v0 P) (.node (o17v0 P) (.node (o33v2 P) (.node (o65v2 P) (.node (o129v5 P) (.node (o257v7 P) .nil .nil) .nil) (.node (o193v7 P) (.node (o321v8 P) .nil .nil) .nil)) (.node (o97v3 P) (.node (o161v6 P) (.node (o289v7 P) .nil .nil) .nil) (.node (o225v7 P) .nil .nil))) (.node (o49v2 P) (.node (o81v2 P) (.node (o145v6 P) (.node (o273v7 P) .nil .nil) .nil) (.node (o209v7 P) (.node (o337v8 P) .nil .nil) .nil)) (.node (o113v5 P) (.node (o177v7 P) (.node (o305v8 P) .nil .nil) .nil) (.node (o241v7 P) .nil .nil)))) (.node (o25v0 P) (.node (o41v2 P) (.node (o73v2 P) (.node (o137v5 P) (.node (o265v7 P) .nil .nil) .nil) (.node (o201v7 P) (.node (o329v8 P) .nil .nil) .nil)) (.node (o105v4 P) (.node (o169v6 P) (.node (o297v7 P) .nil .nil) .nil) (.node (o233v7 P) .nil .nil))) (.node (o57v2 P) (.node (o89v3 P) (.node (o153v6 P) (.node (o281v7 P) .nil .nil) .nil) (.node (o217v7 P) (.node (o345v8 P) .nil .nil) .nil)) (.node (o121v5 P) (.node (o185v7 P) (.node (o313v8 P) .nil .nil) .nil) (.node (o249v7 P) .nil .nil))))) (.node (o13v0 P) (.node (o21v0 P) (.node (o37v2 P) (.node (o69v2 P) (.node (o133v5 P) (.node (o261v7 P) .nil .nil) .nil) (.node (o197v7 P) (.node (o325v8 P) .nil .nil) .nil)) (.node (o101v4 P) (.node (o165v6 P) (.node (o293v7 P) .nil .nil) .nil) (.node (o229v7 P) .nil .nil))) (.node (o53v2 P) (.node (o85v2 P) (.node (o149v6 P) (.node (o277v7 P) .nil .nil) .nil) (.node (o213v7 P) (.node (o341v8 P) .nil .nil) .nil)) (.node (o117v5 P) (.node (o181v7 P) (.node (o309v8 P) .nil .nil) .nil) (.node (o245v7 P) .nil .nil)))) (.node (o29v8 P) (.node (o45v2 P) (.node (o77v2 P) (.node (o141v5 P) (.node (o269v7 P) .nil .nil) .nil) (.node (o205v7 P) (.node (o333v8 P) .nil .nil) .nil)) (.node (o109v5 P) (.node (o173v6 P) (.node (o301v8 P) .nil .nil) .nil) (.node (o237v7 P) .nil .nil))) (.node (o61v2 P) (.node (o93v3 P) (.node (o157v6 P) (.node (o285v7 P) .nil .nil) .nil) (.node (o221v7 P) (.node (o349v8 P) .nil .nil) .nil)) (.node (o125v5 P) (.node (o189v7 P) (.node (o317v8 P) .nil .nil) .nil) (.node (o253v7 P) .nil .nil))))))) (.node (o2v0 P) (.node (o4v0 P) (.node (o8v0 P) (.node (o16v0 P) (.node (o32v2 P) (.node (o64v2 P) (.node (o128v5 P) (.node (o256v7 P) .nil .nil) .nil) (.node (o192v7 P) (.node (o320v8 P) .nil .nil) .nil)) (.node (o96v3 P) (.node (o160v6 P) (.node (o288v7 P) .nil .nil) .nil) (.node (o224v7 P) .nil .nil))) (.node (o48v2 P) (.node (o80v2 P) (.node (o144v5 P) (.node (o272v7 P) .nil .nil) .nil) (.node (o208v7 P) (.node (o336v8 P) .nil .nil) .nil)) (.node (o112v5 P) (.node (o176v7 P) (.node (o304v8 P) .nil .nil) .nil) (.node (o240v7 P) .nil .nil)))) (.node (o24v0 P) (.node (o40v2 P) (.node (o72v2 P) (.node (o136v5 P) (.node (o264v7 P) .nil .nil) .nil) (.node (o200v7 P) (.node (o328v8 P) .nil .nil) .nil)) (.node (o104v4 P) (.node (o168v6 P) (.node (o296v7 P) .nil .nil) .nil) (.node (o232v7 P) .nil .nil))) (.node (o56v2 P) (.node (o88v3 P) (.node (o152v6 P) (.node (o280v7 P) .nil .nil) .nil) (.node (o216v7 P) (.node (o344v8 P) .nil .nil) .nil)) (.node (o120v5 P) (.node (o184v7 P) (.node (o312v8 P) .nil .nil) .nil) (.node (o248v7 P) .nil .nil))))) (.node (o12v0 P) (.node (o20v0 P) (.node (o36v2 P) (.node (o68v2 P) (.node (o132v5 P) (.node (o260v7 P) .nil .nil) .nil) (.node (o196v7 P) (.node (o324v8 P) .nil .nil) .nil)) (.node (o100v4 P) (.node (o164v6 P) (.node (o292v7 P) .nil .nil) .nil) (.node (o228v7 P) .nil .nil))) (.node (o52v2 P) (.node (o84v2 P) (.node (o148v6 P) (.node (o276v7 P) .nil .nil) .nil) (.node (o212v7 P) (.node (o340v8 P) .nil .nil) .nil)) (.node (o116v5 P) (.node (o180v7 P) (.node (o308v8 P) .nil .nil) .nil) (.node (o244v7 P) .nil .nil)))) (.node (o28v1 P) (.node (o44v2 P) (.node (o76v2 P) (.node (o140v5 P) (.node (o268v7 P) .nil .nil) .nil) (.node (o204v7 P) (.node (o332v8 P) .nil .nil) .nil)) (.node (o108v5 P) (.node (o172v6 P) (.node (o300v8 P) .nil .nil) .nil) (.node (o236v7 P) .nil .nil))) (.node (o60v2 P) (.node (o92v3 P) (.node (o156v6 P) (.node (o284v7 P) .nil .nil) .nil) (.node (o220v7 P) (.node (o348v8 P) .nil .nil) .nil)) (.node (o124v5 P) (.node (o188v7 P) (.node (o316v8 P) .nil .nil) .nil) (.node (o252v7 P) .nil .nil)))))) (.node (o6v0 P) (.node (o10v0 P) (.node (o18v0 P) (.node (o34v2 P) (.node (o66v2 P) (.node (o130v5 P) (.node (o258v7 P) .nil .nil) .nil) (.node (o194v7 P) (.node (o322v8 P) .nil .nil) .nil)) (.node (o98v3 P) (.node (o162v6 P) (.node (o290v7 P) .nil .nil) .nil) (.node (o226v7 P) .nil .nil))) (.node (o50v2 P) (.node (o82v2 P) (.node (o146v6 P) (.node (o274v7 P) .nil .nil) .nil) (.node (o210v7 P) (.node (o338v8 P) .nil .nil) .nil)) (.node (o114v5 P) (.node (o178v7 P) (.node (o306v8 P) .nil .nil) .nil) (.node (o242v7 P) .nil .nil)))) (.node (o26v0 P) (.node (o42v2 P) (.node (o74v2 P) (.node (o138v5 P) (.node (o266v7 P) .nil .nil) .nil) (.node (o202v7 P) (.node (o330v8 P) .nil .nil) .nil)) (.node (o106v5 P) (.node (o170v6 P) (.node (o298v7 P) .nil .nil) .nil) (.node (o234v7 P) .nil .nil))) (.node (o58v2 P) (.node (o90v3 P) (.node (o154v6 P) (.node (o282v7 P) .nil .nil) .nil) (.node (o218v7 P) (.node (o346v8 P) .nil .nil) .nil)) (.node (o122v5 P) (.node (o186v7 P) (.node (o314v8 P) .nil .nil) .nil) (.node (o250v7 P) .nil .nil))))) (.node (o14v0 P) (.node (o22v0 P) (.node (o38v2 P) (.node (o70v2 P) (.node (o134v5 P) (.node (o262v7 P) .nil .nil) .nil) (.node (o198v7 P) (.node (o326v8 P) .nil .nil) .nil)) (.node (o102v4 P) (.node (o166v6 P) (.node (o294v7 P) .nil .nil) .nil) (.node (o230v7 P) .nil .nil))) (.node (o54v2 P) (.node (o86v2 P) (.node (o150v6 P) (.node (o278v7 P) .nil .nil) .nil) (.node (o214v7 P) (.node (o342v8 P) .nil .nil) .nil)) (.node (o118v5 P) (.node (o182v7 P) (.node (o310v8 P) .nil .nil) .nil) (.node (o246v7 P) .nil .nil)))) (.node (o30v1 P) (.node (o46v2 P) (.node (o78v2 P) (.node (o142v5 P) (.node (o270v7 P) .nil .nil) .nil) (.node (o206v7 P) (.node (o334v8 P) .nil .nil) .nil)) (.node (o110v5 P) (.node (o174v6 P) (.node (o302v8 P) .nil .nil) .nil) (.node (o238v7 P) .nil .nil))) (.node (o62v2 P) (.node (o94v3 P) (.node (o158v6 P) (.node (o286v7 P) .nil .nil) .nil) (.node (o222v7 P) (.node (o350v8 P) .nil .nil) .nil)) (.node (o126v5 P) (.node (o190v7 P) (.node (o318v8 P) .nil .nil) .nil) (.node (o254v7 P) .nil .nil))))))))
noncomputable def hp8 (P : Params) : Heap := ⟨[o0v0 P, o1v0 P, o2v0 P, o3v8 P, o4v0 P, o5v0 P, o6v0 P, o7v0 P, o8v0 P, o9v0 P, o10v0 P, o11v0 P, o12v0 P, o13v0 P, o14v0 P, o15v0 P, o16v0 P, o17v0 P, o18v0 P, o19v0 P, o20v0 P, o21v0 P, o22v0 P, o23v0 P, o24v0 P, o25v0 P, o26v0 P, o27v0 P, o28v1 P, o29v8 P, o30v1 P, o31v1 P, o32v2 P, o33v2 P, o34v2 P, o35v2 P, o36v2 P, o37v2 P, o38v2 P, o39v2 P, o40v2 P, o41v2 P, o42v2 P, o43v2 P, o44v2 P, o45v2 P, o46v2 P, o47v2 P, o48v2 P, o49v2 P, o50v2 P, o51v2 P, o52v2 P, o53v2 P, o54v2 P, o55v2 P, o56v2 P, o57v2 P, o58v2 P, o59v2 P, o60v2 P, o61v2 P, o62v2 P, o63v2 P, o64v2 P, o65v2 P, o66v2 P, o67v2 P, o68v2 P, o69v2 P, o70v2 P, o71v2 P, o72v2 P, o73v2 P, o74v2 P, o75v2 P, o76v2 P, o77v2 P, o78v2 P, o79v2 P, o80v2 P, o81v2 P, o82v2 P, o83v2 P, o84v2 P, o85v2 P, o86v2 P, o87v2 P, o88v3 P, o89v3 P, o90v3 P, o91v3 P, o92v3 P, o93v3 P, o94v3 P, o95v3 P, o96v3 P, o97v3 P, o98v3 P, o99v4 P, o100v4 P, o101v4 P, o102v4 P, o103v4 P, o104v4 P, o105v4 P, o106v5 P, o107v5 P, o108v5 P, o109v5 P, o110v5 P, o111v5 P, o112v5 P, o113v5 P, o114v5 P, o115v5 P, o116v5 P, o117v5 P, o118v5 P, o119v5 P, o120v5 P, o121v5 P, o122v5 P, o123v5 P, o124v5 P, o125v5 P, o126v5 P, o127v5 P, o128v5 P, o129v5 P, o130v5 P, o131v5 P, o132v5 P, o133v5 P, o134v5 P, o135v5 P, o136v5 P, o137v5 P, o138v5 P, o139v5 P, o140v5 P, o141v5 P, o142v5 P, o143v5 P, o144v5 P, o145v6 P, o146v6 P, o147v6 P, o148v6 P, o149v6 P, o150v6 P, o151v6 P, o152v6 P, o153v6 P, o154v6 P, o155v6 P, o156v6 P, o157v6 P, o158v6 P, o159v6 P, o160v6 P, o161v6 P, o162v6 P, o163v6 P, o164v6 P, o165v6 P, o166v6 P, o167v6 P, o168v6 P, o169v6 P, o170v6 P, o171v6 P, o172v6 P, o173v6 P, o174v6 P, o175v7 P, o176v7 P, o177v7 P, o178v7 P, o179v7 P, o180v7 P, o181v7 P, o182v7 P, o183v7 P, o184v7 P, o185v7 P, o186v7 P, o187v7 P, o188v7 P, o189v7 P, o190v7 P, o191v7 P, o192v7 P, o193v7 P, o194v7 P, o195v7 P, o196v7 P, o197v7 P, o198v7 P, o199v7 P, o200v7 P, o201v7 P, o202v7 P, o203v7 P, o204v7 P, o205v7 P, o206v7 P, o207v7 P, o208v7 P, o209v7 P, o210v7 P, o211v7 P, o212v7 P, o213v7 P, o214v7 P, o215v7 P, o216v7 P, o217v7 P, o218v7 P, o219v7 P, o220v7 P, o221v7 P, o222v7 P, o223v7 P, o224v7 P, o225v7 P, o226v7 P, o227v7 P, o228v7 P, o229v7 P, o230v7 P, o231v7 P, o232v7 P, o233v7 P, o234v7 P, o235v7 P, o236v7 P, o237v7 P, o238v7 P, o239v7 P, o240v7 P, o241v7 P, o242v7 P, o243v7 P, o244v7 P, o245v7 P, o246v7 P, o247v7 P, o248v7 P, o249v7 P, o250v7 P, o251v7 P, o252v7 P, o253v7 P, o254v7 P, o255v7 P, o256v7 P, o257v7 P, o258v7 P, o259v7 P, o260v7 P, o261v7 P, o262v7 P, o263v7 P, o264v7 P, o265v7 P, o266v7 P, o267v7 P, o268v7 P, o269v7 P, o270v7 P, o271v7 P, o272v7 P, o273v7 P, o274v7 P, o275v7 P, o276v7 P, o277v7 P, o278v7 P, o279v7 P, o280v7 P, o281v7 P, o282v7 P, o283v7 P, o284v7 P, o285v7 P, o286v7 P, o287v7 P, o288v7 P, o289v7 P, o290v7 P, o291v7 P, o292v7 P, o293v7 P, o294v7 P, o295v7 P, o296v7 P, o297v7 P, o298v7 P, o299v7 P, o300v8 P, o301v8 P, o302v8 P, o303v8 P, o304v8 P, o305v8 P, o306v8 P, o307v8 P, o308v8 P, o309v8 P, o310v8 P, o311v8 P, o312v8 P, o313v8 P, o314v8 P, o315v8 P, o316v8 P, o317v8 P, o318v8 P, o319v8 P, o320v8 P, o321v8 P, o322v8 P, o323v8 P, o324v8 P, o325v8 P, o326v8 P, o327v8 P, o328v8 P, o329v8 P, o330v8 P, o331v8 P, o332v8 P, o333v8 P, o334v8 P, o335v8 P, o336v8 P, o337v8 P, o338v8 P, o339v8 P, o340v8 P, o341v8 P, o342v8 P, o343v8 P, o344v8 P, o345v8 P, o346v8 P, o347v8 P, o348v8 P, o349v8 P, o350v8 P].toArray, {}⟩

noncomputable def trX (P : Params) : BT := (.node (o0v0 P) (.node (o1v0 P) (.node (o3v4 P) (.node (o7v0 P) (.node (o15v0 P) (.node (o31v1 P) (.node (o63v2 P) (.node (o127v5 P) .nil .nil) .nil) (.node (o95v3 P) .nil .nil)) (.node (o47v2 P) (.node (o79v2 P) (.node (o143v5 P) .nil .nil) .nil) (.node (o111v5 P) .nil .nil))) (.node (o23v0 P) (.node (o39v2 P) (.node (o71v2 P) (.node (o135v5 P) .nil .nil) .nil) (.node (o103v4 P) .nil .nil)) (.node (o55v2 P) (.node (o87v2 P) .nil .nil) (.node (o119v5 P) .nil .nil)))) (.node (o11v0 P) (.node (o19v0 P) (.node (o35v2 P) (.node (o67v2 P) (.node (o131v5 P) .nil .nil) .nil) (.node (o99v4 P) .nil .nil)) (.node (o51v2 P) (.node (o83v2 P) .nil .nil) (.node (o115v5 P) .nil .nil))) (.node (o27v0 P) (.node (o43v2 P) (.node (o75v2 P) (.node (o139v5 P) .nil .nil) .nil) (.node (o107v5 P) .nil .nil)) (.node (o59v2 P) (.node (o91v3 P) .nil .nil) (.node (o123v5 P) .nil .nil))))) (.node (o5v0 P) (.node (o9v0 P) (.node (o17v0 P) (.node (o33v2 P) (.node (o65v2 P) (.node (o129v5 P) .nil .nil) .nil) (.node (o97v3 P) .nil .nil)) (.node (o49v2 P) (.node (o81v2 P) .nil .nil) (.node (o113v5 P) .nil .nil))) (.node (o25v0 P) (.node (o41v2 P) (.node (o73v2 P) (.node (o137v5 P) .nil .nil) .nil) (.node (o105v4 P) .nil .nil)) (.node (o57v2 P) (.node (o89v3 P) .nil .nil) (.node (o121v5 P) .nil .nil)))) (.node (o13v0 P) (.node (o21v0 P) (.node (o37v2 P) (.node (o69v2 P) (.node (o133v5 P) .nil .nil) .nil) (.node (o101v4 P) .nil .nil)) (.node (o53v2 P) (.node (o85v2 P) .nil .nil) (.node (o117v5 P) .nil .nil))) (.node (o29v4 P) (.node (o45v2 P) (.node (o77v2 P) (.node (o141v5 P) .nil .nil) .nil) (.node (o109v5 P) .nil .nil)) (.node (o61v2 P) (.node (o93v3 P) .nil .nil) (.node (o125v5 P) .nil .nil)))))) (.node (o2v0 P) (.node (o4v0 P) (.node (o8v0 P) (.node (o16v0 P) (.node (o32v2 P) (.node (o64v2 P) (.node (o128v5 P) .nil .nil) .nil) (.node (o96v3 P) .nil .nil)) (.node (o48v2 P) (.node (o80v2 P) (.node (o144v5 P) .nil .nil) .nil) (.node (o112v5 P) .nil .nil))) (.node (o24v0 P) (.node (o40v2 P) (.node (o72v2 P) (.node (o136v5 P) .nil .nil) .nil) (.node (o104v4 P) .nil .nil)) (.node (o56v2 P) (.node (o88v3 P) .nil .nil) (.node (o120v5 P) .nil .nil)))) (.node (o12v0 P) (.node (o20v0 P) (.node (o36v2 P) (.node (o68v2 P) (.node (o132v5 P) .nil .nil) .nil) (.node (o100v4 P) .nil .nil)) (.node (o52v2 P) (.node (o84v2 P) .nil .nil) (.node (o116v5 P) .nil .nil))) (.node (o28v1 P) (.node (o44v2 P) (.node (o76v2 P) (.node (o140v5 P) .nil .nil) .nil) (.node (o108v5 P) .nil .nil)) (.node (o60v2 P) (.node (o92v3 P) .nil .nil) (.node (o124v5 P) .nil .nil))))) (.node (o6v0 P) (.node (o10v0 P) (.node (o18v0 P) (.node (o34v2 P) (.node (o66v2 P) (.node (o130v5 P) .nil .nil) .nil) (.node (o98v3 P) .nil .nil)) (.node (o50v2 P) (.node (o82v2 P) .nil .nil) (.node (o114v5 P) .nil .nil))) (.node (o26v0 P) (.node (o42v2 P) (.node (o74v2 P) (.node (o138v5 P) .nil .nil) .nil) (.node (o106v5 P) .nil .nil)) (.node (o58v2 P) (.node (o90v3 P) .nil .nil) (.node (o122v5 P) .nil .nil)))) (.node (o14v0 P) (.node (o22v0 P) (.node (o38v2 P) (.node (o70v2 P) (.node (o134v5 P) .nil .nil) .nil) (.node (o102v4 P) .nil .nil)) (.node (o54v2 P) (.node (o86v2 P) .nil .nil) (.node (o118v5 P) .nil .nil))) (.node (o30v1 P) (.node (o46v2 P) (.node (o78v2 P) (.node (o142v5 P) .nil .nil) .nil) (.node (o110v5 P) .nil .nil)) (.node (o62v2 P) (.node (o94v3 P) .nil .nil) (.node (o126v5 P) .nil .nil)))))))

-- the end of the first line's run: 798 steps, 28 objects, toks 276, gens 0, rows [] last 38
noncomputable def o11ve (P : Params) : Obj := ⟨.type "dict", none, .dict [en P (sS "__name__") 247 (.str (sS "_sre") 246), en P (sS "__doc__") 248 (.none), en P (sS "__package__") 250 (.str (sS "") 249), en P (sS "__loader__") 251 (.ref 14), en P (sS "__spec__") 252 (.ref 26), en P (sS "compile") 253 (.builtin "_sre.compile"), en P (sS "template") 254 (.builtin "_sre.template"), en P (sS "getcodesize") 255 (.builtin "_sre.getcodesize"), en P (sS "ascii_iscased") 256 (.builtin "_sre.ascii_iscased"), en P (sS "unicode_iscased") 257 (.builtin "_sre.unicode_iscased"), en P (sS "ascii_tolower") 258 (.builtin "_sre.ascii_tolower"), en P (sS "unicode_tolower") 259 (.builtin "_sre.unicode_tolower"), en P (sS "MAGIC") 261 (.int 20230612 260), en P (sS "CODESIZE") 263 (.int 4 262), en P (sS "MAXREPEAT") 265 (.int 4294967295 264), en P (sS "MAXGROUPS") 267 (.int 1073741823 266), en P (sS "copyright") 269 (.str (sS " SRE 2.2.2 Copyright (c) 1997-2002 by Secret Labs AB ") 268)].toArray 17, [].toArray⟩
noncomputable def tre (P : Params) : BT := (.node (o0v0 P) (.node (o1v0 P) (.node (o3v0 P) (.node (o7v0 P) (.node (o15v0 P) .nil .nil) (.node (o23v0 P) .nil .nil)) (.node (o11ve P) (.node (o19v0 P) .nil .nil) (.node (o27v0 P) .nil .nil))) (.node (o5v0 P) (.node (o9v0 P) (.node (o17v0 P) .nil .nil) (.node (o25v0 P) .nil .nil)) (.node (o13v0 P) (.node (o21v0 P) .nil .nil) .nil))) (.node (o2v0 P) (.node (o4v0 P) (.node (o8v0 P) (.node (o16v0 P) .nil .nil) (.node (o24v0 P) .nil .nil)) (.node (o12v0 P) (.node (o20v0 P) .nil .nil) .nil)) (.node (o6v0 P) (.node (o10v0 P) (.node (o18v0 P) .nil .nil) (.node (o26v0 P) .nil .nil)) (.node (o14v0 P) (.node (o22v0 P) .nil .nil) .nil))))

noncomputable abbrev bd : List Stmt := behindTheImports pw
noncomputable abbrev envT : Env := { scope := pw.main.scope, locals := mainNs, globals := mainNs, cells := [], code := .ref 30, frame := some 31 }
noncomputable abbrev cT : Code := .body bd envT
noncomputable def sl (i j : Nat) : List Stmt := (bd.drop i).take (j - i)
noncomputable abbrev q0 : Pos := ⟨0, 0, 0, 0⟩
noncomputable def impEndsT (tb : String → Option Builtin) (p : Program) (w : World) : Nat → SharedT → Thread → Option SharedT
  | 0, _, _ => none
  | n + 1, s, t => match t.atExitBegin with
    | some [] => some s
    | some (_ :: _) => none
    | none => match PySem.W.Fast.tw10156331382660048174 (PySem.W.Fast.tw11892475500146522536 tb) p w s t with
      | some (s', t') => impEndsT tb p w n s' t'
      | none => none
theorem impEndsT_of {tb : String → Option Builtin} {p : Program} {w : World} : ∀ {n : Nat} {s s' : SharedT} {t : Thread}, impEndsT tb p w n s t = some s' → importEnds tb p w n s.abs t = some s'.abs
  | 0, _, _, _, h => by cases h
  | n + 1, s, s', t, h => by
    unfold impEndsT at h
    unfold importEnds
    cases he : t.atExitBegin with
    | some x =>
      rw [he] at h
      cases x with
      | nil => cases h; rfl
      | cons y l => cases h
    | none =>
      rw [he] at h
      cases hs : PySem.W.Fast.tw10156331382660048174 (PySem.W.Fast.tw11892475500146522536 tb) p w s t with
      | none => rw [hs] at h; cases h
      | some r =>
        obtain ⟨s₂, t₂⟩ := r
        rw [hs] at h
        rw [← PySem.W.Fast.te10156331382660048174, ← PySem.W.Fast.te11892475500146522536] at hs
        dsimp only
        rw [stepT_spec hs]
        exact impEndsT_of h
theorem pImpT (w : World) : impEndsT PySem.W.Fast.tw14364793385576792824 (opening pw) w 800 ⟨.nil, 0, {}, #[], {}, 1, (start (opening pw)).1.os⟩ (start (opening pw)).2 = some ⟨tre w.params, 28, {}, #[], {}, 276, (start (opening pw)).1.os⟩ := by kernel_rfl
theorem pImp (w : World) : importEnds treeTable (opening pw) w 800 (start (opening pw)).1 (start (opening pw)).2 = some ⟨absHeap (tre w.params) 28 {}, #[], {}, 276, (start (opening pw)).1.os⟩ := by
  have h := impEndsT_of (pImpT w)
  rw [← PySem.W.Fast.te14364793385576792824] at h
  exact h
theorem pFence (w : World) : (fun os => (fenceModules? pw ⟨absHeap (tre w.params) 28 {}, #[], {}, 276, os⟩).map (fun s => (s.heap, s.gens, s.drawn, s.toks))) = fun _ => some (absHeap (tr0 w.params) 28 {}, #[], {}, 276) := by
  have h : (fun os => (PySem.W.Fast.tw14289696077712309145 pw ⟨absHeap (tre w.params) 28 {}, #[], {}, 276, os⟩).map (fun s => (s.heap, s.gens, s.drawn, s.toks))) = fun _ => some (absHeap (tr0 w.params) 28 {}, #[], {}, 276) := by kernel_rfl
  rw [← PySem.W.Fast.te14289696077712309145] at h
  exact h
theorem pOpen : ∀ w : World, (fencedOpening treeTable pw w 40000).map (fun s => (s.heap, s.gens, s.drawn, s.toks)) = some (absHeap (tr0 w.params) 28 {}, #[], {}, 276) :=
  open_cut (M := 800) (He := fun P => absHeap (tre P) 28 {}) (H₀ := fun P => absHeap (tr0 P) 28 {}) pImp rfl pFence
theorem pPre (w : World) (os : OsState) : topGo treeTable pw w 28 (some (.ref 6)) 12 ⟨absHeap (tr0 w.params) 28 {}, #[], {}, 276, os⟩ (topStub pw) =
    some (⟨absHeap (tr1 w.params) 32 {}, #[], {}, 282, os⟩, ⟨denote treeTable cT, cT, q0, [topFrame q0]⟩) := by kernel_rfl
theorem pBlock (w : World) (os : OsState) : segRun treeTable pw w 28 (some (.ref 6)) 1 1 ⟨absHeap (tr1 w.params) 32 {}, #[], {}, 282, os⟩ (blockOf bd envT cT q0 [topFrame q0]) =
    some (.next, ⟨absHeap (tr1 w.params) 32 {}, #[], {}, 282, os⟩, cT, q0) := by kernel_rfl
theorem p13q (w : World) (os : OsState) : PySem.W.Fast.tw10110043849684766642 PySem.W.Fast.tw14364793385576792824 pw w 28 (some (.ref 6)) 1 324 ⟨tr1 w.params, 32, {}, #[], {}, 282, os⟩ ⟨(PySem.W.Fast.tw12563942051412417395 (sl 0 14) envT).wrap doneF deadEnd id id, cT, q0, [topFrame q0]⟩ =
    some (.next, ⟨tr2 w.params, 88, {}, #[], {}, 387, os⟩, cT, ⟨89, 0, 89, 8⟩) := by kernel_rfl
theorem p13 (w : World) (os : OsState) : segRunT treeTable pw w 28 (some (.ref 6)) 1 324 ⟨tr1 w.params, 32, {}, #[], {}, 282, os⟩ (piecesOf (sl 0 14) envT cT q0 [topFrame q0]) =
    some (.next, ⟨tr2 w.params, 88, {}, #[], {}, 387, os⟩, cT, ⟨89, 0, 89, 8⟩) := by
  have h := p13q w os
  rw [← PySem.W.Fast.te10110043849684766642, ← PySem.W.Fast.te14364793385576792824, ← PySem.W.Fast.te12563942051412417395] at h
  exact h
noncomputable abbrev p14P (w : World) : Prop := (fun (os : OsState) => PySem.W.Fast.tw10110043849684766642 PySem.W.Fast.tw14364793385576792824 pw w 28 (some (.ref 6)) 1 999 ⟨tr2 w.params, 88, {}, #[], {}, 387, os⟩ ⟨(PySem.W.Fast.tw12563942051412417395 (sl 14 15) envT).wrap doneF deadEnd id id, cT, ⟨89, 0, 89, 8⟩, [topFrame q0]⟩) =
    fun os => some (.next, ⟨tr3 w.params, 99, {}, #[], {}, 447, os⟩, cT, ⟨90, 0, 90, 6⟩)
theorem p14ff (w : World) : p14P ((w.withFollow "special-get-raises" false).withFollow "set-order" false) := by kernel_rfl
theorem p14ft (w : World) : p14P ((w.withFollow "special-get-raises" false).withFollow "set-order" true) := by kernel_rfl
theorem p14tf (w : World) : p14P ((w.withFollow "special-get-raises" true).withFollow "set-order" false) := by kernel_rfl
theorem p14tt (w : World) : p14P ((w.withFollow "special-get-raises" true).withFollow "set-order" true) := by kernel_rfl
theorem p14 (w : World) (os : OsState) : segRunT treeTable pw w 28 (some (.ref 6)) 1 999 ⟨tr2 w.params, 88, {}, #[], {}, 387, os⟩ (piecesOf (sl 14 15) envT cT ⟨89, 0, 89, 8⟩ [topFrame q0]) =
    some (.next, ⟨tr3 w.params, 99, {}, #[], {}, 447, os⟩, cT, ⟨90, 0, 90, 6⟩) := by
  have h := congrFun (byRow2 "set-order" (byRow2 "special-get-raises" (P := fun w => p14P (w.withFollow "set-order" false)) p14ff p14tf) (byRow2 "special-get-raises" (P := fun w => p14P (w.withFollow "set-order" true)) p14ft p14tt) w) os
  rw [← PySem.W.Fast.te10110043849684766642, ← PySem.W.Fast.te14364793385576792824, ← PySem.W.Fast.te12563942051412417395] at h
  exact h
theorem p15q (w : World) (os : OsState) : PySem.W.Fast.tw10110043849684766642 PySem.W.Fast.tw14364793385576792824 pw w 28 (some (.ref 6)) 1 30 ⟨tr3 w.params, 99, {}, #[], {}, 447, os⟩ ⟨(PySem.W.Fast.tw12563942051412417395 (sl 15 16) envT).wrap doneF deadEnd id id, cT, ⟨90, 0, 90, 6⟩, [topFrame q0]⟩ =
    some (.next, ⟨tr4 w.params, 106, {}, #[], {}, 454, os⟩, cT, ⟨91, 0, 92, 30⟩) := by kernel_rfl
theorem p15 (w : World) (os : OsState) : segRunT treeTable pw w 28 (some (.ref 6)) 1 30 ⟨tr3 w.params, 99, {}, #[], {}, 447, os⟩ (piecesOf (sl 15 16) envT cT ⟨90, 0, 90, 6⟩ [topFrame q0]) =
    some (.next, ⟨tr4 w.params, 106, {}, #[], {}, 454, os⟩, cT, ⟨91, 0, 92, 30⟩) := by
  have h := p15q w os
  rw [← PySem.W.Fast.te10110043849684766642, ← PySem.W.Fast.te14364793385576792824, ← PySem.W.Fast.te12563942051412417395] at h
  exact h
theorem p22q (w : World) (os : OsState) : PySem.W.Fast.tw10110043849684766642 PySem.W.Fast.tw14364793385576792824 pw w 28 (some (.ref 6)) 1 296 ⟨tr5 w.params, 145, {}, #[], {}, 2405, os⟩ ⟨(PySem.W.Fast.tw12563942051412417395 (sl 17 23) envT).wrap doneF deadEnd id id, cT, ⟨93, 0, 93, 13⟩, [topFrame q0]⟩ =
    some (.next, ⟨tr6 w.params, 175, {}, #[], {}, 2519, os⟩, cT, ⟨103, 0, 111, 20⟩) := by kernel_rfl
theorem p22 (w : World) (os : OsState) : segRunT treeTable pw w 28 (some (.ref 6)) 1 296 ⟨tr5 w.params, 145, {}, #[], {}, 2405, os⟩ (piecesOf (sl 17 23) envT cT ⟨93, 0, 93, 13⟩ [topFrame q0]) =
    some (.next, ⟨tr6 w.params, 175, {}, #[], {}, 2519, os⟩, cT, ⟨103, 0, 111, 20⟩) := by
  have h := p22q w os
  rw [← PySem.W.Fast.te10110043849684766642, ← PySem.W.Fast.te14364793385576792824, ← PySem.W.Fast.te12563942051412417395] at h
  exact h
theorem p23q (w : World) (os : OsState) : PySem.W.Fast.tw10110043849684766642 PySem.W.Fast.tw14364793385576792824 pw w 28 (some (.ref 6)) 1 727 ⟨tr6 w.params, 175, {}, #[], {}, 2519, os⟩ ⟨(PySem.W.Fast.tw12563942051412417395 (sl 23 24) envT).wrap doneF deadEnd id id, cT, ⟨103, 0, 111, 20⟩, [topFrame q0]⟩ =
    some (.next, ⟨tr7 w.params, 300, {}, #[], {}, 2676, os⟩, cT, ⟨112, 0, 193, 93⟩) := by kernel_rfl
theorem p23 (w : World) (os : OsState) : segRunT treeTable pw w 28 (some (.ref 6)) 1 727 ⟨tr6 w.params, 175, {}, #[], {}, 2519, os⟩ (piecesOf (sl 23 24) envT cT ⟨103, 0, 111, 20⟩ [topFrame q0]) =
    some (.next, ⟨tr7 w.params, 300, {}, #[], {}, 2676, os⟩, cT, ⟨112, 0, 193, 93⟩) := by
  have h := p23q w os
  rw [← PySem.W.Fast.te10110043849684766642, ← PySem.W.Fast.te14364793385576792824, ← PySem.W.Fast.te12563942051412417395] at h
  exact h
theorem p33q (w : World) (os : OsState) : PySem.W.Fast.tw10110043849684766642 PySem.W.Fast.tw14364793385576792824 pw w 28 (some (.ref 6)) 1 263 ⟨tr7 w.params, 300, {}, #[], {}, 2676, os⟩ ⟨(PySem.W.Fast.tw12563942051412417395 (sl 24 34) envT).wrap doneF deadEnd id id, cT, ⟨112, 0, 193, 93⟩, [topFrame q0]⟩ =
    some (.next, ⟨tr8 w.params, 351, {}, #[], {}, 2745, os⟩, cT, ⟨258, 0, 267, 102⟩) := by kernel_rfl
theorem p33 (w : World) (os : OsState) : segRunT treeTable pw w 28 (some (.ref 6)) 1 263 ⟨tr7 w.params, 300, {}, #[], {}, 2676, os⟩ (piecesOf (sl 24 34) envT cT ⟨112, 0, 193, 93⟩ [topFrame q0]) =
    some (.next, ⟨tr8 w.params, 351, {}, #[], {}, 2745, os⟩, cT, ⟨258, 0, 267, 102⟩) := by
  have h := p33q w os
  rw [← PySem.W.Fast.te10110043849684766642, ← PySem.W.Fast.te14364793385576792824, ← PySem.W.Fast.te12563942051412417395] at h
  exact h
theorem pFin (w : World) (os : OsState) : topRun treeTable pw w 28 (some (.ref 6)) 2 ⟨absHeap (tr8 w.params) 351 {}, #[], {}, 2745, os⟩ ⟨doneF .next, cT, ⟨258, 0, 267, 102⟩, [topFrame q0]⟩ = some ⟨absHeap (tr8 w.params) 351 {}, #[], {}, 2745, os⟩ := by kernel_rfl
end Mine
end
/-! # HeadD -/
section
open PySem PySem.W PyProof.Rows
set_option Elab.async false
set_option maxRecDepth 100000
set_option maxHeartbeats 400000000
namespace Mine
section
variable (w : World)
noncomputable abbrev tgo (w : World) (n : Nat) (s : Shared) (t : Thread) : Option (Shared × Thread) := topGo treeTable pw w 28 (some (.ref 6)) n s t
/-- the piece m of a tree runs in c steps from s to s', whatever stands behind it -/
noncomputable def Ev {α : Type} (w : World) (m : Sem α) (s : Shared) (p : Pos) (c : Nat) (a : α) (s' : Shared) (p' : Pos) : Prop :=
  ∀ (K : α → Sem Fin) (H : Value → Sem Fin) (gd : Bool → Bool) (lv : List Value → List Value) (code : Code) (f : Frame) (stk : List Frame),
    tgo w c s ⟨m.wrap K H gd lv, code, p, f :: stk⟩ = some (s', ⟨K a, code, p', f :: stk⟩)
theorem tgo_add {w : World} : ∀ (n m : Nat) (s : Shared) (t : Thread), tgo w (n + m) s t = (tgo w n s t).bind fun x => tgo w m x.1 x.2
  | 0, m, s, t => by rw [Nat.zero_add]; rfl
  | n + 1, m, s, t => by
    rw [show n + 1 + m = n + m + 1 by omega]
    simp only [tgo, topGo]
    cases through t with
    | true => rfl
    | false =>
      cases stepOk 28 (some (.ref 6)) t with
      | false => rfl
      | true =>
        cases step (denote treeTable) pw w s t with
        | go s' t' => exact tgo_add n m s' t'
        | halt _ _ => rfl
variable {α β : Type} {w}
theorem evPure {a : α} {s : Shared} {p : Pos} : Ev w (Pure.pure a) s p 0 a s p := fun _ _ _ _ _ _ _ => rfl
theorem evWrapped {m : Sem α} {g : α → Sem β} {b : β} {s s₁ s₂ : Shared} {p p₁ p₂ : Pos} {c c' : Nat} {a : α} {Hm gm lm} (h : Ev w m s p c a s₁ p₁) (k : Ev w (g a) s₁ p₁ c' b s₂ p₂) : Ev w (m.wrap g Hm gm lm) s p (c + c') b s₂ p₂ := by
  intro K H gd lv code f stk
  rw [Sem.wrap_wrap, tgo_add, h]
  exact k K H gd lv code f stk
theorem evBind {m : Sem α} {g : α → Sem β} {b : β} {s s₁ s₂ : Shared} {p p₁ p₂ : Pos} {c c' : Nat} {a : α} (h : Ev w m s p c a s₁ p₁) (k : Ev w (g a) s₁ p₁ c' b s₂ p₂) : Ev w (m >>= g) s p (c + c') b s₂ p₂ := by
  rw [Sem.bind_eq_wrap']; exact evWrapped h k
theorem evBind0 {m : Sem α} {g : α → Sem β} {b : β} {s s₁ s₂ : Shared} {p p₁ p₂ : Pos} {c' : Nat} {a : α} (h : Ev w m s p 0 a s₁ p₁) (k : Ev w (g a) s₁ p₁ c' b s₂ p₂) : Ev w (m >>= g) s p c' b s₂ p₂ := by
  have := evBind h k; rwa [Nat.zero_add] at this
theorem evOnRaise {m : Sem α} {g : Value → Sem Unit} {s s₁ : Shared} {p p₁ : Pos} {c : Nat} {a : α} (h : Ev w m s p c a s₁ p₁) : Ev w (m.onRaise g) s p c a s₁ p₁ := by
  rw [Sem.onRaise_eq_wrap]; exact evWrapped (c' := 0) h evPure
theorem evKeep {m : Sem α} {vs : List Value} {s s₁ : Shared} {p p₁ : Pos} {c : Nat} {a : α} (h : Ev w m s p c a s₁ p₁) : Ev w (m.keep vs) s p c a s₁ p₁ := by
  rw [Sem.keep_eq_wrap]; exact evWrapped (c' := 0) h evPure
theorem evHolding {m : Sem α} {vs : List Value} {s s₁ : Shared} {p p₁ : Pos} {c : Nat} {a : α} (h : Ev w m s p c a s₁ p₁) : Ev w (holding vs m) s p c a s₁ p₁ := by
  unfold PySem.holding
  split
  · exact h
  · exact evKeep h
theorem evStandAt {q p : Pos} {s : Shared} : Ev w (standAt q) s p 1 () s q := fun _ _ _ _ _ _ _ => rfl
theorem evRule {tag : String} {p : Pos} {s : Shared} : Ev w (rule tag) s p 1 () s p := fun _ _ _ _ _ _ _ => rfl
theorem evMkInt {i : Int} {p : Pos} {s : Shared} : Ev w (mkInt i) s p 1 (.int i s.toks) { s with toks := s.toks + 1 } p := fun _ _ _ _ _ _ _ => rfl
theorem evMkText {x : PySem.Str} {p : Pos} {s : Shared} : Ev w (mkText x) s p 1 (.str x s.toks) { s with toks := s.toks + 1 } p := fun _ _ _ _ _ _ _ => rfl
theorem evAlloc {o : Obj} {p : Pos} {s : Shared} : Ev w (alloc o) s p 1 s.heap.objs.size { s with heap := s.heap.push o } p := fun _ _ _ _ _ _ _ => rfl
theorem evLoadPart {a : Addr} {q : Option Value} {o : Obj} {p : Pos} {s : Shared} (h : s.heap.get? a = some o) : Ev w (loadPart a q) s p 1 o s p := by
  intro K H gd lv code f stk
  show (match step (denote treeTable) pw w s ⟨.load a q fun x => (Sem.pure x).wrap K H gd lv, code, p, f :: stk⟩ with | .go s' t' => some (s', t') | .halt _ _ => none) = _
  obtain ⟨hp, gens, drawn, toks, os⟩ := s
  simp only [step]
  rw [show hp.get? a = some o from h]
  rfl
theorem evUpdatePart {a : Addr} {q : Option Value} {g : Obj → Obj} {o : Obj} {p : Pos} {s : Shared} (h : s.heap.get? a = some o) (ha : 28 ≤ a) : Ev w (updatePart a q g) s p 1 () { s with heap := s.heap.update a g } p := by
  intro K H gd lv code f stk
  have hk : stepOk 28 (some (.ref 6)) ⟨.update a q g fun x => (Sem.pure x).wrap K H gd lv, code, p, f :: stk⟩ = true := by
    show (true && (Nat.ble 28 a || _ || _ || _)) = true
    rw [Nat.ble_eq_true_of_le ha]; rfl
  show (match stepOk 28 (some (.ref 6)) ⟨.update a q g fun x => (Sem.pure x).wrap K H gd lv, code, p, f :: stk⟩ with
    | false => none
    | true => match step (denote treeTable) pw w s ⟨.update a q g fun x => (Sem.pure x).wrap K H gd lv, code, p, f :: stk⟩ with | .go s' t' => some (s', t') | .halt _ _ => none) = _
  rw [hk]
  obtain ⟨hp, gens, drawn, toks, os⟩ := s
  simp only [step]
  rw [show hp.get? a = some o from h]
  rfl

end
theorem ev_hashB (b : Bool) (w : World) (hp : Heap) (gens : Array GenState) (drawn : Drawn) (toks : Nat) (os : OsState) (n : Int) (t : Tok) (R : Sem Value) (p : Pos) (K : Option Value → Sem Fin) (H : Value → Sem Fin) (gd : Bool → Bool) (lv : List Value → List Value) (code : Code) (f : Frame) (stk : List Frame) :
    PySem.W.Fast.tw15667345088766844465 PySem.W.Fast.tw14364793385576792824 pw (w.withFollow "special-get-raises" b) 28 (some (.ref 6)) 5 ⟨hp, gens, drawn, toks, os⟩ ⟨(callSpecialIfBoundUnlessNone? (.int n t) "__hash__" R).wrap K H gd lv, code, p, f :: stk⟩ =
      some (⟨hp, gens, drawn, toks + 1, os⟩, ⟨K (some (.int (rawHash n) toks)), code, p, f :: stk⟩) := by cases b <;> kernel_rfl
theorem ev_hashC {w : World} {s : Shared} {n : Int} {t : Tok} {R : Sem Value} {p : Pos} : Ev w (callSpecialIfBoundUnlessNone? (.int n t) "__hash__" R) s p 5 (some (.int (rawHash n) s.toks)) { s with toks := s.toks + 1 } p := by
  intro K H gd lv code f stk
  have h := ev_hashB (w.params.followText "special-get-raises") w s.heap s.gens s.drawn s.toks s.os n t R p K H gd lv code f stk
  rw [World.withFollow_self, ← PySem.W.Fast.te15667345088766844465, ← PySem.W.Fast.te14364793385576792824] at h
  exact h
theorem rawHash_small {n : Int} (h0 : 0 ≤ n) (h1 : n < 2 ^ 60) : rawHash n = n := by
  unfold rawHash
  have e : ((n.natAbs % (2 ^ 61 - 1) : Nat) : Int) = n := by
    rw [Nat.mod_eq_of_lt (by omega)]; omega
  have : ¬ n < 0 := by omega
  simp only [this, if_false]
  have e2 : ((n.natAbs : Int) % ((2 ^ 61 - 1 : Nat) : Int)) = n := by omega
  rw [e2]
  have : (n == -1) = false := by simp; omega
  rw [this]; rfl
theorem evHash {w : World} {s : Shared} {n : Int} {t : Tok} {p : Pos} (h0 : 0 ≤ n) (h1 : n < 2 ^ 60) : Ev w (pyHash (.int n t)) s p 5 n { s with toks := s.toks + 1 } p := by
  have e1 : specialOf (.int n t) (Str.ofString "__hash__") = (pure (some (.builtin "int.__hash__")) : Sem (Option Value)) := by kernel_rfl
  rw [show PySem.pyHash (.int n t) = pyHashByItsType (.int n t) from rfl]
  unfold pyHashByItsType
  rw [show cRoomFor "hash" [Value.int n t] = pure () from rfl, e1]
  refine evBind0 evPure ?_
  refine evBind0 evPure ?_
  dsimp only
  rw [if_neg (by decide)]
  refine evBind0 evPure ?_
  rw [if_neg (by decide)]
  refine evBind (c' := 0) ev_hashC ?_
  dsimp only
  unfold pyHashByItsType.reduced
  rw [rawHash_small h0 h1]
  rw [if_pos (by simp; omega)]
  have : (n == -1) = false := by simp; omega
  rw [this]
  exact evPure

-- dicts
noncomputable abbrev AtD (h : Heap) (d : Addr) (es : List DictEntry) : Prop := h.get? d = some (dObj es)
noncomputable def setD (h : Heap) (d : Addr) (es : List DictEntry) : Heap := h.update d fun _ => dObj es
theorem objs_of_get {h : Heap} {d : Addr} {o : Obj} (e : h.get? d = some o) : h.objs[d]? = some o := by
  unfold Heap.get? at e
  split at e
  · cases e
  · exact e
theorem atD_setD {h : Heap} {d : Addr} {es es' : List DictEntry} (e : AtD h d es) : AtD (setD h d es') d es' := by
  have e1 := objs_of_get e
  show Heap.get? ⟨h.objs.modify d _, _⟩ d = _
  unfold Heap.get?
  rw [Array.getElem?_modify, if_pos rfl, e1]
  rfl
theorem get_setD_ne {h : Heap} {d b : Addr} {es' : List DictEntry} (hb : b ≠ d) : (setD h d es').get? b = h.get? b := by
  show Heap.get? ⟨h.objs.modify d _, _⟩ b = _
  unfold Heap.get?
  dsimp only
  rw [Array.getElem?_modify, if_neg (Ne.symm hb)]
theorem setD_setD {h : Heap} {d : Addr} {a b : List DictEntry} : setD (setD h d a) d b = setD h d b := by
  show Heap.mk ((h.objs.modify d _).modify d _) _ = Heap.mk (h.objs.modify d _) _
  congr 1
  apply Array.ext_getElem?
  intro i
  simp only [Array.getElem?_modify]
  split
  · rw [Option.map_map]; rfl
  · rfl
theorem upd_push {h : Heap} {d : Addr} {es : List DictEntry} {e : DictEntry} (hd : AtD h d es) : h.update d (Obj.mapDictKeys (·.push e)) = setD h d (es ++ [e]) := by
  have e1 := objs_of_get hd
  show Heap.mk (h.objs.modify d _) _ = Heap.mk (h.objs.modify d _) _
  congr 1
  apply Array.ext_getElem?
  intro i
  simp only [Array.getElem?_modify]
  split
  · rename_i q; subst q
    rw [e1]
    simp [Obj.mapDictKeys, dObj]
  · rfl
theorem setD_same {h : Heap} {d : Addr} {es : List DictEntry} (hd : AtD h d es) : setD h d es = h := by
  have e1 := objs_of_get hd
  show Heap.mk (h.objs.modify d _) _ = h
  obtain ⟨o, l⟩ := h
  congr 1
  apply Array.ext_getElem?
  intro i
  simp only [Array.getElem?_modify]
  split
  · rename_i q; subst q
    rw [show o[d]? = some (dObj es) from e1]; rfl
  · rfl
theorem atD_push {h : Heap} {es : List DictEntry} : AtD (h.push (dObj es)) h.objs.size es := by
  show Heap.get? ⟨h.objs.push _, _⟩ _ = _
  unfold Heap.get?
  simp [dObj]
theorem setD_push {h : Heap} {a b : List DictEntry} : setD (h.push (dObj a)) h.objs.size b = h.push (dObj b) := by
  show Heap.mk ((h.objs.push _).modify _ _) _ = Heap.mk (h.objs.push _) _
  congr 1
  apply Array.ext_getElem?
  intro i
  simp only [Array.getElem?_modify, Array.getElem?_push]
  split
  · rename_i q; subst q; simp
  · rename_i q; rw [if_neg (Ne.symm q), if_neg (Ne.symm q)]
theorem get_push_ne {h : Heap} {d : Addr} {o o' : Obj} (e : h.get? d = some o) : (h.push o').get? d = some o := Heap.get?_push_of_some o' e
theorem lt_of_atD {h : Heap} {d : Addr} {es : List DictEntry} (e : AtD h d es) : d < h.objs.size := by
  have := objs_of_get e
  exact (Array.getElem?_eq_some_iff.mp this).1
section
variable {w : World} {h : Heap} {gens : Array GenState} {drawn : Drawn} {toks : Nat} {os : OsState} {p : Pos} {d : Addr} {es : List DictEntry}
theorem places_none {n : Int} (hf : ∀ e ∈ es, e.hash ≠ n) : placesWithHash es.toArray.size (fun i => es.toArray[i]?.map (·.hash)) n = [] := by
  unfold placesWithHash
  rw [List.filter_eq_nil_iff]
  intro i hi
  simp only [List.getElem?_toArray, beq_iff_eq]
  intro q
  cases he : es[i]? with
  | none => rw [he] at q; cases q
  | some e =>
    rw [he] at q
    exact hf e (List.mem_of_getElem? he) (Option.some.inj q)
theorem evEntries {part : Option Value} (hd : AtD h d es) : Ev w (dictEntries d part) ⟨h, gens, drawn, toks, os⟩ p 1 es.toArray ⟨h, gens, drawn, toks, os⟩ p :=
  evBind (c' := 0) (evLoadPart hd) evPure
theorem evFind {n : Int} {t : Tok} (hd : AtD h d es) (hf : ∀ e ∈ es, e.hash ≠ n) : Ev w (dictFind d (.int n t) n) ⟨h, gens, drawn, toks, os⟩ p 1 none ⟨h, gens, drawn, toks, os⟩ p := by
  unfold dictFind
  refine evHolding ?_
  refine evBind (c' := 0) (evEntries hd) ?_
  dsimp only
  rw [places_none hf]
  rw [if_pos (by rfl)]
  exact evPure
theorem evPushKey {part : Option Value} {e : DictEntry} (hd : AtD h d es) (ha : 28 ≤ d) (hs : es.length < 1000) : Ev w (updateDictKeys d (·.push e) part) ⟨h, gens, drawn, toks, os⟩ p 3 () ⟨setD h d (es ++ [e]), gens, drawn, toks, os⟩ p := by
  unfold updateDictKeys
  refine evBind (c' := 2) (evLoadPart hd) ?_
  show Ev w (updatePart d part (Obj.mapDictKeys (·.push e)) >>= fun _ => lookBehind d part) _ _ _ _ _ _
  refine evBind (c' := 1) (evUpdatePart hd ha) ?_
  dsimp only
  rw [upd_push hd]
  unfold lookBehind
  refine evBind (c' := 0) (evLoadPart (atD_setD hd)) ?_
  have e : (dObj (es ++ [e])).data.pastItsLine = none := by
    show (if (es ++ [e]).toArray.size > sizeLine + 1 then some "dict:memory" else none) = none
    rw [if_neg]
    rw [sizeLine_eq]
    simp only [List.size_toArray, List.length_append, List.length_cons, List.length_nil]
    omega
  rw [e]
  exact evPure
theorem evSet {n : Int} {t : Tok} {v : Value} (h0 : 0 ≤ n) (h1 : n < 2 ^ 60) (hd : AtD h d es) (hf : ∀ e ∈ es, e.hash ≠ n) (ha : 28 ≤ d) (hs : es.length < 1000) :
    Ev w (dictSet d (.int n t) v) ⟨h, gens, drawn, toks, os⟩ p 10 () ⟨setD h d (es ++ [⟨n, .int n t, v⟩]), gens, drawn, toks + 1, os⟩ p := by
  unfold dictSet
  refine evHolding ?_
  refine evBind (c' := 5) (evHash h0 h1) ?_
  unfold dictSetHashed
  refine evHolding ?_
  refine evBind (c := 1) (c' := 4) (evFind hd hf) ?_
  dsimp only
  refine evBind (c := 1) (c' := 3) evRule ?_
  exact evPushKey hd ha hs
theorem evPut {n : Int} {t : Tok} {v : Value} (hd : AtD h d es) (hf : ∀ e ∈ es, e.hash ≠ n) (ha : 28 ≤ d) (hs : es.length < 1000) :
    Ev w (dictPut d n (.int n t) v) ⟨h, gens, drawn, toks, os⟩ p 4 () ⟨setD h d (es ++ [⟨n, .int n t, v⟩]), gens, drawn, toks, os⟩ p := by
  unfold dictPut
  refine evBind (c := 1) (c' := 3) (evFind hd hf) ?_
  dsimp only
  exact evPushKey hd ha hs
end
/-- a pair's two pieces, as a display runs them -/
noncomputable def kS (n : Int) : Sem Value := mkInt n
noncomputable def vS (q : Pos) (x : PySem.Str) : Sem Value := do let v ← mkText x; standAt q; pure v
noncomputable abbrev itemS (q : Pos) (x : Int × PySem.Str) : Sem Value × Sem Value := (kS x.1, vS q x.2)
section
variable {w : World} {gens : Array GenState} {drawn : Drawn} {os : OsState} {q : Pos}
theorem evV {s : Shared} {p : Pos} {x : PySem.Str} : Ev w (vS q x) s p 2 (.str x s.toks) { s with toks := s.toks + 1 } q :=
  evBind (c := 1) (c' := 1) evMkText (evBind (c := 1) (c' := 0) evStandAt evPure)
/-- keys that are small, apart from each other and from es -/
noncomputable def Fresh (es : List DictEntry) : List (Int × PySem.Str) → Prop
  | [] => True
  | x :: r => (0 ≤ x.1 ∧ x.1 < 2 ^ 60 ∧ (∀ e ∈ es, e.hash ≠ x.1)) ∧ Fresh es r ∧ ∀ y ∈ r, y.1 ≠ x.1
theorem Fresh.snoc {es : List DictEntry} {e : DictEntry} : ∀ {l : List (Int × PySem.Str)}, Fresh es l → (∀ y ∈ l, y.1 ≠ e.hash) → Fresh (es ++ [e]) l
  | [], _, _ => trivial
  | x :: r, h, k => ⟨⟨h.1.1, h.1.2.1, fun e' he => by
      rcases List.mem_append.mp he with he | he
      · exact h.1.2.2 e' he
      · rw [List.mem_singleton.mp he]; exact fun q => k x (.head _) q.symm⟩, Fresh.snoc h.2.1 fun y hy => k y (.tail _ hy), h.2.2⟩
theorem evLong {d : Addr} (ha : 28 ≤ d) : ∀ (ps : List (Int × PySem.Str)) (h : Heap) (es : List DictEntry) (toks : Nat) (p : Pos), AtD h d es → Fresh es ps → es.length + ps.length < 1000 →
    Ev w (forIn (ps.map (itemS q)) PUnit.unit fun x _ => match x with
        | (k, v) => do
          let kv ← k
          let vv ← holding [kv] v
          holding [kv, vv] (dictSet d kv vv)
          pure (.yield PUnit.unit)) ⟨h, gens, drawn, toks, os⟩ p (13 * ps.length) PUnit.unit ⟨setD h d (es ++ ent3 toks ps), gens, drawn, toks + 3 * ps.length, os⟩ (if ps.isEmpty then p else q)
  | [], h, es, toks, p, hd, _, _ => by
    simp only [List.map_nil, List.forIn_nil, ent3, List.append_nil, List.length_nil, setD_same hd]
    exact evPure
  | x :: r, h, es, toks, p, hd, hf, hs => by
    simp only [List.map_cons, List.forIn_cons]
    rw [List.length_cons] at hs
    have e : 13 * (x :: r).length = 13 + 13 * r.length := by rw [List.length_cons]; omega
    rw [e]
    refine evBind (c := 13) (c' := 13 * r.length) (a := .yield PUnit.unit) (s₁ := ⟨setD h d (es ++ [⟨x.1, .int x.1 toks, .str x.2 (toks + 1)⟩]), gens, drawn, toks + 3, os⟩) (p₁ := q) ?_ ?_
    · refine evBind (c := 1) (c' := 12) evMkInt ?_
      refine evBind (c := 2) (c' := 10) (evHolding evV) ?_
      exact evBind (c := 10) (c' := 0) (evHolding (evSet hf.1.1 hf.1.2.1 hd hf.1.2.2 ha (by omega))) evPure
    · dsimp only
      have k := evLong ha r (setD h d (es ++ [⟨x.1, .int x.1 toks, .str x.2 (toks + 1)⟩])) (es ++ [⟨x.1, .int x.1 toks, .str x.2 (toks + 1)⟩]) (toks + 3) q (atD_setD hd) (hf.2.1.snoc hf.2.2) (by simp only [List.length_append, List.length_cons, List.length_nil]; omega)
      rw [setD_setD] at k
      have e1 : es ++ ent3 toks (x :: r) = es ++ [⟨x.1, .int x.1 toks, .str x.2 (toks + 1)⟩] ++ ent3 (toks + 3) r := by rw [List.append_assoc]; rfl
      have e2 : toks + 3 * (x :: r).length = toks + 3 + 3 * r.length := by rw [List.length_cons]; omega
      rw [e1, e2]
      have e3 : (if (x :: r).isEmpty = true then p else q) = (if r.isEmpty = true then q else q) := by simp
      rw [e3]
      exact k
theorem evSubLong {h : Heap} {toks : Nat} {p : Pos} {ps : List (Int × PySem.Str)} (ha : 28 ≤ h.objs.size) (hl : ps.length = 17) (hf : Fresh [] ps) :
    Ev w (subDict (ps.map (itemS q))) ⟨h, gens, drawn, toks, os⟩ p 223 h.objs.size ⟨h.push (dObj (ent3 toks ps)), gens, drawn, toks + 51, os⟩ q := by
  unfold subDict
  refine evBind (c := 1) (c' := 222) evAlloc ?_
  refine evBind (c := 222) (c' := 0) (a := PUnit.unit) ?_ evPure
  refine evHolding ?_
  rw [if_neg (by rw [List.length_map, hl]; decide)]
  refine evBind (c := 1) (c' := 221) evRule ?_
  have k := evLong (w := w) (gens := gens) (drawn := drawn) (os := os) (q := q) ha ps (h.push (dObj [])) [] toks p atD_push hf (by rw [hl]; decide)
  rw [setD_push, hl] at k
  have e3 : (if ps.isEmpty = true then p else q) = q := by
    cases ps with
    | nil => cases hl
    | cons _ _ => rfl
  rw [e3] at k
  exact evBind (c := 221) (c' := 0) k evPure
end
theorem evBindE {w : World} {α β : Type} {m : Sem α} {g : α → Sem β} {b : β} {s s₁ s₂ : Shared} {p p₁ p₂ : Pos} {c c' n : Nat} {a : α} (h : Ev w m s p c a s₁ p₁) (e : n = c + c') (k : Ev w (g a) s₁ p₁ c' b s₂ p₂) : Ev w (m >>= g) s p n b s₂ p₂ := by
  subst e; exact evBind h k
theorem evMap {w : World} {α β : Type} {m : Sem α} {g : α → β} {s s₁ : Shared} {p p₁ : Pos} {c : Nat} {a : α} (h : Ev w m s p c a s₁ p₁) : Ev w (g <$> m) s p c (g a) s₁ p₁ :=
  evBind (c' := 0) (g := fun a => Pure.pure (g a)) h evPure
section
variable {w : World} {gens : Array GenState} {drawn : Drawn} {os : OsState} {q : Pos}
/-- the short run: the values first -/
theorem evPairs : ∀ (ps : List (Int × PySem.Str)) (h : Heap) (toks : Nat) (p : Pos),
    Ev w (evalPairs (ps.map (itemS q))) ⟨h, gens, drawn, toks, os⟩ p (3 * ps.length) ((ent2 toks ps).map fun e => (e.key, e.val)) ⟨h, gens, drawn, toks + 2 * ps.length, os⟩ (if ps.isEmpty then p else q)
  | [], h, toks, p => evPure
  | x :: r, h, toks, p => by
    rw [List.map_cons]
    unfold evalPairs
    refine evBindE (c := 1) (c' := 2 + 3 * r.length) evMkInt (by rw [List.length_cons]; omega) ?_
    refine evBindE (c := 2) (c' := 3 * r.length) (evHolding evV) rfl ?_
    have k := evPairs r h (toks + 2) q
    have e2 : toks + 2 * (x :: r).length = toks + 2 + 2 * r.length := by rw [List.length_cons]; omega
    have e3 : (if (x :: r).isEmpty = true then p else q) = (if r.isEmpty = true then q else q) := by simp
    rw [e2, e3]
    exact evMap (evHolding k)
/-- the short run's stores -/
theorem evShort {d : Addr} (ha : 28 ≤ d) : ∀ (ps : List (Int × PySem.Str)) (h : Heap) (es : List DictEntry) (t toks : Nat) (p : Pos), AtD h d es → Fresh es ps → es.length + ps.length < 1000 →
    Ev w (forIn ((ent2 t ps).map fun e => (e.key, e.val)) PUnit.unit fun x _ => match x with
        | (k, v) => do
          dictSet d k v
          pure (.yield PUnit.unit)) ⟨h, gens, drawn, toks, os⟩ p (10 * ps.length) PUnit.unit ⟨setD h d (es ++ ent2 t ps), gens, drawn, toks + ps.length, os⟩ p
  | [], h, es, t, toks, p, hd, _, _ => by
    simp only [ent2, List.map_nil, List.forIn_nil, List.append_nil, List.length_nil, setD_same hd]
    exact evPure
  | x :: r, h, es, t, toks, p, hd, hf, hs => by
    simp only [ent2, List.map_cons, List.forIn_cons]
    rw [List.length_cons] at hs
    refine evBindE (c := 10) (c' := 10 * r.length) (a := .yield PUnit.unit) (s₁ := ⟨setD h d (es ++ [⟨x.1, .int x.1 t, .str x.2 (t + 1)⟩]), gens, drawn, toks + 1, os⟩) (p₁ := p) ?_ (by rw [List.length_cons]; omega) ?_
    · exact evBind (c := 10) (c' := 0) (evSet hf.1.1 hf.1.2.1 hd hf.1.2.2 ha (by omega)) evPure
    · dsimp only
      have k := evShort ha r (setD h d (es ++ [⟨x.1, .int x.1 t, .str x.2 (t + 1)⟩])) (es ++ [⟨x.1, .int x.1 t, .str x.2 (t + 1)⟩]) (t + 2) (toks + 1) p (atD_setD hd) (hf.2.1.snoc hf.2.2) (by simp only [List.length_append, List.length_cons, List.length_nil]; omega)
      rw [setD_setD] at k
      have e1 : es ++ (⟨x.1, .int x.1 t, .str x.2 (t + 1)⟩ :: ent2 (t + 2) r : List DictEntry) = es ++ [⟨x.1, .int x.1 t, .str x.2 (t + 1)⟩] ++ ent2 (t + 2) r := by rw [List.append_assoc]; rfl
      have e2 : toks + (r.length + 1) = toks + 1 + r.length := by omega
      rw [e1, List.length_cons, e2]
      exact k
theorem evSubShort {h : Heap} {toks : Nat} {p : Pos} {x : Int × PySem.Str} {r : List (Int × PySem.Str)} (ha : 28 ≤ h.objs.size) (hl : (x :: r).length ≤ 15) (hf : Fresh [] (x :: r)) :
    Ev w (subDict ((x :: r).map (itemS q))) ⟨h, gens, drawn, toks, os⟩ p (1 + 13 * (x :: r).length) h.objs.size ⟨h.push (dObj (ent2 toks (x :: r))), gens, drawn, toks + 3 * (x :: r).length, os⟩ q := by
  unfold subDict
  refine evBindE (c := 1) (c' := 13 * (x :: r).length) evAlloc rfl ?_
  refine evBindE (c := 13 * (x :: r).length) (c' := 0) (a := PUnit.unit) ?_ rfl evPure
  refine evHolding ?_
  rw [if_pos (by rw [List.length_map]; exact hl)]
  refine evBindE (c := 3 * (x :: r).length) (c' := 10 * (x :: r).length) (evPairs (x :: r) _ _ _) (by omega) ?_
  refine evHolding ?_
  have k := evShort (w := w) (gens := gens) (drawn := drawn) (os := os) ha (x :: r) (h.push (dObj [])) [] toks (toks + 2 * (x :: r).length) q atD_push hf (by simp only [List.length_nil]; omega)
  rw [setD_push] at k
  have e2 : toks + 3 * (x :: r).length = toks + 2 * (x :: r).length + (x :: r).length := by omega
  rw [e2]
  exact evBindE (c := 10 * (x :: r).length) (c' := 0) k rfl evPure
/-- a run laid onto the main dict -/
theorem evLoopN {h : Heap} {d : Addr} {toks : Nat} {p : Pos} {all : List DictEntry} {body : Nat → PUnit → Sem (ForInStep PUnit)}
    (hb : ∀ (i : Nat) (e : DictEntry) (es' : List DictEntry), all[i]? = some e → (∀ x ∈ es', x.hash ≠ e.hash) → es'.length < 1000 →
      Ev w (body i PUnit.unit) ⟨setD h d es', gens, drawn, toks, os⟩ p 6 (.yield PUnit.unit) ⟨setD h d (es' ++ [e]), gens, drawn, toks, os⟩ p) :
    ∀ (ps : List DictEntry) (i : Nat) (es : List DictEntry), all.drop i = ps → (∀ e ∈ ps, ∀ x ∈ es, x.hash ≠ e.hash) → (ps.map (·.hash)).Nodup → es.length + ps.length < 1000 →
      Ev w (forIn (List.range' i ps.length) PUnit.unit body) ⟨setD h d es, gens, drawn, toks, os⟩ p (6 * ps.length) PUnit.unit ⟨setD h d (es ++ ps), gens, drawn, toks, os⟩ p
  | [], i, es, _, _, _, _ => by
    simp only [List.length_nil, List.range'_zero, List.forIn_nil, List.append_nil]
    exact evPure
  | e :: r, i, es, hd, hf, hn, hs => by
    rw [List.length_cons] at hs
    have hi : all[i]? = some e := by
      have := congrArg (fun l => l[0]?) hd
      simpa [List.getElem?_drop] using this
    have hr : all.drop (i + 1) = r := by
      have := congrArg List.tail hd
      simpa [List.tail_drop] using this
    rw [List.length_cons, List.range'_succ, List.forIn_cons]
    refine evBindE (c := 6) (c' := 6 * r.length) (hb i e es hi (hf e (.head _)) (by omega)) (by omega) ?_
    dsimp only
    have hn' := List.nodup_cons.mp (by rw [List.map_cons] at hn; exact hn)
    have k := evLoopN hb r (i + 1) (es ++ [e]) hr (fun e' he' x hx => by
      rcases List.mem_append.mp hx with hx | hx
      · exact hf e' (.tail _ he') x hx
      · rw [List.mem_singleton.mp hx]; exact fun q => hn'.1 (List.mem_map.mpr ⟨e', he', q.symm⟩)) hn'.2 (by simp only [List.length_append, List.length_cons, List.length_nil]; omega)
    rw [List.append_assoc] at k
    exact k
theorem sub_dd : isSubtype (.type "dict") (.type "dict") = (pure true : Sem Bool) := by kernel_rfl
theorem it_d : typeLookup (.type "dict") (Str.ofString "__iter__") = (pure (some (.builtin "dict.__iter__")) : Sem (Option Value)) := by kernel_rfl
theorem evTypeD {h : Heap} {b : Addr} {toks : Nat} {p : Pos} {ps : List DictEntry} (hb' : AtD h b ps) : Ev w (typeOf (.ref b)) ⟨h, gens, drawn, toks, os⟩ p 1 (.type "dict") ⟨h, gens, drawn, toks, os⟩ p :=
  evBindE (c := 1) (c' := 0) (evLoadPart hb') rfl evPure
theorem evEpoch {h : Heap} {b : Addr} {toks : Nat} {p : Pos} {ps : List DictEntry} (hb' : AtD h b ps) : Ev w (dictEpoch b) ⟨h, gens, drawn, toks, os⟩ p 1 ps.length ⟨h, gens, drawn, toks, os⟩ p :=
  evBindE (c := 1) (c' := 0) (evLoadPart hb') rfl evPure
theorem evMerge {h : Heap} {d b : Addr} {toks : Nat} {p : Pos} {es ps : List DictEntry} (ha : 28 ≤ d) (hb : 28 ≤ b) (hne : b ≠ d) (hd : AtD h d es) (hb' : AtD h b ps) (hes : es ≠ [])
    (hk : ∀ e ∈ ps, ∃ t, e.key = .int e.hash t) (hf : ∀ e ∈ ps, ∀ e' ∈ es, e'.hash ≠ e.hash) (hn : (ps.map (·.hash)).Nodup) (hs : es.length + ps.length < 1000) :
    Ev w (mergeMapping d (.ref b) false) ⟨h, gens, drawn, toks, os⟩ p (5 + 6 * ps.length) () ⟨setD h d (es ++ ps), gens, drawn, toks, os⟩ p := by
  unfold mergeMapping
  dsimp only
  refine evBindE (c := 1) (c' := 4 + 6 * ps.length) (a := true) (s₁ := ⟨h, gens, drawn, toks, os⟩) (p₁ := p) ?_ (by omega) ?_
  · unfold isInstance
    refine evBindE (c := 1) (c' := 0) (a := .type "dict") (s₁ := ⟨h, gens, drawn, toks, os⟩) (p₁ := p) (evTypeD hb') rfl ?_
    rw [sub_dd]; exact evPure
  rw [if_pos rfl]
  refine evBindE (c := 1) (c' := 3 + 6 * ps.length) (a := some (.builtin "dict.__iter__")) (s₁ := ⟨h, gens, drawn, toks, os⟩) (p₁ := p) ?_ (by omega) ?_
  · unfold specialOf
    refine evBindE (c := 1) (c' := 0) (a := .type "dict") (s₁ := ⟨h, gens, drawn, toks, os⟩) (p₁ := p) (evTypeD hb') rfl ?_
    rw [it_d]; exact evPure
  refine evBind0 evPure ?_
  have e : (some (Value.builtin "dict.__iter__") == some (Value.builtin "dict.__iter__")) = true := by decide
  rw [e]
  dsimp only
  have e2 : (b == sysModules) = false := by
    rw [beq_eq_false_iff_ne]; intro q
    subst q
    exact absurd hb (by decide)
  rw [e2, if_neg (by decide)]
  refine evBindE (c := 1) (c' := 2 + 6 * ps.length) (evEntries hd) (by omega) ?_
  rw [if_neg (by cases es with | nil => exact absurd rfl hes | cons _ _ => simp)]
  refine evBindE (c := 1) (c' := 1 + 6 * ps.length) (evEntries hb') (by omega) ?_
  refine evBindE (c := 1) (c' := 6 * ps.length) (evEpoch hb') (by omega) ?_
  refine evBindE (c := 6 * ps.length) (c' := 0) (a := PUnit.unit) (s₁ := ⟨setD h d (es ++ ps), gens, drawn, toks, os⟩) (p₁ := p) ?_ rfl evPure
  rw [List.size_toArray, List.range_eq_range']
  have e3 : (⟨h, gens, drawn, toks, os⟩ : Shared) = ⟨setD h d es, gens, drawn, toks, os⟩ := by rw [setD_same hd]
  rw [e3]
  refine evLoopN (all := ps) ?_ ps 0 es rfl hf hn hs
  · intro i e es' hi hfr hl
    have hd' : AtD (setD h d es') d es' := atD_setD hd
    have hbb : AtD (setD h d es') b ps := by rw [AtD, get_setD_ne hne]; exact hb'
    have hb2 : AtD (setD h d (es' ++ [e])) b ps := by rw [AtD, get_setD_ne hne]; exact hb'
    refine evBindE (c := 1) (c' := 5) (evEntries hbb) rfl ?_
    rw [List.getElem?_toArray, hi]
    dsimp only
    obtain ⟨t, ht⟩ := hk e (List.mem_of_getElem? hi)
    refine evBindE (c := 4) (c' := 1) (a := ()) (s₁ := ⟨setD h d (es' ++ [e]), gens, drawn, toks, os⟩) (p₁ := p) ?_ rfl ?_
    · refine evHolding ?_
      rw [if_neg (by decide)]
      have k := evPut (w := w) (gens := gens) (drawn := drawn) (os := os) (toks := toks) (p := p) (v := e.val) (n := e.hash) (t := t) hd' hfr ha hl
      rw [setD_setD] at k
      rw [ht]
      have e3 : (⟨e.hash, .int e.hash t, e.val⟩ : DictEntry) = e := by rw [← ht]
      rw [e3] at k
      exact k
    refine evBindE (c := 1) (c' := 0) (evEpoch hb2) rfl ?_
    rw [if_neg (by simp)]
    exact evPure
end
end Mine
end
/-! # HeadE -/
section
open PySem PySem.W PyProof.Rows
set_option Elab.async false
set_option maxRecDepth 100000
set_option maxHeartbeats 400000000
namespace Mine
/-- keys that rise from lo, below 2 ^ 60 -/
noncomputable def up : Int → List (Int × PySem.Str) → Bool
  | _, [] => true
  | lo, x :: r => decide (lo < x.1) && decide (x.1 < 2 ^ 60) && up x.1 r
theorem up_lt : ∀ {l : List (Int × PySem.Str)} {lo : Int}, up lo l = true → ∀ x ∈ l, lo < x.1
  | y :: r, lo, h, x, hx => by
    simp only [up, Bool.and_eq_true, decide_eq_true_eq] at h
    rcases List.mem_cons.mp hx with rfl | hx
    · exact h.1.1
    · exact Int.lt_trans h.1.1 (up_lt h.2 x hx)
theorem up_fresh : ∀ {l : List (Int × PySem.Str)} {lo : Int} {es : List DictEntry}, 0 ≤ lo → up lo l = true → (∀ e ∈ es, e.hash ≤ lo) → Fresh es l
  | [], _, _, _, _, _ => trivial
  | x :: r, lo, es, h0, h, he => by
    simp only [up, Bool.and_eq_true, decide_eq_true_eq] at h
    refine ⟨⟨by omega, h.1.2, fun e hm q => ?_⟩, up_fresh (lo := x.1) (by omega) h.2 (fun e hm => ?_), fun y hy => ?_⟩
    · have := he e hm; omega
    · have := he e hm; omega
    · have := up_lt h.2 y hy; omega
theorem up_take : ∀ {l : List (Int × PySem.Str)} {lo : Int} (n : Nat), up lo l = true → up lo (l.take n) = true
  | [], _, n, _ => by simp [up]
  | x :: r, lo, 0, _ => rfl
  | x :: r, lo, n + 1, h => by
    simp only [up, Bool.and_eq_true, decide_eq_true_eq] at h
    rw [List.take_succ_cons]
    simp only [up, Bool.and_eq_true, decide_eq_true_eq]
    exact ⟨h.1, up_take n h.2⟩
/-- the last key, or lo -/
noncomputable def lastK : Int → List (Int × PySem.Str) → Int
  | lo, [] => lo
  | _, x :: r => lastK x.1 r
theorem up_last : ∀ {l : List (Int × PySem.Str)} {lo : Int}, up lo l = true → lo ≤ lastK lo l ∧ ∀ x ∈ l, x.1 ≤ lastK lo l
  | [], lo, _ => ⟨Int.le_refl _, fun x hx => nomatch hx⟩
  | y :: r, lo, h => by
    simp only [up, Bool.and_eq_true, decide_eq_true_eq] at h
    have k := up_last (l := r) (lo := y.1) h.2
    refine ⟨by show lo ≤ lastK y.1 r; omega, fun x hx => ?_⟩
    show x.1 ≤ lastK y.1 r
    rcases List.mem_cons.mp hx with rfl | hx
    · exact k.1
    · exact k.2 x hx
theorem up_drop : ∀ {l : List (Int × PySem.Str)} {lo : Int} (n : Nat), up lo l = true → up (lastK lo (l.take n)) (l.drop n) = true
  | [], _, n, _ => by simp [up]
  | x :: r, lo, 0, h => h
  | x :: r, lo, n + 1, h => by
    simp only [up, Bool.and_eq_true, decide_eq_true_eq] at h
    exact up_drop n h.2
theorem ent3_mem {l : List (Int × PySem.Str)} : ∀ {t : Nat} {e : DictEntry}, e ∈ ent3 t l → (∃ t, e.key = .int e.hash t) ∧ ∃ x ∈ l, e.hash = x.1 := by
  induction l with
  | nil =>
    intro t e h
    have h : e ∈ ([] : List DictEntry) := h
    exact absurd h List.not_mem_nil
  | cons x r ih =>
    intro t e h
    rcases List.mem_cons.mp h with rfl | h
    · exact ⟨⟨_, rfl⟩, x, .head _, rfl⟩
    · obtain ⟨a, y, hy, b⟩ := ih h
      exact ⟨a, y, .tail _ hy, b⟩
theorem ent2_mem {l : List (Int × PySem.Str)} : ∀ {t : Nat} {e : DictEntry}, e ∈ ent2 t l → (∃ t, e.key = .int e.hash t) ∧ ∃ x ∈ l, e.hash = x.1 := by
  induction l with
  | nil =>
    intro t e h
    have h : e ∈ ([] : List DictEntry) := h
    exact absurd h List.not_mem_nil
  | cons x r ih =>
    intro t e h
    rcases List.mem_cons.mp h with rfl | h
    · exact ⟨⟨_, rfl⟩, x, .head _, rfl⟩
    · obtain ⟨a, y, hy, b⟩ := ih h
      exact ⟨a, y, .tail _ hy, b⟩
theorem ent3_hash : ∀ {l : List (Int × PySem.Str)} {t : Nat}, (ent3 t l).map (·.hash) = l.map (·.1)
  | [], _ => rfl
  | x :: r, t => by simp only [ent3, List.map_cons, ent3_hash]
theorem ent2_hash : ∀ {l : List (Int × PySem.Str)} {t : Nat}, (ent2 t l).map (·.hash) = l.map (·.1)
  | [], _ => rfl
  | x :: r, t => by simp only [ent2, List.map_cons, ent2_hash]
theorem up_nodup : ∀ {l : List (Int × PySem.Str)} {lo : Int}, up lo l = true → (l.map (·.1)).Nodup
  | [], _, _ => List.nodup_nil
  | x :: r, lo, h => by
    simp only [up, Bool.and_eq_true, decide_eq_true_eq] at h
    rw [List.map_cons, List.nodup_cons]
    refine ⟨fun hm => ?_, up_nodup h.2⟩
    obtain ⟨y, hy, q⟩ := List.mem_map.mp hm
    have := up_lt h.2 y hy
    omega
theorem ent3_len : ∀ (l : List (Int × PySem.Str)) (t : Nat), (ent3 t l).length = l.length
  | [], _ => rfl
  | x :: r, t => by simp only [ent3, List.length_cons, ent3_len r]
theorem ent2_len : ∀ (l : List (Int × PySem.Str)) (t : Nat), (ent2 t l).length = l.length
  | [], _ => rfl
  | x :: r, t => by simp only [ent2, List.length_cons, ent2_len r]
theorem fresh_apart {E : List DictEntry} : ∀ {l : List (Int × PySem.Str)}, Fresh E l → ∀ y ∈ l, ∀ e ∈ E, e.hash ≠ y.1
  | x :: r, h, y, hy, e, he => by
    rcases List.mem_cons.mp hy with rfl | hy
    · exact h.1.2.2 e he
    · exact fresh_apart h.2.1 y hy e he
/-- the heap behind k long runs laid onto d, which held E -/
noncomputable def runH (d : Addr) : Nat → Heap → List DictEntry → Nat → List (Int × PySem.Str) → Heap
  | 0, h, _, _, _ => h
  | k + 1, h, E, t, ps => runH d k (setD (h.push (dObj (ent3 t (ps.take 17)))) d (E ++ ent3 t (ps.take 17))) (E ++ ent3 t (ps.take 17)) (t + 51) (ps.drop 17)
noncomputable def runE : Nat → List DictEntry → Nat → List (Int × PySem.Str) → List DictEntry
  | 0, E, _, _ => E
  | k + 1, E, t, ps => runE k (E ++ ent3 t (ps.take 17)) (t + 51) (ps.drop 17)
section
variable {w : World} {gens : Array GenState} {drawn : Drawn} {os : OsState} {q : Pos}
noncomputable abbrev itemO (q : Pos) (x : Int × PySem.Str) : Option (Sem Value) × Sem Value := (some (kS x.1), vS q x.2)
noncomputable abbrev Bd := Option (Sem Value) × Sem Value → Option Addr × List (Sem Value × Sem Value) → Sem (ForInStep (Option Addr × List (Sem Value × Sem Value)))
/-- pairs that do not fill a run are put by -/
theorem evAcc {body : Bd} (hacc : ∀ x m r, r.length + 1 < 17 → body (itemO q x) (m, r) = pure (.yield (m, r ++ [itemS q x]))) {m : Option Addr} :
    ∀ (ps : List (Int × PySem.Str)) (r : List (Sem Value × Sem Value)) (rest : List (Option (Sem Value) × Sem Value)), r.length + ps.length < 17 →
      forIn (ps.map (itemO q) ++ rest) (m, r) body = forIn rest (m, r ++ ps.map (itemS q)) body
  | [], r, rest, _ => by simp
  | x :: ps, r, rest, h => by
    rw [List.length_cons] at h
    rw [List.map_cons, List.cons_append, List.forIn_cons, hacc x m r (by omega)]
    show forIn (ps.map (itemO q) ++ rest) (m, r ++ [itemS q x]) body = _
    rw [evAcc hacc ps (r ++ [itemS q x]) rest (by simp only [List.length_append, List.length_cons, List.length_nil]; omega)]
    simp
/-- a run that is full: the body's step at its last pair -/
theorem evFull {body : Bd} (hacc : ∀ x m r, r.length + 1 < 17 → body (itemO q x) (m, r) = pure (.yield (m, r ++ [itemS q x])))
    {m m' : Option Addr} {ps : List (Int × PySem.Str)} {x : Int × PySem.Str} {rest : List (Option (Sem Value) × Sem Value)} {s s₁ s₂ : Shared} {p p₁ p₂ : Pos} {c c' n : Nat} {b : Option Addr × List (Sem Value × Sem Value)} (hl : ps.length = 16)
    (hb : Ev w (body (itemO q x) (m, ps.map (itemS q))) s p c (.yield (m', [])) s₁ p₁) (hn : n = c + c') (hk : Ev w (forIn rest (m', []) body) s₁ p₁ c' b s₂ p₂) :
      Ev w (forIn ((ps ++ [x]).map (itemO q) ++ rest) (m, []) body) s p n b s₂ p₂ := by
  rw [List.map_append, List.append_assoc, evAcc hacc ps [] _ (by rw [hl]; decide)]
  rw [List.map_cons, List.map_nil, List.cons_append, List.forIn_cons, List.nil_append]
  exact evBindE hb hn hk
theorem cut17 {ps : List (Int × PySem.Str)} (h : 17 ≤ ps.length) : ∃ a x, a.length = 16 ∧ ps.take 17 = a ++ [x] ∧ ps = (a ++ [x]) ++ ps.drop 17 := by
  have hl : (ps.take 17).length = 17 := List.length_take_of_le h
  have e : ps.take 17 = (ps.take 17).take 16 ++ (ps.take 17).drop 16 := (List.take_append_drop 16 _).symm
  obtain ⟨x, hx⟩ : ∃ x, (ps.take 17).drop 16 = [x] := List.length_eq_one_iff.mp (by rw [List.length_drop, hl])
  rw [hx] at e
  exact ⟨_, x, by rw [List.length_take, hl]; rfl, e, by rw [← e, List.take_append_drop]⟩
theorem runE_at {d : Addr} : ∀ (k : Nat) {h : Heap} {E : List DictEntry} {t : Nat} {ps : List (Int × PySem.Str)}, AtD h d E → AtD (runH d k h E t ps) d (runE k E t ps)
  | 0, _, _, _, _, e => e
  | k + 1, _, _, _, _, e => runE_at k (atD_setD (get_push_ne e))
theorem runE_len : ∀ (k : Nat) {E : List DictEntry} {t : Nat} {ps : List (Int × PySem.Str)}, 17 * k ≤ ps.length → (runE k E t ps).length = E.length + 17 * k
  | 0, _, _, _, _ => rfl
  | k + 1, E, t, ps, h => by
    unfold runE
    rw [runE_len k (by rw [List.length_drop]; exact Nat.le_sub_of_add_le h), List.length_append, ent3_len, List.length_take_of_le (Nat.le_trans (Nat.le_mul_of_pos_right 17 (Nat.succ_pos k)) h), Nat.add_assoc, Nat.add_comm 17]
    rfl
theorem runE_le : ∀ (k : Nat) {E : List DictEntry} {t : Nat} {ps : List (Int × PySem.Str)} {lo : Int}, up lo ps = true → (∀ e ∈ E, e.hash ≤ lo) → ∃ lo', lo ≤ lo' ∧ (∀ e ∈ runE k E t ps, e.hash ≤ lo') ∧ up lo' (ps.drop (17 * k)) = true
  | 0, E, t, ps, lo, hu, he => ⟨lo, Int.le_refl _, he, by rw [Nat.mul_zero, List.drop_zero]; exact hu⟩
  | k + 1, E, t, ps, lo, hu, he => by
    have ht := up_take 17 hu
    have hlast := up_last ht
    obtain ⟨lo', a, b, c⟩ := runE_le k (E := E ++ ent3 t (ps.take 17)) (t := t + 51) (up_drop 17 hu) (fun e hm => by
        rcases List.mem_append.mp hm with hm | hm
        · exact Int.le_trans (he e hm) hlast.1
        · obtain ⟨_, x, hx, q⟩ := ent3_mem hm
          rw [q]; exact hlast.2 x hx)
    rw [List.drop_drop] at c
    have e2 : 17 + 17 * k = 17 * (k + 1) := Nat.add_comm _ _
    rw [e2] at c
    exact ⟨lo', Int.le_trans hlast.1 a, b, c⟩
theorem evRest {body : Bd} (hacc : ∀ x m r, r.length + 1 < 17 → body (itemO q x) (m, r) = pure (.yield (m, r ++ [itemS q x])))
    {d : Addr} (hF : ∀ (ps : List (Int × PySem.Str)) (x : Int × PySem.Str) (h : Heap) (E : List DictEntry) (t : Nat) (p : Pos), ps.length = 16 → AtD h d E → E ≠ [] → Fresh [] (ps ++ [x]) → Fresh E (ps ++ [x]) → ((ps ++ [x]).map (·.1)).Nodup → E.length + 17 < 1000 → 28 ≤ h.objs.size →
      Ev w (body (itemO q x) (some d, ps.map (itemS q))) ⟨h, gens, drawn, t, os⟩ p 330 (.yield (some d, [])) ⟨setD (h.push (dObj (ent3 t (ps ++ [x])))) d (E ++ ent3 t (ps ++ [x])), gens, drawn, t + 51, os⟩ q) :
    ∀ (k : Nat) (ps : List (Int × PySem.Str)) (h : Heap) (E : List DictEntry) (t : Nat) (lo : Int), 17 * k ≤ ps.length → ps.length < 17 * k + 17 → AtD h d E → E ≠ [] → (∀ e ∈ E, e.hash ≤ lo) → 0 ≤ lo → up lo ps = true → E.length + ps.length < 900 → 28 ≤ h.objs.size →
      Ev w (forIn (ps.map (itemO q)) (some d, []) body) ⟨h, gens, drawn, t, os⟩ q (330 * k) (some d, (ps.drop (17 * k)).map (itemS q)) ⟨runH d k h E t ps, gens, drawn, t + 51 * k, os⟩ q
  | 0, ps, h, E, t, lo, h1, h2, hd, hE, he, h0, hu, hs, hz => by
    have := evAcc hacc (m := some d) ps [] [] (by simp only [List.length_nil]; omega)
    rw [List.append_nil] at this
    rw [this, List.forIn_nil, Nat.mul_zero, List.drop_zero, List.nil_append]
    exact evPure
  | k + 1, ps, h, E, t, lo, h1, h2, hd, hE, he, h0, hu, hs, hz => by
    have h17 : 17 ≤ ps.length := Nat.le_trans (Nat.le_mul_of_pos_right 17 (Nat.succ_pos k)) h1
    obtain ⟨a, x, ha, et, ep⟩ := cut17 (ps := ps) h17
    have hld : (ps.drop 17).length = ps.length - 17 := by rw [List.length_drop]
    have ht := up_take 17 hu
    have hlast := up_last ht
    have hl : (ps.take 17).length = 17 := List.length_take_of_le h17
    have k' := evRest hacc hF k (ps.drop 17) (setD (h.push (dObj (ent3 t (ps.take 17)))) d (E ++ ent3 t (ps.take 17))) (E ++ ent3 t (ps.take 17)) (t + 51) (lastK lo (ps.take 17)) (hld ▸ Nat.le_sub_of_add_le h1) (hld ▸ Nat.sub_lt_right_of_lt_add h17 h2)
      (atD_setD (get_push_ne hd)) (fun q => hE (List.append_eq_nil_iff.mp q).1) (fun e hm => by
        rcases List.mem_append.mp hm with hm | hm
        · exact Int.le_trans (he e hm) hlast.1
        · obtain ⟨_, x, hx, q⟩ := ent3_mem hm
          rw [q]; exact hlast.2 x hx) (Int.le_trans h0 hlast.1) (up_drop 17 hu) (by rw [List.length_append, ent3_len, hl, hld, Nat.add_assoc, Nat.add_sub_cancel' h17]; exact hs)
      (by show 28 ≤ ((h.objs.push _).modify _ _).size; rw [Array.size_modify, Array.size_push]; exact Nat.le_succ_of_le hz)
    rw [List.drop_drop] at k'
    have e2 : 17 + 17 * k = 17 * (k + 1) := Nat.add_comm _ _
    have e3 : t + 51 + 51 * k = t + 51 * (k + 1) := by rw [Nat.add_assoc, Nat.add_comm 51]; rfl
    rw [e2, e3] at k'
    have f0 : Fresh [] (a ++ [x]) := et ▸ up_fresh h0 ht (fun _ h => nomatch h)
    have f1 : Fresh E (a ++ [x]) := et ▸ up_fresh h0 ht he
    have f2 : ((a ++ [x]).map (·.1)).Nodup := et ▸ up_nodup ht
    have hb := hF a x h E t q ha hd hE f0 f1 f2 (Nat.lt_of_le_of_lt (Nat.add_le_add_left h17 _) (Nat.lt_trans hs (by decide))) hz
    rw [← et] at hb
    have e1 : ps.map (itemO q) = (a ++ [x]).map (itemO q) ++ (ps.drop 17).map (itemO q) := by rw [← List.map_append, ← ep]
    rw [e1]
    exact evFull hacc ha hb (Nat.add_comm _ _) k'
theorem evDisp {ps : List (Int × PySem.Str)} {h : Heap} {t : Nat} {p : Pos} {k r : Nat} (hl : ps.length = 17 + 17 * k + (r + 1)) (hr : r + 1 ≤ 15) (hu : up 0 ps = true) (hs : ps.length < 900) (hz : 28 ≤ h.objs.size) :
    Ev w (dictDisplay (ps.map (itemO q))) ⟨h, gens, drawn, t, os⟩ p (223 + 330 * k + (6 + 19 * (r + 1))) (.ref h.objs.size)
      ⟨setD ((runH h.objs.size k (h.push (dObj (ent3 t (ps.take 17)))) (ent3 t (ps.take 17)) (t + 51) (ps.drop 17)).push (dObj (ent2 (t + 51 + 51 * k) ((ps.drop 17).drop (17 * k))))) h.objs.size
          (runE k (ent3 t (ps.take 17)) (t + 51) (ps.drop 17) ++ ent2 (t + 51 + 51 * k) ((ps.drop 17).drop (17 * k))), gens, drawn, t + 51 + 51 * k + 3 * (r + 1), os⟩ q := by
  unfold dictDisplay
  dsimp only
  have h17 : 17 ≤ ps.length := hl ▸ Nat.le_trans (Nat.le_add_right 17 (17 * k)) (Nat.le_add_right _ _)
  have hA : (ps.drop 17).length = 17 * k + (r + 1) := by rw [List.length_drop, hl, Nat.add_assoc, Nat.add_sub_cancel_left]
  have hB : ((ps.drop 17).drop (17 * k)).length = r + 1 := by rw [List.length_drop, hA, Nat.add_sub_cancel_left]
  obtain ⟨a, x, ha, et, ep⟩ := cut17 (ps := ps) h17
  have ht := up_take 17 hu
  have hlast := up_last ht
  have f0 : Fresh [] (ps.take 17) := up_fresh (Int.le_refl _) ht (fun _ h => nomatch h)
  have hl17 : (ps.take 17).length = 17 := List.length_take_of_le h17
  have hE : ent3 t (ps.take 17) ≠ [] := fun q => by have := ent3_len (ps.take 17) t; rw [q, hl17] at this; cases this
  have he : ∀ e ∈ ent3 t (ps.take 17), e.hash ≤ lastK 0 (ps.take 17) := fun e hm => by
    obtain ⟨_, x, hx, q⟩ := ent3_mem hm
    rw [q]; exact hlast.2 x hx
  have e1 : ps.map (itemO q) = (a ++ [x]).map (itemO q) ++ (ps.drop 17).map (itemO q) := by rw [← List.map_append, ← ep]
  rw [e1]
  have hat : AtD (h.push (dObj (ent3 t (ps.take 17)))) h.objs.size (ent3 t (ps.take 17)) := atD_push
  refine evBindE (c := 223 + 330 * k) (c' := 6 + 19 * (r + 1)) (a := (some h.objs.size, ((ps.drop 17).drop (17 * k)).map (itemS q))) (s₁ := ⟨runH h.objs.size k (h.push (dObj (ent3 t (ps.take 17)))) (ent3 t (ps.take 17)) (t + 51) (ps.drop 17), gens, drawn, t + 51 + 51 * k, os⟩) (p₁ := q) ?_ rfl ?_
  · refine evFull (c := 223) (c' := 330 * k) (s₁ := ⟨h.push (dObj (ent3 t (ps.take 17))), gens, drawn, t + 51, os⟩) (p₁ := q) (m' := some h.objs.size) ?_ ha ?_ rfl ?_
    · intro x m r hr
      dsimp only
      rw [if_neg (by simp; omega)]
    · dsimp only
      rw [if_pos (by simp [ha])]
      refine evBindE (c := 223) (c' := 0) (a := some h.objs.size) (s₁ := ⟨h.push (dObj (ent3 t (ps.take 17))), gens, drawn, t + 51, os⟩) (p₁ := q) ?_ rfl evPure
      rw [if_neg (by simp)]
      have k1 := evSubLong (w := w) (gens := gens) (drawn := drawn) (os := os) (q := q) (toks := t) (p := p) hz hl17 f0
      rw [et, List.map_append] at k1
      refine evBindE (c := 223) (c' := 0) (a := h.objs.size) ?_ rfl evPure
      rw [et]
      exact k1
    · refine evRest ?_ ?_ k (ps.drop 17) (h.push (dObj (ent3 t (ps.take 17)))) (ent3 t (ps.take 17)) (t + 51) (lastK 0 (ps.take 17)) (hA ▸ Nat.le_add_right _ _) (hA ▸ Nat.add_lt_add_left (Nat.lt_of_le_of_lt hr (by decide)) _) hat hE he hlast.1 (up_drop 17 hu) (by rw [ent3_len, hl17, hA, ← Nat.add_assoc, ← hl]; exact hs) (by show 28 ≤ (h.objs.push _).size; rw [Array.size_push]; exact Nat.le_succ_of_le hz)
      · intro x m r hr
        dsimp only
        rw [if_neg (by simp; omega)]
      · intro ps' x' h' E' t' p' hl' hd' hE' g0 g1 g2 hs' hz'
        dsimp only
        rw [if_pos (by simp [hl'])]
        have hl2 : (ps' ++ [x']).length = 17 := by rw [List.length_append, hl']; rfl
        refine evBindE (c := 330) (c' := 0) (a := some h.objs.size) (s₁ := ⟨setD (h'.push (dObj (ent3 t' (ps' ++ [x'])))) h.objs.size (E' ++ ent3 t' (ps' ++ [x'])), gens, drawn, t' + 51, os⟩) (p₁ := q) ?_ rfl evPure
        rw [if_neg (by simp)]
        have k1 := evSubLong (w := w) (gens := gens) (drawn := drawn) (os := os) (q := q) (toks := t') (p := p') hz' hl2 g0
        rw [List.map_append] at k1
        refine evBindE (c := 223) (c' := 107) (a := h'.objs.size) (s₁ := ⟨h'.push (dObj (ent3 t' (ps' ++ [x']))), gens, drawn, t' + 51, os⟩) (p₁ := q) (evHolding k1) rfl ?_
        refine evBindE (c := 107) (c' := 0) (a := ()) (s₁ := ⟨setD (h'.push (dObj (ent3 t' (ps' ++ [x'])))) h.objs.size (E' ++ ent3 t' (ps' ++ [x'])), gens, drawn, t' + 51, os⟩) (p₁ := q) ?_ rfl evPure
        refine evOnRaise (evHolding ?_)
        have hne : h'.objs.size ≠ h.objs.size := fun q => by
          have := lt_of_atD hd'
          rw [q] at this; exact absurd this (Nat.lt_irrefl _)
        have k2 := evMerge (w := w) (gens := gens) (drawn := drawn) (os := os) (toks := t' + 51) (p := q) (d := h.objs.size) (b := h'.objs.size) (h := h'.push (dObj (ent3 t' (ps' ++ [x'])))) (es := E') (ps := ent3 t' (ps' ++ [x'])) hz hz' hne (get_push_ne hd') atD_push hE' (fun e hm => (ent3_mem hm).1)
          (fun e hm e' hm' => by
            obtain ⟨_, y, hy, q⟩ := ent3_mem hm
            rw [q]; exact fresh_apart g1 y hy e' hm') (by rw [ent3_hash]; exact g2) (by rw [ent3_len, hl2]; omega)
        rw [ent3_len, hl2] at k2
        exact k2
  · obtain ⟨y, l, el⟩ : ∃ y l, (ps.drop 17).drop (17 * k) = y :: l := by
      cases q : (ps.drop 17).drop (17 * k) with
      | nil => rw [q] at hB; cases hB
      | cons y l => exact ⟨y, l, rfl⟩
    have ell : (y :: l).length = r + 1 := el ▸ hB
    obtain ⟨lo', b1, b2, b3⟩ := runE_le (E := ent3 t (ps.take 17)) (t := t + 51) k (up_drop 17 hu) he
    have b0 : 0 ≤ lo' := Int.le_trans hlast.1 b1
    have hat2 := runE_at (d := h.objs.size) k (t := t + 51) (ps := ps.drop 17) hat
    have hlen := runE_len k (E := ent3 t (ps.take 17)) (t := t + 51) (ps := ps.drop 17) (hA ▸ Nat.le_add_right _ _)
    rw [ent3_len, hl17] at hlen
    rw [el] at b3 ⊢
    have g0 : Fresh [] (y :: l) := up_fresh b0 b3 (fun _ h => nomatch h)
    have g1 := up_fresh b0 b3 b2
    have hsz : h.objs.size < (runH h.objs.size k (h.push (dObj (ent3 t (ps.take 17)))) (ent3 t (ps.take 17)) (t + 51) (ps.drop 17)).objs.size := lt_of_atD hat2
    have hz2 : 28 ≤ (runH h.objs.size k (h.push (dObj (ent3 t (ps.take 17)))) (ent3 t (ps.take 17)) (t + 51) (ps.drop 17)).objs.size := Nat.le_of_lt (Nat.lt_of_le_of_lt hz hsz)
    generalize runH h.objs.size k (h.push (dObj (ent3 t (ps.take 17)))) (ent3 t (ps.take 17)) (t + 51) (ps.drop 17) = h2 at *
    generalize runE k (ent3 t (ps.take 17)) (t + 51) (ps.drop 17) = E2 at *
    refine evBindE (c := 6 + 19 * (r + 1)) (c' := 0) (a := some h.objs.size) (s₁ := ⟨setD (h2.push (dObj (ent2 (t + 51 + 51 * k) (y :: l)))) h.objs.size (E2 ++ ent2 (t + 51 + 51 * k) (y :: l)), gens, drawn, t + 51 + 51 * k + 3 * (r + 1), os⟩) (p₁ := q) ?_ rfl evPure
    dsimp only
    rw [if_neg (by simp)]
    have k1 := evSubShort (w := w) (gens := gens) (drawn := drawn) (os := os) (q := q) (toks := t + 51 + 51 * k) (p := q) (x := y) (r := l) hz2 (by rw [ell]; exact hr) g0
    rw [ell] at k1
    refine evBindE (c := 1 + 13 * (r + 1)) (c' := 5 + 6 * (r + 1)) (evHolding k1) (by rw [Nat.add_add_add_comm, ← Nat.add_mul]) ?_
    refine evBindE (c := 5 + 6 * (r + 1)) (c' := 0) (a := ()) (s₁ := ⟨setD (h2.push (dObj (ent2 (t + 51 + 51 * k) (y :: l)))) h.objs.size (E2 ++ ent2 (t + 51 + 51 * k) (y :: l)), gens, drawn, t + 51 + 51 * k + 3 * (r + 1), os⟩) (p₁ := q) ?_ rfl evPure
    refine evOnRaise (evHolding ?_)
    have hne : h2.objs.size ≠ h.objs.size := fun q => by rw [q] at hsz; exact absurd hsz (Nat.lt_irrefl _)
    have k2 := evMerge (w := w) (gens := gens) (drawn := drawn) (os := os) (toks := t + 51 + 51 * k + 3 * (r + 1)) (p := q) (d := h.objs.size) (b := h2.objs.size) (h := h2.push (dObj (ent2 (t + 51 + 51 * k) (y :: l)))) (es := E2) (ps := ent2 (t + 51 + 51 * k) (y :: l)) hz hz2 hne (get_push_ne hat2) atD_push
      (fun q => by rw [q] at hlen; exact absurd hlen (Nat.ne_of_lt (Nat.lt_of_lt_of_le (by decide : 0 < 17) (Nat.le_add_right 17 _)))) (fun e hm => (ent2_mem hm).1)
      (fun e hm e' hm' => by
        obtain ⟨_, y', hy', q⟩ := ent2_mem hm
        rw [q]; exact fresh_apart g1 y' hy' e' hm') (by rw [ent2_hash]; exact up_nodup b3) (by rw [ent2_len, ell, hlen, ← hl]; exact Nat.lt_trans hs (by decide))
    rw [ent2_len, ell] at k2
    exact k2
end
end Mine
end
/-! # HeadG -/
section
open PySem PySem.W PyProof.Rows
set_option Elab.async false
set_option maxRecDepth 100000
set_option maxHeartbeats 400000000
namespace Mine
noncomputable def HL (A : List Obj) (E : List DictEntry) (S : List Obj) (l : Life) : Heap := ⟨(A ++ dObj E :: S).toArray, l⟩
theorem HL_push {A : List Obj} {E : List DictEntry} {S : List Obj} {l : Life} {o : Obj} : (HL A E S l).push o = HL A E (S ++ [o]) l := by
  show Heap.mk ((A ++ dObj E :: S).toArray.push o) l = _
  unfold HL
  congr 1
  simp
theorem HL_set {A : List Obj} {E E' : List DictEntry} {S : List Obj} {l : Life} : setD (HL A E S l) A.length E' = HL A E' S l := by
  show Heap.mk ((A ++ dObj E :: S).toArray.modify A.length _) l = _
  unfold HL
  congr 1
  apply Array.ext_getElem?
  intro i
  simp only [Array.getElem?_modify, List.getElem?_toArray]
  split
  · rename_i q; subst q; simp
  · rename_i q
    by_cases h : i < A.length
    · rw [List.getElem?_append_left h, List.getElem?_append_left h]
    · rw [List.getElem?_append_right (by omega), List.getElem?_append_right (by omega)]
      obtain ⟨j, hj⟩ : ∃ j, i - A.length = j + 1 := ⟨i - A.length - 1, by omega⟩
      rw [hj]; rfl
noncomputable def subsOf : Nat → Nat → List (Int × PySem.Str) → List Obj
  | 0, _, _ => []
  | k + 1, t, ps => dObj (ent3 t (ps.take 17)) :: subsOf k (t + 51) (ps.drop 17)
theorem HL_run {A : List Obj} {l : Life} : ∀ (k : Nat) {E : List DictEntry} {S : List Obj} {t : Nat} {ps : List (Int × PySem.Str)}, runH A.length k (HL A E S l) E t ps = HL A (runE k E t ps) (S ++ subsOf k t ps) l
  | 0, _, _, _, _ => by simp [runH, runE, subsOf]
  | k + 1, E, S, t, ps => by
    unfold runH runE subsOf
    rw [HL_push, HL_set, HL_run k]
    simp
noncomputable def posV : Pos := match stA 17 with
  | .Assign _ (.Dict _ _ p) _ => p
  | _ => q0
noncomputable def posA : Pos := (stA 17).pos
noncomputable def tgts : List PySem.Expr := match stA 17 with
  | .Assign ts _ _ => ts
  | _ => []
noncomputable def restA (v : Value) : Sem Flow := assignStores envT v none ((assignEach tgts envT).map (·.2))
theorem execD : exec (stA 17) envT = ((standAt posA >>= fun _ => standAt posV >>= fun _ => dictDisplay (b3P.map (itemO posV))) >>= restA) := by
  kernel_rfl
theorem upP : up 0 b3P = true := by decide +kernel
theorem lenP : b3P.length = 17 + 17 * 37 + (3 + 1) := by decide +kernel
theorem heapD (P : Params) : (BT.list (tr4 P) 106 ++ dObj (runE 37 (ent3 454 (b3P.take 17)) (454 + 51) (b3P.drop 17) ++ ent2 (454 + 51 + 51 * 37) ((b3P.drop 17).drop (17 * 37))) :: ([] ++ subsOf 37 (454 + 51) (b3P.drop 17) ++ [dObj (ent2 (454 + 51 + 51 * 37) ((b3P.drop 17).drop (17 * 37)))])) = BT.list (trX P) 145 := by kernel_rfl
theorem p16b (w : World) (os : OsState) : segRunT treeTable pw w 28 (some (.ref 6)) 1 8 ⟨trX w.params, 145, {}, #[], {}, 2404, os⟩ ⟨(restA (.ref 106)).wrap doneF deadEnd id id, cT, posV, [topFrame q0]⟩ =
    some (.next, ⟨tr5 w.params, 145, {}, #[], {}, 2405, os⟩, cT, ⟨93, 0, 93, 13⟩) := by kernel_rfl
theorem p16a (w : World) (os : OsState) : Ev w (standAt posA >>= fun _ => standAt posV >>= fun _ => dictDisplay (b3P.map (itemO posV))) ⟨absHeap (tr4 w.params) 106 {}, #[], {}, 454, os⟩ ⟨91, 0, 92, 30⟩ 12517 (.ref 106)
    ⟨absHeap (trX w.params) 145 {}, #[], {}, 2404, os⟩ posV := by
  have hsz : (absHeap (tr4 w.params) 106 {}).objs.size = 106 := absHeap_size _ _ _
  have k := evDisp (w := w) (gens := #[]) (drawn := {}) (os := os) (q := posV) (ps := b3P) (h := absHeap (tr4 w.params) 106 {}) (t := 454) (p := posV) (k := 37) (r := 3) lenP (by decide) upP (by rw [lenP]; decide) (by rw [hsz]; decide)
  have hl : (BT.list (tr4 w.params) 106).length = 106 := by unfold BT.list; rw [List.length_map, List.length_range]
  have e0 : (absHeap (tr4 w.params) 106 {}).push (dObj (ent3 454 (b3P.take 17))) = HL (BT.list (tr4 w.params) 106) (ent3 454 (b3P.take 17)) [] {} := by
    show Heap.mk ((BT.list (tr4 w.params) 106).toArray.push _) _ = _
    unfold HL
    unfold BT.list
    simp
  rw [hsz, e0] at k
  have e1 : ∀ X E t ps, runH 106 37 (HL (BT.list (tr4 w.params) 106) X [] {}) E t ps = runH (BT.list (tr4 w.params) 106).length 37 (HL (BT.list (tr4 w.params) 106) X [] {}) E t ps := by rw [hl]; intros; rfl
  rw [e1, HL_run, HL_push] at k
  have e2 : ∀ X Y E, setD (HL (BT.list (tr4 w.params) 106) X Y {}) 106 E = HL (BT.list (tr4 w.params) 106) E Y {} := fun X Y E => by
    have := HL_set (A := BT.list (tr4 w.params) 106) (E := X) (E' := E) (S := Y) (l := {})
    rw [hl] at this
    exact this
  rw [e2] at k
  have e3 : HL (BT.list (tr4 w.params) 106) (runE 37 (ent3 454 (b3P.take 17)) (454 + 51) (b3P.drop 17) ++ ent2 (454 + 51 + 51 * 37) ((b3P.drop 17).drop (17 * 37))) ([] ++ subsOf 37 (454 + 51) (b3P.drop 17) ++ [dObj (ent2 (454 + 51 + 51 * 37) ((b3P.drop 17).drop (17 * 37)))]) {} = absHeap (trX w.params) 145 {} := by
    unfold HL absHeap
    rw [heapD]
  rw [e3] at k
  exact evBindE (c := 1) (c' := 12516) evStandAt rfl (evBindE (c := 1) (c' := 12515) evStandAt rfl k)
theorem p16 {w : World} {os : OsState} {rest : List Stmt} {N : Nat} {r : Shared} (hk : topRun treeTable pw w 28 (some (.ref 6)) N ⟨absHeap (tr5 w.params) 145 {}, #[], {}, 2405, os⟩ (restOf rest envT cT ⟨93, 0, 93, 13⟩ [topFrame q0]) = some r) :
    topRun treeTable pw w 28 (some (.ref 6)) (12517 + (8 + N)) ⟨absHeap (tr4 w.params) 106 {}, #[], {}, 454, os⟩ (restOf (stA 17 :: rest) envT cT ⟨91, 0, 92, 30⟩ [topFrame q0]) = some r := by
  unfold restOf
  rw [execs_cons_wrap, execD, Sem.bind_eq_wrap', Sem.wrap_wrap]
  refine go_top (p16a w os _ _ _ _ cT (topFrame q0) []) ?_
  obtain ⟨a, ha, hN⟩ := seg_top (res := id) (K' := fun f => match f with | .next => (execs rest envT).wrap doneF (leaveH envT) id id | f => doneF f) (H' := leaveH envT) (B := [topFrame q0]) rfl 8 _ ⟨(restA (.ref 106)).wrap doneF deadEnd id id, cT, posV, [topFrame q0]⟩
    ⟨(restA (.ref 106)).wrap (fun f => match f with | .next => (execs rest envT).wrap doneF (leaveH envT) id id | f => doneF f) (leaveH envT) id id, cT, posV, [topFrame q0]⟩ _ _ _ _ ⟨rfl, rfl, .inl ⟨rfl, rfl, _, rfl, rfl⟩⟩ (segRun_of (p16b w os))
  obtain rfl : a = .next := ha
  exact hN N r hk
theorem slcut (i j : Nat) (h : i ≤ j) : bd.drop i = sl i j ++ bd.drop j := by
  unfold sl
  have := (List.take_append_drop (j - i) (bd.drop i)).symm
  rw [List.drop_drop, show i + (j - i) = j by omega] at this
  exact this
theorem bd16 : bd.drop 16 = stA 17 :: bd.drop 17 := by kernel_rfl
theorem bd34 : bd.drop 34 = [] := by kernel_rfl
noncomputable def topM : Nat := 12 + (1 + (324 + (999 + (30 + (12517 + (8 + (296 + (727 + (263 + 2)))))))))
theorem runTop (w : World) (os : OsState) : topRun treeTable pw w 28 (some (.ref 6)) topM ⟨absHeap (tr0 w.params) 28 {}, #[], {}, 276, os⟩ (topStub pw) = some ⟨absHeap (tr8 w.params) 351 {}, #[], {}, 2745, os⟩ := by
  unfold topM
  refine go_top (pPre w os) ?_
  refine piece_block (pBlock w os) ?_
  have e0 : bd = bd.drop 0 := rfl
  rw [show restOf (behindTheImports pw) envT (Code.body bd envT) q0 [topFrame q0] = restOf (bd.drop 0) envT cT q0 [topFrame q0] from rfl]
  rw [slcut 0 14 (by decide)]
  refine piece_app (segRun_of (p13 w os)) ?_
  rw [slcut 14 15 (by decide)]
  refine piece_app (segRun_of (p14 w os)) ?_
  rw [slcut 15 16 (by decide)]
  refine piece_app (segRun_of (p15 w os)) ?_
  rw [bd16]
  refine p16 ?_
  rw [slcut 17 23 (by decide)]
  refine piece_app (segRun_of (p22 w os)) ?_
  rw [slcut 23 24 (by decide)]
  refine piece_app (segRun_of (p23 w os)) ?_
  rw [slcut 24 34 (by decide)]
  refine piece_app (segRun_of (p33 w os)) ?_
  rw [bd34]
  exact piece_nil (pFin w os)
end Mine
end
/-! # HeadL -/
section
open PySem PySem.W PyProof.Rows
set_option Elab.async false
set_option maxRecDepth 100000
set_option maxHeartbeats 400000000
namespace Mine
noncomputable def qV : Program := view PySem.Challenge.pw_to0087_01 [0,1,3,4,5,7,8,9,10,11,12,13,15,16,18,20,21,22,24,26,27,28,29,30,31,32,33,34]
noncomputable def looseL : List PySem.Str := [PySem.Str.ofString "b1_set", PySem.Str.ofString "b3_exceptions", PySem.Str.ofString "tspecials", PySem.Str.ofString "_name_disallowed_re", PySem.Str.ofString "_value_disallowed_re", PySem.Str.ofString "_formatparam"]
theorem hp8_eq (P : Params) : absHeap (tr8 P) 351 {} = hp8 P := by
  have h : BT.list (tr8 P) 351 = (hp8 P).objs.toList := by kernel_rfl
  unfold absHeap
  rw [h]
  rfl
theorem hp0_eq (P : Params) : absHeap (tr0 P) 28 {} = hp0 P := by
  have h : BT.list (tr0 P) 28 = (hp0 P).objs.toList := by kernel_rfl
  unfold absHeap
  rw [h]
  rfl
theorem lkSize (w : World) : ((hp0 w.params).isNs mainGlobals && (#[] : Array GenState).size == 0, (hp0 w.params).objs.size, (hp0 w.params).nsMap mainGlobals "__annotations__") = (true, 28, some (.ref 6)) := by kernel_rfl
theorem lk1 (w : World) (os : OsState) : (staticsOk [PySem.Str.ofString "_sre"] (hp0 w.params) (hp8 w.params) && namesBound pw (hp8 w.params) && gensDone ⟨hp8 w.params, #[], {}, 2745, os⟩ && laidKept (hp0 w.params) (hp8 w.params)) = true := by kernel_rfl
theorem lq0 (w : World) : (fun (os : OsState) => PySem.W.Fast.tw5160383126252970620 ((PySem.W.Fast.tw3399658132070893891 qV).map (·.name)) (PySem.W.Fast.tw5991557255702980513 qV) [] ⟨hp8 w.params, #[], {}, 2745, os⟩) = fun _ => expectedOf qV := by kernel_rfl
theorem lk2c0 (w : World) (os : OsState) : seen ((recsOf qV).map (·.name)) (ownsOf qV) [] ⟨hp8 w.params, #[], {}, 2745, os⟩ = expectedOf qV := by
  have h := congrFun (lq0 w) os
  rw [← PySem.W.Fast.te5160383126252970620, ← PySem.W.Fast.te3399658132070893891, ← PySem.W.Fast.te5991557255702980513] at h
  exact h
theorem lq1 (w : World) : (fun (os : OsState) => (hp8 w.params).bltView) = fun _ => bltViewBooted := by kernel_rfl
theorem lk2c1 (w : World) (os : OsState) : (hp8 w.params).bltView = bltViewBooted := by
  have h := congrFun (lq1 w) os
  exact h
theorem lqA (w : World) : PySem.W.Fast.tw10880121769531294198 (hp8 w.params) (PySem.W.Fast.tw821141287760084731 qV looseL) ((PySem.W.Fast.tw3399658132070893891 qV).map (·.name)) ((PySem.W.Fast.tw7409074990110511671 qV).map (·.1)) ((PySem.W.Fast.tw13664370479719496447 qV (PySem.W.Fast.tw821141287760084731 qV looseL)).map (·.name)) = true := by kernel_rfl
theorem lqB (w : World) : PySem.W.Fast.tw14722251495701143533 (hp8 w.params) [PySem.Str.ofString "_sre"] = true := by kernel_rfl
theorem lqC (w : World) : (hp8 w.params).isNs mainGlobals = true := by kernel_rfl
theorem lqD (w : World) : (hp8 w.params).isNs builtinsNs = true := by
  have h : (hp8 w.params).get? builtinsNs = some (o0v0 w.params) := by kernel_rfl
  unfold Heap.isNs
  rw [h]
  unfold o0v0
  dsimp only
  rw [List.all_toArray]
  kernel_rfl
theorem lqE (w : World) : PySem.W.Fast.tw10994771534591457954 qV (hp8 w.params) = true := by kernel_rfl
theorem lqF (w : World) : (fun (os : OsState) => (xlAt qV [] ⟨hp8 w.params, #[], {}, 2745, os⟩ && recOk [] ⟨hp8 w.params, #[], {}, 2745, os⟩)) = fun _ => true := by kernel_rfl
theorem lk2c2 (w : World) (os : OsState) : ((hp8 w.params).keysOk (looseW qV looseL) ((recsOf qV).map (·.name)) ((litsOf qV).map (·.1)) ((clssOf qV (looseW qV looseL)).map (·.name)) && (hp8 w.params).accountedOkI [PySem.Str.ofString "_sre"] && (hp8 w.params).isNs mainGlobals && (hp8 w.params).isNs builtinsNs && tablesOk qV (hp8 w.params) && (xlAt qV [] ⟨hp8 w.params, #[], {}, 2745, os⟩ && recOk [] ⟨hp8 w.params, #[], {}, 2745, os⟩) && (if true then (#[] : Array GenState).size == 0 else !leftWithCleanup #[])) = true := by
  have a := lqA w
  have b := lqB w
  have e := lqE w
  rw [← PySem.W.Fast.te10880121769531294198, ← PySem.W.Fast.te821141287760084731, ← PySem.W.Fast.te3399658132070893891, ← PySem.W.Fast.te7409074990110511671, ← PySem.W.Fast.te13664370479719496447] at a
  rw [← PySem.W.Fast.te14722251495701143533] at b
  rw [← PySem.W.Fast.te10994771534591457954] at e
  have f := congrFun (lqF w) os
  rw [a, b, e, lqC w, lqD w, f]
  rfl
theorem lq3 (w : World) : (fun (os : OsState) => PySem.W.Fast.tw479339242167458305 qV ⟨hp8 w.params, #[], {}, 2745, os⟩) = fun _ => true := by kernel_rfl
theorem lk2c3 (w : World) (os : OsState) : tabsOk qV ⟨hp8 w.params, #[], {}, 2745, os⟩ = true := by
  have h := congrFun (lq3 w) os
  rw [← PySem.W.Fast.te479339242167458305] at h
  exact h
theorem lq4 (w : World) : (fun (os : OsState) => PySem.W.Fast.tw16090120013241838585 qV (PySem.W.Fast.tw3247288618530077131 qV) ⟨hp8 w.params, #[], {}, 2745, os⟩) = fun _ => pinGoodD (drecsOf qV) := by kernel_rfl
theorem lk2c4 (w : World) (os : OsState) : pinSeenD qV (drecsOf qV) ⟨hp8 w.params, #[], {}, 2745, os⟩ = pinGoodD (drecsOf qV) := by
  have h := congrFun (lq4 w) os
  rw [← PySem.W.Fast.te16090120013241838585, ← PySem.W.Fast.te3247288618530077131] at h
  exact h
theorem lq5 (w : World) : (fun (os : OsState) => PySem.W.Fast.tw2386780881361962483 qV (PySem.W.Fast.tw821141287760084731 qV looseL) ⟨hp8 w.params, #[], {}, 2745, os⟩) = fun _ => plainGoodE qV (looseW qV looseL) := by kernel_rfl
theorem lk2c5 (w : World) (os : OsState) : plainSeenE qV (looseW qV looseL) ⟨hp8 w.params, #[], {}, 2745, os⟩ = plainGoodE qV (looseW qV looseL) := by
  have h := congrFun (lq5 w) os
  rw [← PySem.W.Fast.te2386780881361962483, ← PySem.W.Fast.te821141287760084731] at h
  exact h
theorem lq6 (w : World) : (fun (os : OsState) => PySem.W.Fast.tw11698064438423848299 qV looseL ⟨hp8 w.params, #[], {}, 2745, os⟩) = fun _ => plainGoodD qV looseL := by kernel_rfl
theorem lk2c6 (w : World) (os : OsState) : plainSeenD qV looseL ⟨hp8 w.params, #[], {}, 2745, os⟩ = plainGoodD qV looseL := by
  have h := congrFun (lq6 w) os
  rw [← PySem.W.Fast.te11698064438423848299] at h
  exact h
theorem lq7 (w : World) : (fun (os : OsState) => wideSeen qV ⟨hp8 w.params, #[], {}, 2745, os⟩) = fun _ => wideGood qV := by kernel_rfl
theorem lk2c7 (w : World) (os : OsState) : wideSeen qV ⟨hp8 w.params, #[], {}, 2745, os⟩ = wideGood qV := by
  have h := congrFun (lq7 w) os
  exact h
theorem lq8 (w : World) : (fun (os : OsState) => clsSeenW qV looseL ⟨hp8 w.params, #[], {}, 2745, os⟩) = fun _ => clsGoodW qV looseL := by kernel_rfl
theorem lk2c8 (w : World) (os : OsState) : clsSeenW qV looseL ⟨hp8 w.params, #[], {}, 2745, os⟩ = clsGoodW qV looseL := by
  have h := congrFun (lq8 w) os
  exact h
theorem lk2 (w : World) (os : OsState) : openSeen qV looseL [PySem.Str.ofString "_sre"] (fun s => xlAt qV [] s && recOk [] s) true ⟨hp8 w.params, #[], {}, 2745, os⟩ = openGood qV looseL := 
  looks_pair (lk2c0 w os) (looks_pair (lk2c1 w os) (looks_pair (lk2c2 w os) (looks_pair (lk2c3 w os) (looks_pair (lk2c4 w os) (looks_pair (lk2c5 w os) (looks_pair (lk2c6 w os) (looks_pair (lk2c7 w os) (lk2c8 w os))))))))
theorem pOpen' : ∀ w : World, (fencedOpening treeTable pw w 40000).map (fun s => (s.heap, s.gens, s.drawn, s.toks)) = some (hp0 w.params, #[], {}, 276) := fun w => by rw [← hp0_eq]; exact pOpen w
theorem runTop' (w : World) (os : OsState) : topRun treeTable pw w 28 (some (.ref 6)) topM ⟨hp0 w.params, #[], {}, 276, os⟩ (topStub pw) = some ⟨hp8 w.params, #[], {}, 2745, os⟩ := by rw [← hp0_eq, ← hp8_eq]; exact runTop w os
theorem leftT {α : Type} (Yf : Shared → α) (Ya : World → α) (hY : ∀ w os, Yf ⟨hp8 w.params, #[], {}, 2745, os⟩ = Ya w) : LeftO pw qV looseL (fun s => xlAt qV [] s && recOk [] s) Yf Ya 40000 true :=
  LeftO.of_pieces (H₀ := hp0) (H₁ := hp8) pOpen' lkSize runTop' rfl (fun w => by
    funext os
    exact looks_pair (lk1 w os) (looks_pair (lk2 w os) (hY w os)))
end Mine
end
/-! # Head -/
section
open PySem PySem.W PyProof.Rows
set_option Elab.async false
set_option maxRecDepth 100000
set_option maxHeartbeats 400000000
namespace Mine
theorem well : PySem.Challenge.rw_to0087_01.wellSaid = true := by
  unfold OpenLaw.wellSaid OpenRow.wellSaid OpenRow.partSaid looksOpen
  simp only [Bool.and_eq_true]
  and_intros
  all_goals first
    | ((with_reducible show noRoadLSs _ _ = true); refine (congrFun (congrFun Fast.te8326940854005059898 _) _).trans ?_; decide +kernel)
    | ((with_reducible show namesResolve _ = true); refine (congrFun Fast.te8377067652309620493 _).trans ?_; decide +kernel)
    | ((with_reducible show namesMeet _ _ _ = true); refine (congrFun (congrFun (congrFun Fast.te17119622794617984870 _) _) _).trans ?_; decide +kernel)
    | decide +kernel
/-- a hook that also tells the set of table B.1 -/
noncomputable def hk2 (H : Hook) : Hook where
  α := H.α × Option Obj
  obs := fun s => (H.obs s, s.heap.get? 95)
  val := fun w => (H.val w, some (o95v3 w.params))
  says := fun w h => H.says w h ∧ h.get? 95 = some (o95v3 w.params)
  of := fun w s x => ⟨H.of w s (Prod.mk.inj x).1, (Prod.mk.inj x).2⟩
  keeps := fun w h h' x k => ⟨H.keeps w h h' x.1 k, k _ _ x.2⟩
local macro_rules | `(tactic| o_head $H) => `(tactic| refine holds_open (q := qV) (loose := looseL) (Xt := fun s => xlAt qV [] s && recOk [] s) (XP := XL qV []) (Yf := Hook.obs (hk2 $H)) (Ya := Hook.val (hk2 $H)) (YP := Hook.says (hk2 $H)) (N := 40000) (leftT _ _ (by intro w os; kernel_rfl)) (Hook.of (hk2 $H)) (Hook.keeps (hk2 $H)) (fun s e => xl_of s (Bool.and_eq_true_iff.mp e).1) XL.keeps (by rfl) (by rfl) (by rfl) (fun s e => recFacts_of (Bool.and_eq_true_iff.mp e).2) (by rfl) (row_said well) (by decide +kernel) ⟨rfl, rfl, rfl, rfl, rfl, by decide +kernel⟩ ?hw ?hc)
open_top hd for PySem.Challenge.rw_to0087_01.row
end Mine
end
/-! # Base -/
section
open PySem PySem.W PyProof.Rows PySem.Calls PySem.Spec
set_option Elab.async false
set_option maxRecDepth 100000
set_option maxHeartbeats 400000000
namespace Mine
/-- a call of the def at f, from any frame: every object of before stands, and post tells of the answer and the new ones -/
noncomputable abbrev Cl (w : World) (p : Program) (loose : List PySem.Str) (mean : ExcName → Option Value) (mg mb : PySem.Str → Option Value) (law : OpenLaw) (f : Addr) (room : Nat) (vs : List Value) (pre : Heap → Prop) (post : Heap → Value → Heap → Prop) : Prop :=
  ∀ (dp un : Nat) (gd : Option (List Code)) (cn : PySem.Str) (cs : Scope) (a : Addr) (ccd : Value) (cl : List (PySem.Str × Addr)) (outer : List Env) (A₀ : Around) (base h₀ : Heap) (L : Addr) (m : PySem.Str → Option Value) (s : Shared) (Q E : Value → Shared → Prop),
    Below A₀ base outer h₀ → Fr h₀ L s.heap m → (hd.heap_1 w.params).In h₀ → Top p loose mean mg mb h₀ → cs.kind = .function → dp + room < recursionLimit → un + 8 * room < cLine → pre s.heap →
    (∀ (v : Value) (h' : Heap) (tk' : Nat), InElt s.heap h' → post s.heap v h' → Q v { s with heap := h', toks := tk' }) →
      wpAny (model law.row.prog w) (ktrTop dp un gd cn cs L a ccd cl outer) (call (.ref f) vs) Q E s
section
variable {prog : Program} {w : World} {A₀ A : Around} {s : Shared} {base h₀ : Heap} {outer : List Env} {L : Addr} {m : PySem.Str → Option Value} {env : Env} {K : Frag} {p : Program} {loose : List PySem.Str} {mean : ExcName → Option Value} {mg mb : PySem.Str → Option Value}
  {R : Result → Shared → Prop} {name qual : PySem.Str} {params : Arguments} {body : List Stmt} {scope : Scope} {dV kV doc pm cdv ct oc : Value} {an od : Option Addr} {osl : Array (Option Value)} {f : Addr} {args : Args} {binds : List (PySem.Str × Value)}
/-- what a frame hands back, with all that stood before -/
noncomputable def Back (g : Heap) (R : Result → Shared → Prop) (v : Value) (s' : Shared) : Prop := ∃ L' m' news', Fr g L' s'.heap m' ∧ News g L' s'.heap news' ∧ (InElt g s'.heap → R (.ok (.ret v)) s')
/-- a def without cells, entered over the whole heap -/
theorem enterP (B : Below A₀ base outer h₀) (F : Fr h₀ L s.heap m) (X₀ : K.In h₀) (T : Top p loose mean mg mb h₀) (hA : A.frames = some (env :: outer)) (hf : env.frame = some L) (hke : env.scope.kind = .function)
    (ho : K.lookup f = some ⟨oc, od, .func (fnOf name qual params body scope dV kV doc pm an cdv ct), osl⟩) (hcd : codeIn K cdv qual = true) (hroom : A.depth < recursionLimit)
    (hbind : BindsTo s (fnOf name qual params body scope dV kV doc pm an cdv ct) args binds) (hloc : ∀ y ∈ binds, scope.names.lookup y.1 = some .local)
    (h : ∀ L' h₁, Fr s.heap L' h₁ (fun y => binds.reverse.lookup y) → News s.heap L' h₁ [] → Below A base (env :: outer) s.heap → K.In s.heap → Top p loose mean mg mb s.heap →
      wpAny (model prog w) (A.deeper (envOf qual scope L' f cdv)) (execs body (envOf qual scope L' f cdv))
        (fun fl s' => Back s.heap R (match fl with | .ret v => v | _ => .none) s')
        (fun e s' => wpAny (model prog w) (A.deeper (envOf qual scope L' f cdv)) (leaving (envOf qual scope L' f cdv) e) (fun _ s'' => R (.error e) s'') (fun e' s'' => R (.error e') s'') s')
        { s with heap := h₁, toks := s.toks + binds.length })
    (hco : scope.isCoroutine = false) (hgen : scope.isGenerator = false) (hk : scope.kind = .function)
    (hcell : ∀ x ∈ scope.names, x.2 ≠ .cell) : codeAny (model prog w) A (.call (.ref f) args) R s := by
  obtain ⟨_, BG, st, _⟩ := groundX (R := R) (news := []) B F News.nil hA hf hke
  refine codeAny_call_def (fd := fnX name qual params body scope [] dV kV doc pm an cdv ct) (body := body) (binds := binds) hroom ((X₀.keeps F.keep) _ _ ho) rfl (T.nolimit.keeps F.keep) (codeRec_of (X₀.keeps F.keep) hcd) rfl hbind hcell hloc (fun h₁ hns hk₁ => ?_) hco hgen hk
  refine wpAny_mono (h s.heap.objs.size h₁ ⟨hns, fun b o e => hk₁ b o e, Nat.le_refl _⟩ News.nil BG (X₀.keeps F.keep) (T.keeps F.keep)) (fun fl s' hl => ?_) fun _ _ y => y
  obtain ⟨L', m', news', F', N', k⟩ := hl
  exact k F'.keep
/-- a def with cells -/
theorem enterC (B : Below A₀ base outer h₀) (F : Fr h₀ L s.heap m) (X₀ : K.In h₀) (T : Top p loose mean mg mb h₀) (hA : A.frames = some (env :: outer)) (hf : env.frame = some L) (hke : env.scope.kind = .function)
    (ho : K.lookup f = some ⟨oc, od, .func (fnOf name qual params body scope dV kV doc pm an cdv ct), osl⟩) (hcd : codeIn K cdv qual = true) (hroom : A.depth < recursionLimit)
    (hbind : BindsTo s (fnOf name qual params body scope dV kV doc pm an cdv ct) args binds) (hkind : (binds.all fun y => scope.names.lookup y.1 == some .local || scope.names.lookup y.1 == some .cell) = true)
    (hnd : ((cellsFrom 0 scope.names []).map (·.1)).Nodup)
    (h : ∀ L' h₁ tk cells, Fr s.heap L' h₁ (bindL (envOfC qual scope L' f cdv).kindOf binds fun _ => none) → News s.heap L' h₁ cells →
      CellsAre (bindC (envOfC qual scope L' f cdv).kindOf binds fun _ => none) (cellsFrom (L' + 1) scope.names []) cells → Below A base (env :: outer) s.heap → K.In s.heap → Top p loose mean mg mb s.heap →
      wpAny (model prog w) (A.deeper (envOfC qual scope L' f cdv)) (execs body (envOfC qual scope L' f cdv))
        (fun fl s' => Back s.heap R (match fl with | .ret v => v | _ => .none) s')
        (fun e s' => wpAny (model prog w) (A.deeper (envOfC qual scope L' f cdv)) (leaving (envOfC qual scope L' f cdv) e) (fun _ s'' => R (.error e) s'') (fun e' s'' => R (.error e') s'') s')
        { s with heap := h₁, toks := tk })
    (hco : scope.isCoroutine = false) (hgen : scope.isGenerator = false) (hk : scope.kind = .function) : codeAny (model prog w) A (.call (.ref f) args) R s := by
  obtain ⟨_, BG, st, _⟩ := groundX (R := R) (news := []) B F News.nil hA hf hke
  refine codeAny_call_function hroom ((X₀.keeps F.keep) _ _ ho) rfl hco hgen rfl (codeRec_of (X₀.keeps F.keep) hcd) (hbind _ _ _ _ ?_)
  refine wpAny_newFunctionEnv_cells hk (kindsX hkind _) fun env' he s' x => ?_
  subst he
  refine ⟨(T.nolimit.keeps F.keep).keeps x.toInCall.keep, codeAny_func ?_⟩
  obtain ⟨h₁, tk, rfl, _⟩ := x.done
  have hk₁ := x.toInCall.keep
  obtain ⟨cells, NC, Y⟩ := Cl.news (h₀ := s.heap) (Nat.le_refl _) fun n c hm => ⟨x.cell n c (lookup_of_mem_nodup (cellsFrom_names scope.names 0 (s.heap.objs.size + 1) [] [] rfl ▸ hnd) hm), x.above n c hm⟩
  refine wpAny_mono (h s.heap.objs.size h₁ tk cells ⟨x.toInCall.ns, fun b o e => hk₁ b o e, Nat.le_refl _⟩ NC Y BG (X₀.keeps F.keep) (T.keeps F.keep)) (fun fl s' hl => ?_) fun _ _ y => y
  obtain ⟨L', m', news', F', N', k⟩ := hl
  exact k F'.keep
theorem back_ {g : Heap} {L' : Addr} {m' : PySem.Str → Option Value} {news' : List (Addr × Obj)} {R : Result → Shared → Prop} {v : Value} {s' : Shared} (F' : Fr g L' s'.heap m') (N' : News g L' s'.heap news')
    (k : InElt g s'.heap → R (.ok (.ret v)) s') : Back g R v s' := ⟨L', m', news', F', N', k⟩
end
theorem mkI {x y : Int} {t : Tok} (h : x = y) : ∃ t', Value.int x t = Value.int y t' := ⟨t, by rw [h]⟩
theorem mkS {x y : PySem.Str} {t : Tok} (h : x = y) : ∃ t', Value.str x t = Value.str y t' := ⟨t, by rw [h]⟩
end Mine
end
/-! # Small -/
section
namespace Mine
theorem lt4 {k : Nat} (h : k < 4) : k = 0 ∨ k = 1 ∨ k = 2 ∨ k = 3 := match k, h with
  | 0, _ => .inl rfl
  | 1, _ => .inr (.inl rfl)
  | 2, _ => .inr (.inr (.inl rfl))
  | 3, _ => .inr (.inr (.inr rfl))
theorem lt3 {k : Nat} (h : k < 3) : k = 0 ∨ k = 1 ∨ k = 2 := match k, h with
  | 0, _ => .inl rfl
  | 1, _ => .inr (.inl rfl)
  | 2, _ => .inr (.inr rfl)
theorem or4 {P : Nat → Prop} {x a b c d : Nat} (h : x = a ∨ x = b ∨ x = c ∨ x = d) (ha : P a) (hb : P b) (hc : P c) (hd : P d) : P x := by
  rcases h with rfl | rfl | rfl | rfl
  · exact ha
  · exact hb
  · exact hc
  · exact hd
theorem mem4 {P : Nat → Prop} {x a b c d : Nat} (h : x ∈ [a, b, c, d]) (ha : P a) (hb : P b) (hc : P c) (hd : P d) : P x := by
  simp only [List.mem_cons, List.not_mem_nil, or_false] at h
  exact or4 h ha hb hc hd
theorem z_nat (i : Nat) : (0 + (i : Int)).toNat = i := by rw [Int.zero_add]; rfl
end Mine
end
/-! # Use -/
section
open PySem PySem.W PyProof.Rows
set_option Elab.async false
set_option maxRecDepth 100000
set_option maxHeartbeats 400000000
namespace Mine
section
variable {w : World} {p : Program} {loose : List PySem.Str} {mean : ExcName → Option Value} {mg mb : PySem.Str → Option Value} {law : OpenLaw} {f : Addr} {room : Nat} {vs : List Value} {pre : Heap → Prop} {post : Heap → Value → Heap → Prop}
  {dp un : Nat} {gd : Option (List Code)} {cn : PySem.Str} {cs : Scope} {L a : Addr} {ccd : Value} {cl : List (PySem.Str × Addr)} {outer : List Env} {A₀ : Around} {base h₀ : Heap} {m : PySem.Str → Option Value} {s : Shared} {Q E : Value → Shared → Prop} {news : List (Addr × Obj)}
/-- a call by its contract, the caller's ledger carried along -/
theorem Cl.use (C : Cl w p loose mean mg mb law f room vs pre post) (B : Below A₀ base outer h₀) (F : Fr h₀ L s.heap m) (N : News h₀ L s.heap news) (X : (hd.heap_1 w.params).In h₀) (T : Top p loose mean mg mb h₀) (hk : cs.kind = .function)
    (hd : dp + room < recursionLimit) (hu : un + 8 * room < cLine) (hpre : pre s.heap)
    (h : ∀ (v : Value) (h' : Heap) (tk' : Nat), InElt s.heap h' → Fr h₀ L h' m → News h₀ L h' news → post s.heap v h' → Q v { s with heap := h', toks := tk' }) :
    wpAny (model law.row.prog w) (ktrTop dp un gd cn cs L a ccd cl outer) (call (.ref f) vs) Q E s :=
  C dp un gd cn cs a ccd cl outer A₀ base h₀ L m s Q E B F X T hk hd hu hpre fun v h' tk' I hp => h v h' tk' I (F.keeps I) (N.grown I) hp
theorem news_add {h h' : Heap} {b : Addr} {o : Obj} (N : News h₀ L h' news) (e : h'.get? b = some o) (hn : h.get? b = none) (F : Fr h₀ L h m) : News h₀ L h' ((b, o) :: news) := fun q hq => by
  rcases List.mem_cons.mp hq with rfl | hq
  · refine ⟨e, fun eL => ?_, ?_⟩
    · obtain ⟨o', _, _, eo, _⟩ := F.ns
      dsimp only at eL
      rw [eL] at hn; rw [hn] at eo; cases eo
    · cases e0 : h₀.get? b with
      | none => rfl
      | some o' => rw [F.keep _ _ e0] at hn; cases hn
  · exact N q hq
end
theorem allLt_get {D : Addr} : ∀ {l : List (Addr × Obj)} {a : Addr} {o : Obj}, AllLt D l → (a, o) ∈ l → @LT.lt Nat _ a D
  | [], _, _, _, h => nomatch h
  | _ :: _, a, o, x, h => by
    rcases List.mem_cons.mp h with e | h
    · have := x.1; rw [← e] at this; exact this
    · exact allLt_get x.2 h
theorem off1_get {D : Addr} : ∀ {l : List (Addr × Obj)} {a : Addr} {o : Obj}, LCg.Off1 D l → (a, o) ∈ l → @Ne Nat a D
  | [], _, _, _, h => nomatch h
  | _ :: _, a, o, x, h => by
    rcases List.mem_cons.mp h with e | h
    · have := x.1; rw [← e] at this; exact this
    · exact off1_get x.2 h
theorem lt_1 (n : Nat) : n < n + 1 := Nat.lt_succ_self n
theorem lt_2 (n : Nat) : n < n + 1 + 1 := Nat.lt_succ_of_lt (lt_1 n)
theorem lt_3 (n : Nat) : n < n + 1 + 1 + 1 := Nat.lt_succ_of_lt (lt_2 n)
theorem lt_4 (n : Nat) : n < n + 1 + 1 + 1 + 1 := Nat.lt_succ_of_lt (lt_3 n)
end Mine
end
/-! # Mut -/
section
open PySem PySem.W PyProof.Rows PySem.Calls PySem.Spec
set_option Elab.async false
set_option maxRecDepth 100000
set_option maxHeartbeats 400000000
namespace Mine
/-- what was kept but for some objects -/
noncomputable def KeepBut (l : List Addr) (h h' : Heap) : Prop := ∀ b o, b ∉ l → h.get? b = some o → h'.get? b = some o
/-- a call that may change the objects of a written ledger -/
noncomputable abbrev Cm (w : World) (p : Program) (loose : List PySem.Str) (mean : ExcName → Option Value) (mg mb : PySem.Str → Option Value) (law : OpenLaw) (f : Addr) (room : Nat) (vs : List Value) (led : List (Addr × Obj)) (post : Heap → Value → Heap → Prop) : Prop :=
  ∀ (dp un : Nat) (gd : Option (List Code)) (cn : PySem.Str) (cs : Scope) (a : Addr) (ccd : Value) (cl : List (PySem.Str × Addr)) (outer : List Env) (A₀ : Around) (base h₀ : Heap) (L : Addr) (m : PySem.Str → Option Value) (s : Shared) (Q E : Value → Shared → Prop),
    Below A₀ base outer h₀ → Fr h₀ L s.heap m → (hd.heap_1 w.params).In h₀ → News h₀ L s.heap led → Top p loose mean mg mb h₀ → cs.kind = .function → dp + room < recursionLimit → un + 8 * room < cLine →
    (∀ (v : Value) (h' : Heap) (tk' : Nat), KeepBut (led.map (·.1)) s.heap h' → post s.heap v h' → Q v { s with heap := h', toks := tk' }) →
      wpAny (model law.row.prog w) (ktrTop dp un gd cn cs L a ccd cl outer) (call (.ref f) vs) Q E s
section
variable {prog : Program} {w : World} {A₀ A : Around} {s : Shared} {base h₀ : Heap} {outer : List Env} {L : Addr} {m : PySem.Str → Option Value} {env : Env} {K : Frag} {p : Program} {loose : List PySem.Str} {mean : ExcName → Option Value} {mg mb : PySem.Str → Option Value} {news : List (Addr × Obj)}
  {R : Result → Shared → Prop} {name qual : PySem.Str} {params : Arguments} {body : List Stmt} {scope : Scope} {dV kV doc pm cdv ct oc : Value} {an od : Option Addr} {osl : Array (Option Value)} {f : Addr} {args : Args} {binds : List (PySem.Str × Value)}
noncomputable def BackM (s₀ : Heap) (l : List Addr) (R : Result → Shared → Prop) (v : Value) (s' : Shared) : Prop := ∃ g L' m' news', Fr g L' s'.heap m' ∧ News g L' s'.heap news' ∧ GSub s₀ g l ∧ (KeepBut l s₀ s'.heap → R (.ok (.ret v)) s')
theorem enterM (B : Below A₀ base outer h₀) (F : Fr h₀ L s.heap m) (X₀ : K.In h₀) (N : News h₀ L s.heap news) (T : Top p loose mean mg mb h₀) (hA : A.frames = some (env :: outer)) (hf : env.frame = some L) (hke : env.scope.kind = .function)
    (ho : K.lookup f = some ⟨oc, od, .func (fnOf name qual params body scope dV kV doc pm an cdv ct), osl⟩) (hcd : codeIn K cdv qual = true) (hroom : A.depth < recursionLimit)
    (hbind : BindsTo s (fnOf name qual params body scope dV kV doc pm an cdv ct) args binds) (hloc : ∀ y ∈ binds, scope.names.lookup y.1 = some .local)
    (h : ∀ g L' h₁, Fr g L' h₁ (fun y => binds.reverse.lookup y) → News g L' h₁ news → Below A base (env :: outer) g → K.In g → Top p loose mean mg mb g → GSub s.heap g (news.map (·.1)) →
      wpAny (model prog w) (A.deeper (envOf qual scope L' f cdv)) (execs body (envOf qual scope L' f cdv))
        (fun fl s' => BackM s.heap (news.map (·.1)) R (match fl with | .ret v => v | _ => .none) s')
        (fun e s' => wpAny (model prog w) (A.deeper (envOf qual scope L' f cdv)) (leaving (envOf qual scope L' f cdv) e) (fun _ s'' => R (.error e) s'') (fun e' s'' => R (.error e') s'') s')
        { s with heap := h₁, toks := s.toks + binds.length })
    (hco : scope.isCoroutine = false) (hgen : scope.isGenerator = false) (hk : scope.kind = .function)
    (hcell : ∀ x ∈ scope.names, x.2 ≠ .cell) : codeAny (model prog w) A (.call (.ref f) args) R s := by
  obtain ⟨FG, BG, st, lv⟩ := groundX (R := R) B F N hA hf hke
  refine codeAny_call_def (fd := fnX name qual params body scope [] dV kV doc pm an cdv ct) (body := body) (binds := binds) hroom ((X₀.keeps F.keep) _ _ ho) rfl (T.nolimit.keeps F.keep) (codeRec_of (X₀.keeps F.keep) hcd) rfl hbind hcell hloc (fun h₁ hns hk₁ => ?_) hco hgen hk
  refine wpAny_mono (h _ s.heap.objs.size h₁ ⟨hns, fun b o e => hk₁ b o (of_hideAll _ e), Nat.le_of_eq (hideAll_size _ _)⟩
    (fun p hp => ⟨hk₁ _ _ (N p hp).1, Nat.ne_of_lt (Heap.lt_size (N p hp).1), hideAll_none _ (List.mem_map_of_mem hp)⟩) BG (X₀.keeps st) (T.keeps st) (fun b o e n => hideAll_get _ e n)) (fun fl s' hl => ?_) fun _ _ y => y
  obtain ⟨g, L', m', news', F', N', G, k⟩ := hl
  exact k fun b o hb e => F'.keep b o (G b o e hb)
theorem wp_of_peekP {α : Type} {K : Frag} {M : Model} {A : Around} {E : Value → Shared → Prop} {Q : α → Shared → Prop} {s : Shared} {o : Obj} (X : K.In s.heap) :
    ∀ (t : Sem α) (g : Addr → Sem α), peekA K ⟨M.prog, M.w.params⟩ t = some (o, g) → wpAny M A (g s.heap.objs.size) Q E { s with heap := s.heap.push o } → wpAny M A t Q E s := by
  intro t
  induction t with
  | rule _ k ih => intro g e q Γ p hΓ; exact ih () g e q Γ p hΓ
  | point _ k ih => intro g e q Γ p hΓ; exact ih () g e q Γ p hΓ
  | ask k ih => intro g e q Γ p hΓ; exact ih _ g e q Γ p hΓ
  | load a _ k ih =>
    intro g e q Γ p hΓ
    simp only [peekA] at e
    split at e
    · rename_i ob ho; exact ⟨ob, X _ _ ho, ih ob g e q Γ p hΓ⟩
    · cases e
  | alloc ob k _ =>
    intro g e q
    have e : some (ob, k) = some (o, g) := e
    obtain ⟨rfl, rfl⟩ := Prod.mk.inj (Option.some.inj e)
    show wpAny M A (alloc ob >>= k) Q E s
    exact wpAny_bind (wpAny_alloc q)
  | _ => intro g e; cases e
/-- a def with a dict for the rest of its keywords, called with none -/
theorem enterMore {nm : PySem.Str} {front : List (PySem.Str × Value)} {g₁ : Addr → Sem (List (PySem.Str × Value))} (B : Below A₀ base outer h₀) (F : Fr h₀ L s.heap m) (X₀ : K.In h₀) (N : News h₀ L s.heap news) (T : Top p loose mean mg mb h₀) (hA : A.frames = some (env :: outer)) (hf : env.frame = some L) (hke : env.scope.kind = .function)
    (ho : K.lookup f = some ⟨oc, od, .func (fnOf name qual params body scope dV kV doc pm an cdv ct), osl⟩) (hcd : codeIn K cdv qual = true) (hroom : A.depth < recursionLimit) (hnm : params.kwarg.map (·.arg) = some nm)
    (_hfr : peek K ⟨prog, w.params⟩ (bindArgs (fnCut (fnOf name qual params body scope dV kV doc pm an cdv ct)) (argsCut params args)) = some front)
    (hp : peekA K ⟨prog, w.params⟩ (bindArgs (fnOf name qual params body scope dV kV doc pm an cdv ct) args) = some (dictOf [] 0, g₁))
    (hk₁ : ∀ D, g₁ D = pure (front ++ [(nm, Value.ref D)]))
    (hloc : ∀ D, ∀ y ∈ front ++ [(nm, Value.ref D)], scope.names.lookup y.1 = some .local)
    (h : ∀ D o g L' h₁ tk, @LE.le Nat _ s.heap.objs.size D → (∀ p ∈ news, p.1 < D) → (D == sysModules) = false → o.IsDictOf (PySem.strKind prog w) [] → PyProof.V.FlatPairs PyData.str [] [] → Fr g L' h₁ (fun y => (front ++ [(nm, Value.ref D)]).reverse.lookup y) → News g L' h₁ ((D, o) :: news) → Below A base (env :: outer) g → K.In g → Top p loose mean mg mb g → GSub s.heap g (news.map (·.1)) →
      wpAny (model prog w) (A.deeper (envOf qual scope L' f cdv)) (execs body (envOf qual scope L' f cdv))
        (fun fl s' => BackM s.heap (news.map (·.1)) R (match fl with | .ret v => v | _ => .none) s')
        (fun e s' => wpAny (model prog w) (A.deeper (envOf qual scope L' f cdv)) (leaving (envOf qual scope L' f cdv) e) (fun _ s'' => R (.error e) s'') (fun e' s'' => R (.error e') s'') s')
        { s with heap := h₁, toks := tk })
    (hco : scope.isCoroutine = false) (hgen : scope.isGenerator = false) (hk : scope.kind = .function)
    (hcell : ∀ x ∈ scope.names, x.2 ≠ .cell) : codeAny (model prog w) A (.call (.ref f) args) R s := by
  refine codeAny_call_function (fd := fnOf name qual params body scope dV kV doc pm an cdv ct) (body := body) hroom ((X₀.keeps F.keep) _ _ ho) rfl hco hgen rfl (codeRec_of (X₀.keeps F.keep) hcd) ?_
  refine wp_of_peekP (o := dictOf [] 0) (X₀.keeps F.keep) _ g₁ hp ?_
  rw [hk₁]
  refine wpAny_pure ?_
  have F' : Fr h₀ L (s.heap.push (dictOf [] 0)) m := F.push _
  have N' : News h₀ L (s.heap.push (dictOf [] 0)) ((s.heap.objs.size, dictOf [] 0) :: news) := News.push F N _ rfl
  have lt : ∀ p ∈ news, p.1 < s.heap.objs.size := fun p hp => Heap.lt_size (N p hp).1
  obtain ⟨FG, BG, st, lv⟩ := groundX (R := R) (s := { s with heap := s.heap.push (dictOf [] 0) }) B F' N' hA hf hke
  refine wpAny_newFunctionEnv hcell (hloc _) (fun h₁ hns hsb => ⟨(T.nolimit.keeps F'.keep).fresh _ hsb, codeAny_func ?_⟩) hk
  have hk₁ : ∀ b o, (s.heap.push (dictOf [] 0)).get? b = some o → h₁.get? b = some o := fun b o e => hsb.extBut b o (Nat.ne_of_lt (Heap.lt_size e)) (Heap.get?_push_of_some _ e)
  show wpAny (model prog w) (A.deeper (envOf qual scope (s.heap.push (dictOf [] 0)).objs.size f cdv)) (execs body (envOf qual scope (s.heap.push (dictOf [] 0)).objs.size f cdv)) _ _ _
  refine wpAny_mono (h s.heap.objs.size (dictOf [] 0) _ (s.heap.push (dictOf [] 0)).objs.size h₁ _ (Nat.le_refl _) lt (F.notModules (modules_low T.nolimit)) (kp_isDict (ex := []) s.toks 0 List.nodup_nil) .nil ⟨hns, fun b o e => hk₁ b o (of_hideAll _ e), Nat.le_of_eq (hideAll_size _ _)⟩
    (fun p hp => ⟨hk₁ _ _ (N' p hp).1, Nat.ne_of_lt (Heap.lt_size (N' p hp).1), hideAll_none _ (List.mem_map_of_mem hp)⟩) BG (X₀.keeps st) (T.keeps st) (fun b o e n => hideAll_get _ (Heap.get?_push_of_some _ e) (by
      rw [List.map_cons, List.mem_cons]
      rintro (rfl | q)
      · exact absurd (Heap.lt_size e) (Nat.lt_irrefl _)
      · exact n q))) (fun fl s' hl => ?_) fun _ _ y => y
  obtain ⟨g, L', m', news', F', N', G, k⟩ := hl
  exact k fun b o hb e => F'.keep b o (G b o e hb)
theorem backM_ {s₀ g : Heap} {l : List Addr} {L' : Addr} {m' : PySem.Str → Option Value} {news' : List (Addr × Obj)} {R : Result → Shared → Prop} {v : Value} {s' : Shared} (F' : Fr g L' s'.heap m') (N' : News g L' s'.heap news') (G : GSub s₀ g l)
    (k : KeepBut l s₀ s'.heap → R (.ok (.ret v)) s') : BackM s₀ l R v s' := ⟨g, L', m', news', F', N', G, k⟩
/-- a def with cells, its ledger kept in hand -/
theorem enterMC (B : Below A₀ base outer h₀) (F : Fr h₀ L s.heap m) (X₀ : K.In h₀) (N : News h₀ L s.heap news) (T : Top p loose mean mg mb h₀) (hA : A.frames = some (env :: outer)) (hf : env.frame = some L) (hke : env.scope.kind = .function)
    (ho : K.lookup f = some ⟨oc, od, .func (fnOf name qual params body scope dV kV doc pm an cdv ct), osl⟩) (hcd : codeIn K cdv qual = true) (hroom : A.depth < recursionLimit)
    (hbind : BindsTo s (fnOf name qual params body scope dV kV doc pm an cdv ct) args binds) (hkind : (binds.all fun y => scope.names.lookup y.1 == some .local || scope.names.lookup y.1 == some .cell) = true)
    (hnd : ((cellsFrom 0 scope.names []).map (·.1)).Nodup)
    (h : ∀ g L' h₁ tk cells, Fr g L' h₁ (bindL (envOfC qual scope L' f cdv).kindOf binds fun _ => none) → News g L' h₁ (cells ++ news) →
      CellsAre (bindC (envOfC qual scope L' f cdv).kindOf binds fun _ => none) (cellsFrom (L' + 1) scope.names []) cells → (∀ p ∈ news, p.1 < L') → Below A base (env :: outer) g → K.In g → Top p loose mean mg mb g → GSub s.heap g (news.map (·.1)) →
      wpAny (model prog w) (A.deeper (envOfC qual scope L' f cdv)) (execs body (envOfC qual scope L' f cdv))
        (fun fl s' => BackM s.heap (news.map (·.1)) R (match fl with | .ret v => v | _ => .none) s')
        (fun e s' => wpAny (model prog w) (A.deeper (envOfC qual scope L' f cdv)) (leaving (envOfC qual scope L' f cdv) e) (fun _ s'' => R (.error e) s'') (fun e' s'' => R (.error e') s'') s')
        { s with heap := h₁, toks := tk })
    (hco : scope.isCoroutine = false) (hgen : scope.isGenerator = false) (hk : scope.kind = .function) : codeAny (model prog w) A (.call (.ref f) args) R s := by
  obtain ⟨FG, BG, st, lv⟩ := groundX (R := R) B F N hA hf hke
  refine codeAny_call_function hroom ((X₀.keeps F.keep) _ _ ho) rfl hco hgen rfl (codeRec_of (X₀.keeps F.keep) hcd) (hbind _ _ _ _ ?_)
  refine wpAny_newFunctionEnv_cells hk (kindsX hkind _) fun env' he s' x => ?_
  subst he
  refine ⟨(T.nolimit.keeps F.keep).keeps x.toInCall.keep, codeAny_func ?_⟩
  obtain ⟨h₁, tk, rfl, _⟩ := x.done
  have hk₁ := x.toInCall.keep
  obtain ⟨cells, NC, Y⟩ := Cl.news (h₀ := hideAll s.heap (news.map (·.1))) (Nat.le_of_eq (hideAll_size _ _)) fun n c hm => ⟨x.cell n c (lookup_of_mem_nodup (cellsFrom_names scope.names 0 (s.heap.objs.size + 1) [] [] rfl ▸ hnd) hm), x.above n c hm⟩
  refine wpAny_mono (h _ s.heap.objs.size h₁ tk cells ⟨x.toInCall.ns, fun b o e => hk₁ b o (of_hideAll _ e), Nat.le_of_eq (hideAll_size _ _)⟩
    (fun p hp => by
      rcases List.mem_append.mp hp with hp | hp
      · exact NC p hp
      · exact ⟨hk₁ _ _ (N p hp).1, Nat.ne_of_lt (Heap.lt_size (N p hp).1), hideAll_none _ (List.mem_map_of_mem hp)⟩) Y (fun p hp => Heap.lt_size (N p hp).1) BG (X₀.keeps st) (T.keeps st) (fun b o e n => hideAll_get _ e n)) (fun fl s' hl => ?_) fun _ _ y => y
  obtain ⟨g, L', m', news', F', N', G, k⟩ := hl
  exact k fun b o hb e => F'.keep b o (G b o e hb)
end
inductive Off (l : Addr) : List (Addr × Obj) → Prop
  | nil : Off l []
  | cons {a : Addr} {o : Obj} {r : List (Addr × Obj)} : (@Ne Nat a l) → Off l r → Off l ((a, o) :: r)
inductive Out (l : Addr) (o : Obj) : List (Addr × Obj) → List (Addr × Obj) → Prop
  | here {r : List (Addr × Obj)} : Off l r → Out l o ((l, o) :: r) r
  | skip {a : Addr} {ob : Obj} {r r' : List (Addr × Obj)} : (@Ne Nat a l) → Out l o r r' → Out l o ((a, ob) :: r) ((a, ob) :: r')
theorem Off.mem {l : Addr} {r : List (Addr × Obj)} (h : Off l r) : ∀ p ∈ r, p.1 ≠ l := by
  induction h with
  | nil => intro p hp; cases hp
  | cons n _ ih =>
    intro p hp
    rcases List.mem_cons.mp hp with rfl | hp
    · exact n
    · exact ih p hp
theorem Out.mem {l : Addr} {o : Obj} {r r' : List (Addr × Obj)} (h : Out l o r r') : (l, o) ∈ r ∧ ∀ p ∈ r', p ∈ r ∧ p.1 ≠ l := by
  induction h with
  | here q => exact ⟨List.mem_cons_self .., fun p hp => ⟨List.mem_cons_of_mem _ hp, q.mem p hp⟩⟩
  | skip n _ ih =>
    refine ⟨List.mem_cons_of_mem _ ih.1, fun p hp => ?_⟩
    rcases List.mem_cons.mp hp with rfl | hp
    · exact ⟨List.mem_cons_self .., n⟩
    · exact ⟨List.mem_cons_of_mem _ (ih.2 p hp).1, (ih.2 p hp).2⟩
theorem append_led {prog : Program} {w : World} {A : Around} {E : Value → Shared → Prop} {s : Shared} {h₀ : Heap} {L l : Addr} {m : PySem.Str → Option Value} {news rest : List (Addr × Obj)} {items : Array Value} {n : Nat} {v : Value} {Q : Value → Shared → Prop}
    (F : Fr h₀ L s.heap m) (N : News h₀ L s.heap news) (ho : Out l (W.listOf items n) news rest) (hsz : items.size ≤ sizeLine)
    (h : ∀ h', Fr h₀ L h' m → News h₀ L h' ((l, W.listOf (items.push v) (n + 1)) :: rest) → Q .none { s with heap := h' }) : wpAny (model prog w) A (call (.builtin "list.append") [.ref l, v]) Q E s := by
  obtain ⟨hm, hr⟩ := ho.mem
  have z := N _ hm
  refine append_at (n := n) z.1 (fun h' hs hl => h h' (F.change hs z.2.1 z.2.2) fun p hp => ?_) hsz
  rcases List.mem_cons.mp hp with rfl | hp
  · exact ⟨hl, z.2⟩
  · exact ⟨hs.extBut _ _ (hr p hp).2 (N p (hr p hp).1).1, (N p (hr p hp).1).2⟩
theorem addh_use {w : World} {p : Program} {loose : List PySem.Str} {mean : ExcName → Option Value} {mg mb : PySem.Str → Option Value} {law : OpenLaw} {f : Addr} {room : Nat} {vs : List Value}
  {dp un : Nat} {gd : Option (List Code)} {cn : PySem.Str} {cs : Scope} {L a x d l : Addr} {ccd : Value} {cl : List (PySem.Str × Addr)} {outer : List Env} {A₀ : Around} {base h₀ : Heap} {m : PySem.Str → Option Value} {s : Shared} {Q E : Value → Shared → Prop} {news r : List (Addr × Obj)}
  {items : Array Value} {n : Nat} {oi od : Obj} {PT : Addr → Obj → Prop}
    (C : Cm w p loose mean mg mb law f room vs [(l, W.listOf items n), (x, oi), (d, od)] (fun h v h' => v = .none ∧ ∃ t ot, @LE.le Nat _ h.objs.size t ∧ h'.get? t = some ot ∧ PT t ot ∧ h'.get? l = some (W.listOf (items.push (.ref t)) (n + 1)) ∧ h'.get? x = some oi ∧ h'.get? d = some od))
    (B : Below A₀ base outer h₀) (F : Fr h₀ L s.heap m) (N : News h₀ L s.heap news) (X : (hd.heap_1 w.params).In h₀) (T : Top p loose mean mg mb h₀) (hk : cs.kind = .function)
    (hd : dp + room < recursionLimit) (hu : un + 8 * room < cLine) (hx : (x, oi) ∈ news) (hd' : (d, od) ∈ news) (ho : Out l (W.listOf items n) news r)
    (h : ∀ (t : Addr) (ot : Obj) (h' : Heap) (tk' : Nat), Fr h₀ L h' m → (∀ p ∈ news, p.1 < t) → News h₀ L h' ((t, ot) :: (l, W.listOf (items.push (.ref t)) (n + 1)) :: r) → PT t ot → Q .none { s with heap := h', toks := tk' }) :
    wpAny (model law.row.prog w) (ktrTop dp un gd cn cs L a ccd cl outer) (call (.ref f) vs) Q E s := by
  obtain ⟨hm, hr⟩ := ho.mem
  refine C dp un gd cn cs a ccd cl outer A₀ base h₀ L m s Q E B F X ?_ T hk hd hu fun v h' tk' I hp => ?_
  · intro q hq
    rcases List.mem_cons.mp hq with rfl | hq
    · exact N _ hm
    rcases List.mem_cons.mp hq with rfl | hq
    · exact N _ hx
    rcases List.mem_cons.mp hq with rfl | hq
    · exact N _ hd'
    · cases hq
  · obtain ⟨rfl, t, ot, ht, e1, hT, e2, e3, e4⟩ := hp
    have lt : ∀ p ∈ news, p.1 < t := fun p hp => Nat.lt_of_lt_of_le (Heap.lt_size (N p hp).1) ht
    have kp : ∀ b o, s.heap.get? b = some o → b ≠ l → h'.get? b = some o := fun b o e hb => by
      by_cases bx : b = x
      · subst bx
        have := (N _ hx).1
        rw [this] at e; cases e; exact e3
      by_cases bd : b = d
      · subst bd
        have := (N _ hd').1
        rw [this] at e; cases e; exact e4
      refine I b o (fun hq => ?_) e
      simp only [List.map_cons, List.map_nil, List.mem_cons, List.not_mem_nil, or_false] at hq
      rcases hq with q | q | q
      · exact hb q
      · exact bx q
      · exact bd q
    have hlL := (N _ hm).2.1
    have hl0 := (N _ hm).2.2
    have F' : Fr h₀ L h' m := by
      refine ⟨?_, fun b o e => ?_, F.above⟩
      · exact F.ns.at fun o e => kp _ _ e fun q => hlL q.symm
      · refine kp b o (F.keep b o e) fun q => ?_
        subst q; rw [hl0] at e; cases e
    refine h t ot h' tk' F' lt (fun q hq => ?_) hT
    rcases List.mem_cons.mp hq with rfl | hq
    · refine ⟨e1, fun eL => ?_, ?_⟩
      · have := F.ns.lt
        dsimp only at eL
        subst eL
        exact absurd (Nat.lt_of_lt_of_le this ht) (Nat.lt_irrefl _)
      · cases e0 : h₀.get? t with
        | none => rfl
        | some o' =>
          have := Heap.lt_size (F.keep _ _ e0)
          exact absurd (Nat.lt_of_lt_of_le this ht) (Nat.lt_irrefl _)
    rcases List.mem_cons.mp hq with rfl | hq
    · exact ⟨e2, (N _ hm).2⟩
    · exact ⟨kp _ _ (N q (hr q hq).1).1 (hr q hq).2, (N q (hr q hq).1).2⟩
end Mine
namespace Mine
/-- a call that leaves its ledger as it was -/
theorem Cm.useR {w : World} {p : Program} {loose : List PySem.Str} {mean : ExcName → Option Value} {mg mb : PySem.Str → Option Value} {law : OpenLaw} {f : Addr} {room : Nat} {vs : List Value} {led : List (Addr × Obj)} {post : Heap → Value → Heap → Prop}
  {dp un : Nat} {gd : Option (List Code)} {cn : PySem.Str} {cs : Scope} {L a : Addr} {ccd : Value} {cl : List (PySem.Str × Addr)} {outer : List Env} {A₀ : Around} {base h₀ : Heap} {m : PySem.Str → Option Value} {s : Shared} {Q E : Value → Shared → Prop} {news : List (Addr × Obj)}
    (C : Cm w p loose mean mg mb law f room vs led (fun h v h' => (∀ q ∈ led, h'.get? q.1 = some q.2) ∧ post h v h'))
    (B : Below A₀ base outer h₀) (F : Fr h₀ L s.heap m) (N : News h₀ L s.heap news) (X : (hd.heap_1 w.params).In h₀) (T : Top p loose mean mg mb h₀) (hk : cs.kind = .function)
    (hd : dp + room < recursionLimit) (hu : un + 8 * room < cLine) (hs : ∀ q ∈ led, q ∈ news)
    (h : ∀ (v : Value) (h' : Heap) (tk' : Nat), Fr h₀ L h' m → News h₀ L h' news → post s.heap v h' → Q v { s with heap := h', toks := tk' }) :
    wpAny (model law.row.prog w) (ktrTop dp un gd cn cs L a ccd cl outer) (call (.ref f) vs) Q E s :=
  C dp un gd cn cs a ccd cl outer A₀ base h₀ L m s Q E B F X (fun q hq => N q (hs q hq)) T hk hd hu fun v h' tk' I hp => by
    have I' : InElt s.heap h' := fun b o e => by
      by_cases hb : b ∈ led.map (·.1)
      · obtain ⟨q, hq, rfl⟩ := List.mem_map.mp hb
        have e1 := (N q (hs q hq)).1
        rw [e1] at e; cases e
        exact hp.1 q hq
      · exact I b o hb e
    exact h v h' tk' (F.keeps I') (N.grown I') hp.2
end Mine
end
/-! # Re -/
section
open PySem PySem.W PyProof.Rows PySem.Builtin PySem.Builtin.Re
set_option Elab.async false
set_option maxRecDepth 100000
set_option maxHeartbeats 400000000
namespace Mine
theorem plainAttrs_pat : PlainAttrs "re.Pattern" :=
  ⟨⟨"object.__getattribute__", by rw [typeLookup_type, builtinLookup_eq_fast]; kernel_rfl, by decide +kernel⟩, by rw [typeLookup_type, builtinLookup_eq_fast]; kernel_rfl⟩
theorem owner_pat : Manifest.owners.lookup (String.ofList ['n', 'r', 'e', 't', 't', 'a', 'P', '.', 'e', 'r'].reverse) = some Manifest.sig_re_Pattern := by kernel_rfl
theorem slot_pat_search : Slot "re.Pattern" "search" "re.Pattern.search" :=
  .of (owner := "re.Pattern") (n := "search") (by rw [typeLookup_type, builtinLookup_eq_fast]; kernel_rfl) (by decide +kernel) (by decide +kernel) (by decide +kernel)
    (by first | exact .inl (by decide +kernel) | exact .inr (by decide +kernel)) (by rw [isSubtype_type]; kernel_rfl)
theorem type_pat_search : typeOf (.builtin "re.Pattern.search") = pure (.type "method_descriptor") := by show builtinType _ = _; rw [builtinType_eq_fast]; kernel_rfl
theorem entry_pat_search : entryFor table "re.Pattern.search" = some Builtin.«re.Pattern.search» := entryFor_of_tree (by kernel_rfl)
theorem args_pat_search_2 (a b : Value) : argsOk "re.Pattern.search" ⟨[a, b], []⟩ := by
  unfold argsOk; rw [signature?_of (id := "re.Pattern.search") (n := ['h', 'c', 'r', 'a', 'e', 's']) (o := ['n', 'r', 'e', 't', 't', 'a', 'P', '.', 'e', 'r']) (by kernel_rfl) owner_pat]; kernel_rfl

/-- a search that meets nothing -/
noncomputable def clean (code : Array Nat) (text : Array Nat) : Bool :=
  match ((Sre.forSearch code text 0 0 text.size false).runFor 4).outcome with | some .failed => true | _ => false
section
variable {prog : Program} {w : World} {A : Around} {E : Value → Shared → Prop} {s : Shared}
theorem rules_none {Q : PUnit → Shared → Prop} {f : Nat → Bool} {g : Nat → String} (h : Q ⟨⟩ s) : ∀ l : List Nat,
    wpAny (model prog w) A (forIn l PUnit.unit fun i _ => do
        if f i then rule (g i)
        pure (ForInStep.yield PUnit.unit)) Q E s
  | [] => by
    rw [List.forIn_nil]
    exact wpAny_pure h
  | i :: l => by
    have ih := rules_none (f := f) (g := g) h l
    rw [List.forIn_cons]
    refine wpAny_bind ?_
    split
    · refine wpAny_bind (wpAny_rule ?_)
      exact wpAny_pure ih
    · exact wpAny_pure ih
theorem run_none {Q : Option Sre.M → Shared → Prop} {m : Sre.M} (ho : (m.runFor 4).outcome = some .failed) (h : Q none s) : wpAny (model prog w) A (reRunToEnd m) Q E s := by
  unfold reRunToEnd
  have e : reDrive (2 ^ 64) m = pure (m.runFor 4) := by
    show reDrive ((2 ^ 64 - 1) + 1) m = _
    unfold reDrive
    show (if (m.runFor reTurnSteps).outcome.isSome = true then pure (m.runFor reTurnSteps) else _) = _
    rw [show (m.runFor reTurnSteps).outcome = some .failed from ho]
    rfl
  rw [e]
  refine wpAny_bind (wpAny_pure ?_)
  refine wpAny_bind (rules_none ?_ _)
  rw [ho]
  exact wpAny_pure h
theorem raw_items {c : Addr} {oc : Obj} {xs : Array Value} {n : Nat} {Q : Array Int → Shared → Prop} (ho : s.heap.get? c = some oc) (hd : oc.data = .seq xs n) (h : Q (xs.map reRawOf) s) : wpAny (model prog w) A (reRawItems (.ref c)) Q E s := by
  unfold reRawItems seqItems?
  refine wpAny_bind (wpAny_bind (wpAny_load ho ?_))
  rw [hd]
  exact wpAny_pure (wpAny_pure h)
theorem search_none {a c : Addr} {oa oc : Obj} {x : PySem.Str} {t : Tok} {v0 v1 v3 v4 : Value} {tg tk : Tok} {xs : Array Value} {n : Nat} {Q : Value → Shared → Prop} (ha : s.heap.get? a = some oa) (hcl : oa.cls = .type "re.Pattern") (hda : oa.data = .fields #[v0, v1, .int 0 tg, v3, v4, .ref c, .int 0 tk])
    (hc : s.heap.get? c = some oc) (hdc : oc.data = .seq xs n) (hok : clean ((xs.map reRawOf).map Int.toNat) x.cps = true) (hx : x.cps.size < 1000) (h : Q .none s) : wpAny (model prog w) A (call (.builtin "re.Pattern.search") [.ref a, .str x t]) Q E s := by
  refine wpAny_call_entry slot_pat_search (show s.TypeIs (.ref a) "re.Pattern" from ⟨oa, ha, hcl⟩) entry_pat_search ?_ (args_pat_search_2 _ _)
  show wpAny _ _ (reTarget "re.Pattern.search" "search" ⟨[.ref a, .str x t], []⟩ >>= fun t => reAnswer t (Sre.forSearch t.code t.text t.groups t.pos t.lim false)) _ _ s
  refine wpAny_bind ?_
  unfold reTarget
  dsimp only
  refine wpAny_bind ?_
  show wpAny _ _ (pure [some (Value.str x t), none, none]) _ _ s
  refine wpAny_pure ?_
  dsimp only
  refine wpAny_bind (wpAny_pure ?_)
  refine wpAny_bind (wpAny_pure ?_)
  refine wpAny_bind (wpAny_fieldsOf ha hda ?_)
  refine wpAny_bind ?_
  show wpAny _ _ (pure (x.cps, 0)) _ _ s
  refine wpAny_pure ?_
  show wpAny _ _ (reRawItems (.ref c) >>= fun d => pure _) _ _ s
  refine wpAny_bind (raw_items hc hdc ?_)
  refine wpAny_pure ?_
  unfold reAnswer
  dsimp only
  refine wpAny_bind (run_none ?_ ?_)
  · unfold clean at hok
    have e1 : min (Int.toNat 0) x.cps.size = 0 := by simp
    have e2 : min (Int.toNat (2 ^ 63 - 1)) x.cps.size = x.cps.size := by
      have : Int.toNat (2 ^ 63 - 1) = 2 ^ 63 - 1 := by decide
      rw [this]; omega
    show ((Sre.forSearch ((xs.map reRawOf).map Int.toNat) x.cps 0 (min (Int.toNat 0) x.cps.size) (min (Int.toNat (2 ^ 63 - 1)) x.cps.size) false).runFor 4).outcome = some .failed
    rw [e1, e2]
    split at hok
    · assumption
    · cases hok
  · exact wpAny_pure ⟨_, rfl, h⟩
end
end Mine
end
/-! # LcStr -/
section
open PySem PySem.Spec PySem.Calls PySem.W PyProof.Rows PyProof.Rows.LCg PyProof.Rows.LCt
set_option Elab.async false
set_option maxRecDepth 100000
set_option maxHeartbeats 400000000
namespace Mine
/-- a text's signs, each a text -/
noncomputable def sgns (y : PySem.Str) : List PySem.Str := y.cps.toList.map fun c => (⟨#[c]⟩ : PySem.Str)
noncomputable def SgnP (l : List PySem.Str) (i : Nat) (v : Value) : Prop := ∃ c t, l[i]? = some c ∧ v = .str c t
section
variable {prog : Program} {w : World} {A : Around} {E : Value → Shared → Prop} {s : Shared} {h₀ : Heap} {L : Addr} {m : PySem.Str → Option Value} {env : Env}
noncomputable def SrcS (h₀ : Heap) (L : Addr) (m : PySem.Str → Option Value) (A : Around) (R : Shared → List PySem.Str → Nat → List (Addr × Obj) → Prop) (xv : Value) (s₁ : Shared) : Prop :=
  ∃ y t news, xv = .str y t ∧ A.handled = none ∧ Fr h₀ L s₁.heap m ∧ News h₀ L s₁.heap news ∧ y.length ≤ sizeLine ∧ ∀ s₂ : Shared, (∃ h, s₂ = { s₁ with heap := h }) → R s₂ (sgns y) y.length news
theorem SrcS.intro {R : Shared → List PySem.Str → Nat → List (Addr × Obj) → Prop} {y : PySem.Str} {t : Tok} {news : List (Addr × Obj)} {s₁ : Shared} {l : List PySem.Str} {n : Nat} (hh : A.handled = none) (F : Fr h₀ L s₁.heap m) (N : News h₀ L s₁.heap news) (hl : sgns y = l) (hn : y.length = n) (hsz : n ≤ sizeLine)
    (h : ∀ g, R { s₁ with heap := g } l n news) : SrcS h₀ L m A R (.str y t) s₁ := ⟨y, t, news, rfl, hh, F, N, hn ▸ hsz, fun _ ⟨g, e⟩ => by subst hl; subst hn; subst e; exact h g⟩

theorem sgn_walks {T : String} {I : Addr} {y : PySem.Str} {t : Tok} (W : Walks prog w A I [I] [I] y.cps.size (SignAt y) (fun i h => h.IsStrIter I T y t i)) : Walks prog w A I [I] [I] y.length (SgnP (sgns y)) (fun i h => h.IsStrIter I T y t i) where
  sub := W.sub
  frame := W.frame
  done := W.done
  self := W.self
  item := fun i s Q E hi st hQ => W.item i s Q E hi st fun v h' tk hP => hQ v h' tk (by
    obtain ⟨c, u, hc, rfl⟩ := hP
    refine ⟨⟨#[c]⟩, u, ?_, rfl⟩
    unfold sgns
    rw [List.getElem?_map, Array.getElem?_toList, hc]
    rfl)
theorem sgn_st {T : String} {I : Addr} {y : PySem.Str} {t : Tok} {S : List (Addr × Obj) → Prop} : ∀ i (h h' : Heap) (o : Obj) (nw : List (Addr × Obj)), h.IsStrIter I T y t i → h.get? I = some o → h'.get? I = some o → (∀ b o, h₀.get? b = some o → h'.get? b = some o) → News h₀ L h' nw → S nw → h'.IsStrIter I T y t i :=
  fun i h h' o nw st e e' _ _ _ => by
    obtain ⟨o', q, r⟩ := st
    rw [e] at q; cases q
    exact ⟨o, e', r⟩

theorem ListComp_SU {elt iter : Expr} {x : PySem.Str} {px : Pos} {scope : Scope} {cl : List (PySem.Str × Addr)} {pos : Pos} {Q : Value → Shared → Prop} (F₀ : Fr h₀ L s.heap m)
    (hclos : closureFor scope env = pure cl) (hcell : ∀ y ∈ scope.names, y.2 ≠ .cell) (hkind : scope.kind = .function)
    (hnames : ∀ y ∈ scope.names, y.2 = .local → scope.names.lookup y.1 = some .local) (hx : scope.names.lookup x = some .local)
    (h : wpAny (model prog w) A (eval iter env) (SrcS h₀ L m A fun s₂ l n news => CompRest prog w A h₀ L m env elt x scope cl s₂ (fun _ => True) (SgnP l) (FinE h₀ L m s₂ Q) n 0 [] news) E s)
    (hs : ∀ x, foldedSetIterable iter env x = pure x := by intro _; rfl) :
    wpAny (model prog w) A (eval (.ListComp elt [⟨.Name x px, iter, [], 0⟩] scope pos) env) Q E s := by
  rw [eval_ListComp]
  refine wpAny_comprehension_free (use := none) rfl hs hclos hkind hnames (wpAny_mono h (fun xv s₁ h₁ => ?_) fun _ _ e => e)
  obtain ⟨y, t, news, rfl, hh, F, N, hsz, R⟩ := h₁
  have go : ∀ (T : String) (o : Obj), Walks prog w A s₁.heap.objs.size [s₁.heap.objs.size] [s₁.heap.objs.size] y.cps.size (SignAt y) (fun i h => h.IsStrIter s₁.heap.objs.size T y t i) → (s₁.heap.push o).IsStrIter s₁.heap.objs.size T y t 0 →
      wpAny (model prog w) A (newList []) (fun acc s₃ => wpAny (model prog w) A (newFunctionEnv scope env.globals cl [] env.qual none .none (some env)) (fun cenv s₄ =>
        codeAny (model prog w) A (.compStart (.ListComp elt [⟨.Name x px, iter, [], 0⟩] scope pos) 0 (.ref s₁.heap.objs.size) acc { cenv with scope := relabel scope env })
          (compPost (model prog w) A E none Q acc cenv.locals) s₄) E s₃) E { s₁ with heap := s₁.heap.push o } := by
    intro T o W hst
    refine block_U (sgn_walks W) hsz (fun i h st => by obtain ⟨o, e, _⟩ := st; exact ⟨o, e⟩) sgn_st hcell hkind hx hst (fun b hb => ?_)
      (F.keeps fun _ _ e => Heap.get?_push_of_some _ e) (N.grown fun _ _ e => Heap.get?_push_of_some _ e) (Nat.ne_of_lt F.ns.lt) (next_is_new F) (fun p hp => Nat.ne_of_lt (Heap.lt_size (N p hp).1)) trivial (R _ ⟨_, rfl⟩) ?_
    · rw [List.mem_singleton.mp hb]
      show s₁.heap.objs.size < (s₁.heap.push _).objs.size
      rw [Heap.size_push]; exact Nat.lt_succ_self _
    · intro D C h tk m' ys news' F' N' o1 hn hC₀ hD₀ hCL hDL hCD offC fin
      refine ⟨m', hn, fun h'' hs'' => fin D h'' tk (F'.change hs'' hCL hC₀) (fun p hp => ?_) o1⟩
      refine ⟨hs''.extBut _ _ ?_ (N' p hp).1, (N' p hp).2⟩
      rcases List.mem_cons.mp hp with rfl | hp
      · exact Ne.symm hCD
      · exact offC p hp
  cases ha : y.cps.all (· < 128)
  · exact wpAny_pyIter_wide ha (go "str_iterator" _ (Walks.strWide hh _ y t) ⟨_, Heap.get?_push_size _ rfl, rfl, rfl⟩)
  · exact wpAny_pyIter_ascii ha (go "str_ascii_iterator" _ (Walks.strAscii hh _ y t) ⟨_, Heap.get?_push_size _ rfl, rfl, rfl⟩)

theorem ListComp_ST {ct elt iter : Expr} {x : PySem.Str} {px : Pos} {scope : Scope} {cl : List (PySem.Str × Addr)} {pos : Pos} {Q : Value → Shared → Prop} (F₀ : Fr h₀ L s.heap m)
    (hclos : closureFor scope env = pure cl) (hcell : ∀ y ∈ scope.names, y.2 ≠ .cell) (hkind : scope.kind = .function)
    (hnames : ∀ y ∈ scope.names, y.2 = .local → scope.names.lookup y.1 = some .local) (hx : scope.names.lookup x = some .local)
    (h : wpAny (model prog w) A (eval iter env) (SrcS h₀ L m A fun s₂ l n news => CompRestT prog w A h₀ L m env ct elt x scope cl s₂ (fun _ => True) (SgnP l) (FinE h₀ L m s₂ Q) n 0 [] news) E s)
    (hs : ∀ x, foldedSetIterable iter env x = pure x := by intro _; rfl) :
    wpAny (model prog w) A (eval (.ListComp elt [⟨.Name x px, iter, [ct], 0⟩] scope pos) env) Q E s := by
  rw [eval_ListComp]
  refine wpAny_comprehension_free (use := none) rfl hs hclos hkind hnames (wpAny_mono h (fun xv s₁ h₁ => ?_) fun _ _ e => e)
  obtain ⟨y, t, news, rfl, hh, F, N, hsz, R⟩ := h₁
  have go : ∀ (T : String) (o : Obj), Walks prog w A s₁.heap.objs.size [s₁.heap.objs.size] [s₁.heap.objs.size] y.cps.size (SignAt y) (fun i h => h.IsStrIter s₁.heap.objs.size T y t i) → (s₁.heap.push o).IsStrIter s₁.heap.objs.size T y t 0 →
      wpAny (model prog w) A (newList []) (fun acc s₃ => wpAny (model prog w) A (newFunctionEnv scope env.globals cl [] env.qual none .none (some env)) (fun cenv s₄ =>
        codeAny (model prog w) A (.compStart (.ListComp elt [⟨.Name x px, iter, [ct], 0⟩] scope pos) 0 (.ref s₁.heap.objs.size) acc { cenv with scope := relabel scope env })
          (compPost (model prog w) A E none Q acc cenv.locals) s₄) E s₃) E { s₁ with heap := s₁.heap.push o } := by
    intro T o W hst
    refine block_T (sgn_walks W) hsz (fun i h st => by obtain ⟨o, e, _⟩ := st; exact ⟨o, e⟩) sgn_st hcell hkind hx hst (fun b hb => ?_)
      (F.keeps fun _ _ e => Heap.get?_push_of_some _ e) (N.grown fun _ _ e => Heap.get?_push_of_some _ e) (Nat.ne_of_lt F.ns.lt) (next_is_new F) (fun p hp => Nat.ne_of_lt (Heap.lt_size (N p hp).1)) trivial (R _ ⟨_, rfl⟩) ?_
    · rw [List.mem_singleton.mp hb]
      show s₁.heap.objs.size < (s₁.heap.push _).objs.size
      rw [Heap.size_push]; exact Nat.lt_succ_self _
    · intro D C h tk m' ys news' F' N' o1 hn hC₀ hD₀ hCL hDL hCD offC fin
      refine ⟨m', hn, fun h'' hs'' => fin D h'' tk (F'.change hs'' hCL hC₀) (fun p hp => ?_) o1⟩
      refine ⟨hs''.extBut _ _ ?_ (N' p hp).1, (N' p hp).2⟩
      rcases List.mem_cons.mp hp with rfl | hp
      · exact Ne.symm hCD
      · exact offC p hp
  cases ha : y.cps.all (· < 128)
  · exact wpAny_pyIter_wide ha (go "str_iterator" _ (Walks.strWide hh _ y t) ⟨_, Heap.get?_push_size _ rfl, rfl, rfl⟩)
  · exact wpAny_pyIter_ascii ha (go "str_ascii_iterator" _ (Walks.strAscii hh _ y t) ⟨_, Heap.get?_push_size _ rfl, rfl, rfl⟩)
end
end Mine
end
/-! # LcRel -/
section
open PySem PySem.Spec PySem.Calls PySem.W PyProof.Rows PyProof.Rows.LCg PyProof.Rows.LCt
set_option Elab.async false
set_option maxRecDepth 100000
set_option maxHeartbeats 400000000
namespace Mine
/-- a goal kept as it is: a walk's halt -/
noncomputable def Halt (P : Prop) : Prop := P
theorem halt {P : Prop} (h : Halt P) : P := h
section
variable {prog : Program} {w : World} {A : Around} {h₀ : Heap} {L : Addr} {m : PySem.Str → Option Value} {env : Env}
/-- a comprehension by what holds of what it has gathered, the ledger staying as it is -/
theorem rest_rel {elt : Expr} {x : PySem.Str} {scope : Scope} {cl : List (PySem.Str × Addr)} {s : Shared} {S : List (Addr × Obj) → Prop} {P : Nat → Value → Prop} {Fin : List Value → List (Addr × Obj) → Prop} {n : Nat} {news : List (Addr × Obj)} (G : Nat → List Value → Prop)
    (h0 : G 0 []) (hf : ∀ ys, G n ys → Fin ys news)
    (step : ∀ i, i < n → ∀ ys, G i ys → ∀ v I oI C oC D m₂ h tk (E' : Value → Shared → Prop), P i v → NsObj oC m₂ → m₂ x = some v → Fr h₀ L h m → News h₀ L h ((I, oI) :: (C, oC) :: (D, lst ys) :: news) → Off3 I C D news → ((@Ne Nat I C) ∧ (@Ne Nat I D) ∧ (@Ne Nat C D)) →
      wpAny (model prog w) A (eval elt (compEnvC scope cl C env)) (CompEnd h₀ L m { s with heap := h, toks := tk } I oI C oC D (lst ys) S (fun y news' => news' = news ∧ G (i + 1) (ys ++ [y]))) E' { s with heap := h, toks := tk }) :
    CompRest prog w A h₀ L m env elt x scope cl s S P Fin n 0 [] news := by
  have go : ∀ k i, i + k = n → ∀ ys, G i ys → CompRest prog w A h₀ L m env elt x scope cl s S P Fin k i ys news := by
    intro k
    induction k with
    | zero =>
      intro i hi ys hg
      obtain rfl : i = n := by omega
      exact hf ys hg
    | succ k ih =>
      intro i hi ys hg
      refine CompRest.succ fun v I oI C oC D m₂ h tk E' hv hC hx F N off ne => ?_
      refine wpAny_mono (step i (by omega) ys hg v I oI C oC D m₂ h tk E' hv hC hx F N off ne) (fun y s₂ hc => ?_) fun _ _ e => e
      obtain ⟨h', tk', news', e1, e2, e3, e4, e5, rfl, e7⟩ := hc
      exact ⟨h', tk', _, e1, e2, e3, e4, e5, ih (i + 1) (by omega) _ e7⟩
  exact go n 0 (by omega) [] h0
theorem restT_rel {ct elt : Expr} {x : PySem.Str} {scope : Scope} {cl : List (PySem.Str × Addr)} {s : Shared} {S : List (Addr × Obj) → Prop} {P : Nat → Value → Prop} {Fin : List Value → List (Addr × Obj) → Prop} {n : Nat} {news : List (Addr × Obj)} (G : Nat → List Value → Prop)
    (h0 : G 0 []) (hf : ∀ ys, G n ys → Fin ys news)
    (step : ∀ i, i < n → ∀ ys, G i ys → ∀ v I oI C oC D m₂ h tk (E' : Value → Shared → Prop), P i v → NsObj oC m₂ → m₂ x = some v → Fr h₀ L h m → News h₀ L h ((I, oI) :: (C, oC) :: (D, lst ys) :: news) → Off3 I C D news → ((@Ne Nat I C) ∧ (@Ne Nat I D) ∧ (@Ne Nat C D)) →
      wpAny (model prog w) A (isTrue ct (compEnvC scope cl C env) (eval ct (compEnvC scope cl C env))) (fun ok s' => if ok = true then
        wpAny (model prog w) A (eval elt (compEnvC scope cl C env)) (CompEnd h₀ L m { s with heap := h, toks := tk } I oI C oC D (lst ys) S (fun y news' => news' = news ∧ G (i + 1) (ys ++ [y]))) E' s'
        else CompEnd h₀ L m { s with heap := h, toks := tk } I oI C oC D (lst ys) S (fun _ news' => news' = news ∧ G (i + 1) ys) Value.none s') E' { s with heap := h, toks := tk }) :
    CompRestT prog w A h₀ L m env ct elt x scope cl s S P Fin n 0 [] news := by
  have go : ∀ k i, i + k = n → ∀ ys, G i ys → CompRestT prog w A h₀ L m env ct elt x scope cl s S P Fin k i ys news := by
    intro k
    induction k with
    | zero =>
      intro i hi ys hg
      obtain rfl : i = n := by omega
      exact hf ys hg
    | succ k ih =>
      intro i hi ys hg
      refine CompRestT.succ fun v I oI C oC D m₂ h tk E' hv hC hx F N off ne => ?_
      refine wpAny_mono (step i (by omega) ys hg v I oI C oC D m₂ h tk E' hv hC hx F N off ne) (fun ok s' hs => ?_) fun _ _ e => e
      cases ok with
      | true =>
        simp only [if_true] at hs ⊢
        refine wpAny_mono hs (fun y s₂ hc => ?_) fun _ _ e => e
        obtain ⟨h', tk', news', e1, e2, e3, e4, e5, rfl, e7⟩ := hc
        exact ⟨h', tk', _, e1, e2, e3, e4, e5, ih (i + 1) (by omega) _ e7⟩
      | false =>
        simp only [Bool.false_eq_true, if_false] at hs ⊢
        obtain ⟨h', tk', news', e1, e2, e3, e4, e5, rfl, e7⟩ := hs
        exact ⟨h', tk', _, e1, e2, e3, e4, e5, ih (i + 1) (by omega) _ e7⟩
  exact go n 0 (by omega) [] h0
theorem end_keep {h₀ : Heap} {L I C D : Addr} {m : PySem.Str → Option Value} {s₁ : Shared} {oI oC oD : Obj} {S : List (Addr × Obj) → Prop} {rest : Value → List (Addr × Obj) → Prop} {y : Value} {h' : Heap} {tk : Nat} {news' : List (Addr × Obj)}
    (F : Fr h₀ L h' m) (N : News h₀ L h' ((I, oI) :: (C, oC) :: (D, oD) :: news')) (off : Off3 I C D news') (hS : S news') (r : rest y news') : CompEnd h₀ L m s₁ I oI C oC D oD S rest y { s₁ with heap := h', toks := tk } := ⟨h', tk, news', rfl, F, N, off, hS, r⟩
theorem strs_snoc {ys : List Value} {l : List PySem.Str} {f : PySem.Str → PySem.Str} {i : Nat} {c : PySem.Str} {t : Tok} (h : StrsAre ys ((l.take i).map f)) (hc : l[i]? = some c) : StrsAre (ys ++ [.str (f c) t]) ((l.take (i + 1)).map f) := by
  rw [List.take_add_one, hc, Option.toList_some, List.map_append]
  exact StrsAre.append' h (StrsAre.cons _ _ .nil)
theorem strs_in {ys : List Value} {l : List PySem.Str} {q : PySem.Str → Bool} {i : Nat} {c : PySem.Str} {t : Tok} (h : StrsAre ys ((l.take i).filter q)) (hc : l[i]? = some c) (hq : q c = true) : StrsAre (ys ++ [.str c t]) ((l.take (i + 1)).filter q) := by
  rw [List.take_add_one, hc, Option.toList_some, List.filter_append, List.filter_cons_of_pos hq]
  exact StrsAre.append' h (StrsAre.cons _ _ .nil)
theorem strs_out {ys : List Value} {l : List PySem.Str} {q : PySem.Str → Bool} {i : Nat} {c : PySem.Str} (h : StrsAre ys ((l.take i).filter q)) (hc : l[i]? = some c) (hq : q c = false) : StrsAre ys ((l.take (i + 1)).filter q) := by
  rw [List.take_add_one, hc, Option.toList_some, List.filter_append, List.filter_cons_of_neg (by simp [hq])]
  simpa using h
end
section
variable {prog : Program} {w : World} {A : Around} {E : Value → Shared → Prop} {h₀ : Heap} {env : Env} {target : Expr} {body : List Stmt} {Q : Flow → Shared → Prop} {s : Shared} {keep : List (Addr × Obj)}
theorem allObj_mono : ∀ {ws : List (Addr × String)} {k k' : List (Addr × Obj) → Prop}, (∀ its, k its → k' its) → AllObj ws k → AllObj ws k'
  | [], _, _, h, x => h _ x
  | _ :: _, _, _, h, x => fun o ho => allObj_mono (fun its hi => h _ hi) (x o ho)
end
end Mine
end
/-! # Ind -/
section
open PySem PySem.W PyProof.Rows PySem.Calls PySem.Spec PyProof.Rows.LCg PyProof.Rows.LCt
set_option Elab.async false
set_option maxRecDepth 100000
set_option maxHeartbeats 400000000
namespace Mine
/-- a frame's surroundings, in few letters -/
noncomputable abbrev AX (dp un : Nat) (gd : Option (List Code)) (env : Env) (outer : List Env) : Around := { handled := none, depth := dp, frames := some (env :: outer), guards := gd, units := un }
/-- what a body's end hands on -/
noncomputable def RetTo (R : Value → Shared → Prop) (fl : Flow) (s : Shared) : Prop := R (match fl with | .ret v => v | _ => .none) s
theorem room_le {a b b' c : Nat} (h : a + b < c) (k : b' ≤ b) : a + b' < c := Nat.lt_of_le_of_lt (Nat.add_le_add_left k a) h
section
variable {w : World} {p : Program} {loose : List PySem.Str} {mean : ExcName → Option Value} {mg mb : PySem.Str → Option Value} {f : Addr} {room : Nat} {vs : List Value} {led : List (Addr × Obj)} {post : Heap → Value → Heap → Prop}
  {name qual : PySem.Str} {params : Arguments} {body : List Stmt} {scope : Scope} {dV kV doc pm cdv ct oc : Value} {an od : Option Addr} {osl : Array (Option Value)} {binds : List (PySem.Str × Value)}
/-- a contract of a def with cells that may change its ledger: its body from any surroundings, its end a letter -/
theorem Cm.enterC (ho : (hd.heap_1 w.params).lookup f = some ⟨oc, od, .func (fnOf name qual params body scope dV kV doc pm an cdv ct), osl⟩) (hcd : codeIn (hd.heap_1 w.params) cdv qual = true)
    (hr : 1 ≤ room) (hbind : ∀ s, BindsTo s (fnOf name qual params body scope dV kV doc pm an cdv ct) ⟨vs, []⟩ binds) (hkind : (binds.all fun y => scope.names.lookup y.1 == some .local || scope.names.lookup y.1 == some .cell) = true)
    (hnd : ((cellsFrom 0 scope.names []).map (·.1)).Nodup) (hco : scope.isCoroutine = false) (hgen : scope.isGenerator = false) (hk : scope.kind = .function)
    (h : ∀ (dp un : Nat) (gd : Option (List Code)) (outer : List Env) (A₀ : Around) (base g sh h₁ : Heap) (L' : Addr) (tk : Nat) (gs : Array GenState) (dr : Drawn) (os : OsState) (cells : List (Addr × Obj)) (R : Value → Shared → Prop),
      dp + (room - 1) < recursionLimit → un + 8 * (room - 1) < cLine → (∀ p ∈ led, p.1 < L') → GSub sh g (led.map (·.1)) → Below A₀ base outer g → (hd.heap_1 w.params).In g → Top p loose mean mg mb g →
      (∀ v h' tk' L'' m' news', Fr g L'' h' m' → News g L'' h' news' → post sh v h' → R v ⟨h', gs, dr, tk', os⟩) →
      CellsAre (bindC (envOfC qual scope L' f cdv).kindOf binds fun _ => none) (cellsFrom (L' + 1) scope.names []) cells →
      Fr g L' h₁ (bindL (envOfC qual scope L' f cdv).kindOf binds fun _ => none) → News g L' h₁ (cells ++ led) →
      wpAny (model (PySem.Challenge.rw_to0087_01).row.prog w) (AX dp un gd (envOfC qual scope L' f cdv) outer) (execs body (envOfC qual scope L' f cdv)) (RetTo R) (fun _ _ => False) ⟨h₁, gs, dr, tk, os⟩) :
    Cm w p loose mean mg mb PySem.Challenge.rw_to0087_01 f room vs led post := by
  intro dp un gd cn cs a ccd cl outer A₀ base h₀ L m s Q E B F X N T hcs hd hu ret
  refine wpAny_call ?_
  refine enterMC B F X N T rfl rfl hcs ho hcd (Nat.lt_of_le_of_lt (Nat.le_add_right _ _) hd) (hbind s) hkind hnd (fun g L' h₁ tk cells F' N' Y l1 B' X' T' G' => ?_) hco hgen hk
  refine wpAny_mono (h (dp + 1) (un + 3) gd (envX cn cs L a ccd cl :: outer) _ base g s.heap h₁ L' tk s.gens s.drawn s.os cells (BackM s.heap (led.map (·.1)) (fun r s' => match r with | .ok (.ret v) => Q v s' | .ok _ => False | .error e => E e s')) (by omega) (by omega) l1 G' B' X' T' (fun v h' tk' L'' m' news' F2 N2 hp => backM_ F2 N2 G' fun kE => ret v h' tk' kE hp) Y F' N') (fun fl s' x => x) (fun _ _ x => x.elim)
/-- the same for a def without cells -/
theorem Cm.enter (ho : (hd.heap_1 w.params).lookup f = some ⟨oc, od, .func (fnOf name qual params body scope dV kV doc pm an cdv ct), osl⟩) (hcd : codeIn (hd.heap_1 w.params) cdv qual = true)
    (hr : 1 ≤ room) (hbind : ∀ s, BindsTo s (fnOf name qual params body scope dV kV doc pm an cdv ct) ⟨vs, []⟩ binds) (hloc : ∀ y ∈ binds, scope.names.lookup y.1 = some .local)
    (hco : scope.isCoroutine = false) (hgen : scope.isGenerator = false) (hk : scope.kind = .function) (hcell : ∀ x ∈ scope.names, x.2 ≠ .cell)
    (h : ∀ (dp un : Nat) (gd : Option (List Code)) (outer : List Env) (A₀ : Around) (base g sh h₁ : Heap) (L' : Addr) (tk : Nat) (gs : Array GenState) (dr : Drawn) (os : OsState) (R : Value → Shared → Prop),
      dp + (room - 1) < recursionLimit → un + 8 * (room - 1) < cLine → GSub sh g (led.map (·.1)) → Below A₀ base outer g → (hd.heap_1 w.params).In g → Top p loose mean mg mb g →
      (∀ v h' tk' L'' m' news', Fr g L'' h' m' → News g L'' h' news' → post sh v h' → R v ⟨h', gs, dr, tk', os⟩) →
      Fr g L' h₁ (fun y => binds.reverse.lookup y) → News g L' h₁ led →
      wpAny (model (PySem.Challenge.rw_to0087_01).row.prog w) (AX dp un gd (envOf qual scope L' f cdv) outer) (execs body (envOf qual scope L' f cdv)) (RetTo R) (fun _ _ => False) ⟨h₁, gs, dr, tk, os⟩) :
    Cm w p loose mean mg mb PySem.Challenge.rw_to0087_01 f room vs led post := by
  intro dp un gd cn cs a ccd cl outer A₀ base h₀ L m s Q E B F X N T hcs hd hu ret
  refine wpAny_call ?_
  refine enterM B F X N T rfl rfl hcs ho hcd (Nat.lt_of_le_of_lt (Nat.le_add_right _ _) hd) (hbind s) hloc (fun g L' h₁ F' N' B' X' T' G' => ?_) hco hgen hk hcell
  refine wpAny_mono (h (dp + 1) (un + 3) gd (envX cn cs L a ccd cl :: outer) _ base g s.heap h₁ L' _ s.gens s.drawn s.os (BackM s.heap (led.map (·.1)) (fun r s' => match r with | .ok (.ret v) => Q v s' | .ok _ => False | .error e => E e s')) (by omega) (by omega) G' B' X' T' (fun v h' tk' L'' m' news' F2 N2 hp => backM_ F2 N2 G' fun kE => ret v h' tk' kE hp) F' N') (fun fl s' x => x) (fun _ _ x => x.elim)
variable {pre : Heap → Prop}
/-- a contract of a def without cells that changes nothing -/
theorem Cl.enter (ho : (hd.heap_1 w.params).lookup f = some ⟨oc, od, .func (fnOf name qual params body scope dV kV doc pm an cdv ct), osl⟩) (hcd : codeIn (hd.heap_1 w.params) cdv qual = true)
    (hr : 1 ≤ room) (hbind : ∀ s, BindsTo s (fnOf name qual params body scope dV kV doc pm an cdv ct) ⟨vs, []⟩ binds) (hloc : ∀ y ∈ binds, scope.names.lookup y.1 = some .local)
    (hco : scope.isCoroutine = false) (hgen : scope.isGenerator = false) (hk : scope.kind = .function) (hcell : ∀ x ∈ scope.names, x.2 ≠ .cell)
    (h : ∀ (dp un : Nat) (gd : Option (List Code)) (outer : List Env) (A₀ : Around) (base g h₁ : Heap) (L' : Addr) (tk : Nat) (gs : Array GenState) (dr : Drawn) (os : OsState) (R : Value → Shared → Prop),
      dp + (room - 1) < recursionLimit → un + 8 * (room - 1) < cLine → Below A₀ base outer g → (hd.heap_1 w.params).In g → Top p loose mean mg mb g → pre g →
      (∀ v h' tk' L'' m' news', Fr g L'' h' m' → News g L'' h' news' → post g v h' → R v ⟨h', gs, dr, tk', os⟩) →
      Fr g L' h₁ (fun y => binds.reverse.lookup y) → News g L' h₁ [] →
      wpAny (model (PySem.Challenge.rw_to0087_01).row.prog w) (AX dp un gd (envOf qual scope L' f cdv) outer) (execs body (envOf qual scope L' f cdv)) (RetTo R) (fun _ _ => False) ⟨h₁, gs, dr, tk, os⟩) :
    Cl w p loose mean mg mb PySem.Challenge.rw_to0087_01 f room vs pre post := by
  intro dp un gd cn cs a ccd cl outer A₀ base h₀ L m s Q E B F X T hcs hd hu hp ret
  refine wpAny_call ?_
  refine enterP B F X T rfl rfl hcs ho hcd (Nat.lt_of_le_of_lt (Nat.le_add_right _ _) hd) (hbind s) hloc (fun L' h₁ F' N' B' X' T' => ?_) hco hgen hk hcell
  refine wpAny_mono (h (dp + 1) (un + 3) gd (envX cn cs L a ccd cl :: outer) _ base s.heap h₁ L' _ s.gens s.drawn s.os (Back s.heap (fun r s' => match r with | .ok (.ret v) => Q v s' | .ok _ => False | .error e => E e s')) (by omega) (by omega) B' X' T' hp (fun v h' tk' L'' m' news' F2 N2 hp => back_ F2 N2 fun kE => ret v h' tk' kE hp) F' N') (fun fl s' x => x) (fun _ _ x => x.elim)
/-- and with cells -/
theorem Cl.enterC (ho : (hd.heap_1 w.params).lookup f = some ⟨oc, od, .func (fnOf name qual params body scope dV kV doc pm an cdv ct), osl⟩) (hcd : codeIn (hd.heap_1 w.params) cdv qual = true)
    (hr : 1 ≤ room) (hbind : ∀ s, BindsTo s (fnOf name qual params body scope dV kV doc pm an cdv ct) ⟨vs, []⟩ binds) (hkind : (binds.all fun y => scope.names.lookup y.1 == some .local || scope.names.lookup y.1 == some .cell) = true)
    (hnd : ((cellsFrom 0 scope.names []).map (·.1)).Nodup) (hco : scope.isCoroutine = false) (hgen : scope.isGenerator = false) (hk : scope.kind = .function)
    (h : ∀ (dp un : Nat) (gd : Option (List Code)) (outer : List Env) (A₀ : Around) (base g h₁ : Heap) (L' : Addr) (tk : Nat) (gs : Array GenState) (dr : Drawn) (os : OsState) (cells : List (Addr × Obj)) (R : Value → Shared → Prop),
      dp + (room - 1) < recursionLimit → un + 8 * (room - 1) < cLine → Below A₀ base outer g → (hd.heap_1 w.params).In g → Top p loose mean mg mb g → pre g →
      (∀ v h' tk' L'' m' news', Fr g L'' h' m' → News g L'' h' news' → post g v h' → R v ⟨h', gs, dr, tk', os⟩) →
      CellsAre (bindC (envOfC qual scope L' f cdv).kindOf binds fun _ => none) (cellsFrom (L' + 1) scope.names []) cells →
      Fr g L' h₁ (bindL (envOfC qual scope L' f cdv).kindOf binds fun _ => none) → News g L' h₁ cells →
      wpAny (model (PySem.Challenge.rw_to0087_01).row.prog w) (AX dp un gd (envOfC qual scope L' f cdv) outer) (execs body (envOfC qual scope L' f cdv)) (RetTo R) (fun _ _ => False) ⟨h₁, gs, dr, tk, os⟩) :
    Cl w p loose mean mg mb PySem.Challenge.rw_to0087_01 f room vs pre post := by
  intro dp un gd cn cs a ccd cl outer A₀ base h₀ L m s Q E B F X T hcs hd hu hp ret
  refine wpAny_call ?_
  refine Mine.enterC B F X T rfl rfl hcs ho hcd (Nat.lt_of_le_of_lt (Nat.le_add_right _ _) hd) (hbind s) hkind hnd (fun L' h₁ tk cells F' N' Y B' X' T' => ?_) hco hgen hk
  refine wpAny_mono (h (dp + 1) (un + 3) gd (envX cn cs L a ccd cl :: outer) _ base s.heap h₁ L' tk s.gens s.drawn s.os cells (Back s.heap (fun r s' => match r with | .ok (.ret v) => Q v s' | .ok _ => False | .error e => E e s')) (by omega) (by omega) B' X' T' hp (fun v h' tk' L'' m' news' F2 N2 hp => back_ F2 N2 fun kE => ret v h' tk' kE hp) Y F' N') (fun fl s' x => x) (fun _ _ x => x.elim)
theorem Cm.enterC4 {m₀ : PySem.Str → Option Value} {n1 n2 n3 n4 : PySem.Str} {v1 v2 v3 v4 : Option Value} (ho : (hd.heap_1 w.params).lookup f = some ⟨oc, od, .func (fnOf name qual params body scope dV kV doc pm an cdv ct), osl⟩) (hcd : codeIn (hd.heap_1 w.params) cdv qual = true)
    (hr : 1 ≤ room) (hbind : ∀ s, BindsTo s (fnOf name qual params body scope dV kV doc pm an cdv ct) ⟨vs, []⟩ binds) (hkind : (binds.all fun y => scope.names.lookup y.1 == some .local || scope.names.lookup y.1 == some .cell) = true)
    (hnd : ((cellsFrom 0 scope.names []).map (·.1)).Nodup) (hco : scope.isCoroutine = false) (hgen : scope.isGenerator = false) (hk : scope.kind = .function)
    (hcf : ∀ L', cellsFrom (L' + 1) scope.names [] = [(n4, L' + 1 + 1 + 1 + 1), (n3, L' + 1 + 1 + 1), (n2, L' + 1 + 1), (n1, L' + 1)]) (hm : ∀ L', (bindL (envOfC qual scope L' f cdv).kindOf binds fun _ => none) = m₀) (hcm : ∀ L', bindC (envOfC qual scope L' f cdv).kindOf binds (fun _ => none) n1 = v1 ∧ bindC (envOfC qual scope L' f cdv).kindOf binds (fun _ => none) n2 = v2 ∧ bindC (envOfC qual scope L' f cdv).kindOf binds (fun _ => none) n3 = v3 ∧ bindC (envOfC qual scope L' f cdv).kindOf binds (fun _ => none) n4 = v4)
    (h : ∀ (dp un : Nat) (gd : Option (List Code)) (outer : List Env) (A₀ : Around) (base g sh h₁ : Heap) (L' : Addr) (tk : Nat) (gs : Array GenState) (dr : Drawn) (os : OsState) (R : Value → Shared → Prop) (o1 o2 o3 o4 : Obj),
      dp + (room - 1) < recursionLimit → un + 8 * (room - 1) < cLine → (∀ p ∈ led, p.1 < L') → GSub sh g (led.map (·.1)) → Below A₀ base outer g → (hd.heap_1 w.params).In g → Top p loose mean mg mb g → 
      (∀ v h' tk' L'' m' news', Fr g L'' h' m' → News g L'' h' news' → post sh v h' → R v ⟨h', gs, dr, tk', os⟩) → o1.data = .cell v1 → o2.data = .cell v2 → o3.data = .cell v3 → o4.data = .cell v4 →
      Fr g L' h₁ m₀ → News g L' h₁ ((L' + 1 + 1 + 1 + 1, o4) :: (L' + 1 + 1 + 1, o3) :: (L' + 1 + 1, o2) :: (L' + 1, o1) :: led) →
      wpAny (model (PySem.Challenge.rw_to0087_01).row.prog w) (AX dp un gd (envOfC qual scope L' f cdv) outer) (execs body (envOfC qual scope L' f cdv)) (RetTo R) (fun _ _ => False) ⟨h₁, gs, dr, tk, os⟩) :
    Cm w p loose mean mg mb PySem.Challenge.rw_to0087_01 f room vs led post := by
  refine Cm.enterC ho hcd hr hbind hkind hnd hco hgen hk fun dp un gd outer A₀ base g sh h₁ L' tk gs dr os cells R a b c d e f' g' ret Y F' N' => ?_
  rw [hcf] at Y
  rw [hm] at F'
  obtain ⟨o4, o3, o2, o1, rfl, e4, e3, e2, e1⟩ := Y.four
  obtain ⟨c1, c2, c3, c4⟩ := hcm L'
  exact h dp un gd outer A₀ base g sh h₁ L' tk gs dr os R o1 o2 o3 o4 a b c d e f' g' ret (e1.trans (congrArg Data.cell c1)) (e2.trans (congrArg Data.cell c2)) (e3.trans (congrArg Data.cell c3)) (e4.trans (congrArg Data.cell c4)) F' N'
theorem Cm.enterC2 {m₀ : PySem.Str → Option Value} {n1 n2 : PySem.Str} {v1 v2 : Option Value} (ho : (hd.heap_1 w.params).lookup f = some ⟨oc, od, .func (fnOf name qual params body scope dV kV doc pm an cdv ct), osl⟩) (hcd : codeIn (hd.heap_1 w.params) cdv qual = true)
    (hr : 1 ≤ room) (hbind : ∀ s, BindsTo s (fnOf name qual params body scope dV kV doc pm an cdv ct) ⟨vs, []⟩ binds) (hkind : (binds.all fun y => scope.names.lookup y.1 == some .local || scope.names.lookup y.1 == some .cell) = true)
    (hnd : ((cellsFrom 0 scope.names []).map (·.1)).Nodup) (hco : scope.isCoroutine = false) (hgen : scope.isGenerator = false) (hk : scope.kind = .function)
    (hcf : ∀ L', cellsFrom (L' + 1) scope.names [] = [(n2, L' + 1 + 1), (n1, L' + 1)]) (hm : ∀ L', (bindL (envOfC qual scope L' f cdv).kindOf binds fun _ => none) = m₀) (hcm : ∀ L', bindC (envOfC qual scope L' f cdv).kindOf binds (fun _ => none) n1 = v1 ∧ bindC (envOfC qual scope L' f cdv).kindOf binds (fun _ => none) n2 = v2)
    (h : ∀ (dp un : Nat) (gd : Option (List Code)) (outer : List Env) (A₀ : Around) (base g sh h₁ : Heap) (L' : Addr) (tk : Nat) (gs : Array GenState) (dr : Drawn) (os : OsState) (R : Value → Shared → Prop) (o1 o2 : Obj),
      dp + (room - 1) < recursionLimit → un + 8 * (room - 1) < cLine → (∀ p ∈ led, p.1 < L') → GSub sh g (led.map (·.1)) → Below A₀ base outer g → (hd.heap_1 w.params).In g → Top p loose mean mg mb g → 
      (∀ v h' tk' L'' m' news', Fr g L'' h' m' → News g L'' h' news' → post sh v h' → R v ⟨h', gs, dr, tk', os⟩) → o1.data = .cell v1 → o2.data = .cell v2 →
      Fr g L' h₁ m₀ → News g L' h₁ ((L' + 1 + 1, o2) :: (L' + 1, o1) :: led) →
      wpAny (model (PySem.Challenge.rw_to0087_01).row.prog w) (AX dp un gd (envOfC qual scope L' f cdv) outer) (execs body (envOfC qual scope L' f cdv)) (RetTo R) (fun _ _ => False) ⟨h₁, gs, dr, tk, os⟩) :
    Cm w p loose mean mg mb PySem.Challenge.rw_to0087_01 f room vs led post := by
  refine Cm.enterC ho hcd hr hbind hkind hnd hco hgen hk fun dp un gd outer A₀ base g sh h₁ L' tk gs dr os cells R a b c d e f' g' ret Y F' N' => ?_
  rw [hcf] at Y
  rw [hm] at F'
  obtain ⟨o2, o1, rfl, e2, e1⟩ := Y.two
  obtain ⟨c1, c2⟩ := hcm L'
  exact h dp un gd outer A₀ base g sh h₁ L' tk gs dr os R o1 o2 a b c d e f' g' ret (e1.trans (congrArg Data.cell c1)) (e2.trans (congrArg Data.cell c2)) F' N'
theorem Cl.enterC1 {m₀ : PySem.Str → Option Value} {n1 : PySem.Str} {v1 : Option Value} (ho : (hd.heap_1 w.params).lookup f = some ⟨oc, od, .func (fnOf name qual params body scope dV kV doc pm an cdv ct), osl⟩) (hcd : codeIn (hd.heap_1 w.params) cdv qual = true)
    (hr : 1 ≤ room) (hbind : ∀ s, BindsTo s (fnOf name qual params body scope dV kV doc pm an cdv ct) ⟨vs, []⟩ binds) (hkind : (binds.all fun y => scope.names.lookup y.1 == some .local || scope.names.lookup y.1 == some .cell) = true)
    (hnd : ((cellsFrom 0 scope.names []).map (·.1)).Nodup) (hco : scope.isCoroutine = false) (hgen : scope.isGenerator = false) (hk : scope.kind = .function)
    (hcf : ∀ L', cellsFrom (L' + 1) scope.names [] = [(n1, L' + 1)]) (hm : ∀ L', (bindL (envOfC qual scope L' f cdv).kindOf binds fun _ => none) = m₀) (hcm : ∀ L', bindC (envOfC qual scope L' f cdv).kindOf binds (fun _ => none) n1 = v1)
    (h : ∀ (dp un : Nat) (gd : Option (List Code)) (outer : List Env) (A₀ : Around) (base g h₁ : Heap) (L' : Addr) (tk : Nat) (gs : Array GenState) (dr : Drawn) (os : OsState) (R : Value → Shared → Prop) (o1 : Obj),
      dp + (room - 1) < recursionLimit → un + 8 * (room - 1) < cLine → Below A₀ base outer g → (hd.heap_1 w.params).In g → Top p loose mean mg mb g → pre g → 
      (∀ v h' tk' L'' m' news', Fr g L'' h' m' → News g L'' h' news' → post g v h' → R v ⟨h', gs, dr, tk', os⟩) → o1.data = .cell v1 →
      Fr g L' h₁ m₀ → News g L' h₁ ([(L' + 1, o1)]) →
      wpAny (model (PySem.Challenge.rw_to0087_01).row.prog w) (AX dp un gd (envOfC qual scope L' f cdv) outer) (execs body (envOfC qual scope L' f cdv)) (RetTo R) (fun _ _ => False) ⟨h₁, gs, dr, tk, os⟩) :
    Cl w p loose mean mg mb PySem.Challenge.rw_to0087_01 f room vs pre post := by
  refine Cl.enterC ho hcd hr hbind hkind hnd hco hgen hk fun dp un gd outer A₀ base g h₁ L' tk gs dr os cells R a b c d e pr ret Y F' N' => ?_
  rw [hcf] at Y
  rw [hm] at F'
  obtain ⟨o1, rfl, e1⟩ := Y.one
  have c1 := hcm L'
  exact h dp un gd outer A₀ base g h₁ L' tk gs dr os R o1 a b c d e pr ret (e1.trans (congrArg Data.cell c1)) F' N'
theorem Cm.enterC5 {m₀ : PySem.Str → Option Value} {n1 n2 n3 n4 n5 : PySem.Str} {v1 v2 v3 v4 v5 : Option Value} (ho : (hd.heap_1 w.params).lookup f = some ⟨oc, od, .func (fnOf name qual params body scope dV kV doc pm an cdv ct), osl⟩) (hcd : codeIn (hd.heap_1 w.params) cdv qual = true)
    (hr : 1 ≤ room) (hbind : ∀ s, BindsTo s (fnOf name qual params body scope dV kV doc pm an cdv ct) ⟨vs, []⟩ binds) (hkind : (binds.all fun y => scope.names.lookup y.1 == some .local || scope.names.lookup y.1 == some .cell) = true)
    (hnd : ((cellsFrom 0 scope.names []).map (·.1)).Nodup) (hco : scope.isCoroutine = false) (hgen : scope.isGenerator = false) (hk : scope.kind = .function)
    (hcf : ∀ L', cellsFrom (L' + 1) scope.names [] = [(n5, L' + 1 + 1 + 1 + 1 + 1), (n4, L' + 1 + 1 + 1 + 1), (n3, L' + 1 + 1 + 1), (n2, L' + 1 + 1), (n1, L' + 1)]) (hm : ∀ L', (bindL (envOfC qual scope L' f cdv).kindOf binds fun _ => none) = m₀) (hcm : ∀ L', bindC (envOfC qual scope L' f cdv).kindOf binds (fun _ => none) n1 = v1 ∧ bindC (envOfC qual scope L' f cdv).kindOf binds (fun _ => none) n2 = v2 ∧ bindC (envOfC qual scope L' f cdv).kindOf binds (fun _ => none) n3 = v3 ∧ bindC (envOfC qual scope L' f cdv).kindOf binds (fun _ => none) n4 = v4 ∧ bindC (envOfC qual scope L' f cdv).kindOf binds (fun _ => none) n5 = v5)
    (h : ∀ (dp un : Nat) (gd : Option (List Code)) (outer : List Env) (A₀ : Around) (base g sh h₁ : Heap) (L' : Addr) (tk : Nat) (gs : Array GenState) (dr : Drawn) (os : OsState) (R : Value → Shared → Prop) (o1 o2 o3 o4 o5 : Obj),
      dp + (room - 1) < recursionLimit → un + 8 * (room - 1) < cLine → (∀ p ∈ led, p.1 < L') → GSub sh g (led.map (·.1)) → Below A₀ base outer g → (hd.heap_1 w.params).In g → Top p loose mean mg mb g → 
      (∀ v h' tk' L'' m' news', Fr g L'' h' m' → News g L'' h' news' → post sh v h' → R v ⟨h', gs, dr, tk', os⟩) → o1.data = .cell v1 → o2.data = .cell v2 → o3.data = .cell v3 → o4.data = .cell v4 → o5.data = .cell v5 →
      Fr g L' h₁ m₀ → News g L' h₁ ((L' + 1 + 1 + 1 + 1 + 1, o5) :: (L' + 1 + 1 + 1 + 1, o4) :: (L' + 1 + 1 + 1, o3) :: (L' + 1 + 1, o2) :: (L' + 1, o1) :: led) →
      wpAny (model (PySem.Challenge.rw_to0087_01).row.prog w) (AX dp un gd (envOfC qual scope L' f cdv) outer) (execs body (envOfC qual scope L' f cdv)) (RetTo R) (fun _ _ => False) ⟨h₁, gs, dr, tk, os⟩) :
    Cm w p loose mean mg mb PySem.Challenge.rw_to0087_01 f room vs led post := by
  refine Cm.enterC ho hcd hr hbind hkind hnd hco hgen hk fun dp un gd outer A₀ base g sh h₁ L' tk gs dr os cells R a b c d e f' g' ret Y F' N' => ?_
  rw [hcf] at Y
  rw [hm] at F'
  obtain ⟨o5, o4, o3, o2, o1, rfl, e5, e4, e3, e2, e1⟩ := kc_five Y
  obtain ⟨c1, c2, c3, c4, c5⟩ := hcm L'
  exact h dp un gd outer A₀ base g sh h₁ L' tk gs dr os R o1 o2 o3 o4 o5 a b c d e f' g' ret (e1.trans (congrArg Data.cell c1)) (e2.trans (congrArg Data.cell c2)) (e3.trans (congrArg Data.cell c3)) (e4.trans (congrArg Data.cell c4)) (e5.trans (congrArg Data.cell c5)) F' N'
theorem Cl.enterC5 {m₀ : PySem.Str → Option Value} {n1 n2 n3 n4 n5 : PySem.Str} {v1 v2 v3 v4 v5 : Option Value} (ho : (hd.heap_1 w.params).lookup f = some ⟨oc, od, .func (fnOf name qual params body scope dV kV doc pm an cdv ct), osl⟩) (hcd : codeIn (hd.heap_1 w.params) cdv qual = true)
    (hr : 1 ≤ room) (hbind : ∀ s, BindsTo s (fnOf name qual params body scope dV kV doc pm an cdv ct) ⟨vs, []⟩ binds) (hkind : (binds.all fun y => scope.names.lookup y.1 == some .local || scope.names.lookup y.1 == some .cell) = true)
    (hnd : ((cellsFrom 0 scope.names []).map (·.1)).Nodup) (hco : scope.isCoroutine = false) (hgen : scope.isGenerator = false) (hk : scope.kind = .function)
    (hcf : ∀ L', cellsFrom (L' + 1) scope.names [] = [(n5, L' + 1 + 1 + 1 + 1 + 1), (n4, L' + 1 + 1 + 1 + 1), (n3, L' + 1 + 1 + 1), (n2, L' + 1 + 1), (n1, L' + 1)]) (hm : ∀ L', (bindL (envOfC qual scope L' f cdv).kindOf binds fun _ => none) = m₀) (hcm : ∀ L', bindC (envOfC qual scope L' f cdv).kindOf binds (fun _ => none) n1 = v1 ∧ bindC (envOfC qual scope L' f cdv).kindOf binds (fun _ => none) n2 = v2 ∧ bindC (envOfC qual scope L' f cdv).kindOf binds (fun _ => none) n3 = v3 ∧ bindC (envOfC qual scope L' f cdv).kindOf binds (fun _ => none) n4 = v4 ∧ bindC (envOfC qual scope L' f cdv).kindOf binds (fun _ => none) n5 = v5)
    (h : ∀ (dp un : Nat) (gd : Option (List Code)) (outer : List Env) (A₀ : Around) (base g h₁ : Heap) (L' : Addr) (tk : Nat) (gs : Array GenState) (dr : Drawn) (os : OsState) (R : Value → Shared → Prop) (o1 o2 o3 o4 o5 : Obj),
      dp + (room - 1) < recursionLimit → un + 8 * (room - 1) < cLine → Below A₀ base outer g → (hd.heap_1 w.params).In g → Top p loose mean mg mb g → pre g → 
      (∀ v h' tk' L'' m' news', Fr g L'' h' m' → News g L'' h' news' → post g v h' → R v ⟨h', gs, dr, tk', os⟩) → o1.data = .cell v1 → o2.data = .cell v2 → o3.data = .cell v3 → o4.data = .cell v4 → o5.data = .cell v5 →
      Fr g L' h₁ m₀ → News g L' h₁ ([(L' + 1 + 1 + 1 + 1 + 1, o5), (L' + 1 + 1 + 1 + 1, o4), (L' + 1 + 1 + 1, o3), (L' + 1 + 1, o2), (L' + 1, o1)]) →
      wpAny (model (PySem.Challenge.rw_to0087_01).row.prog w) (AX dp un gd (envOfC qual scope L' f cdv) outer) (execs body (envOfC qual scope L' f cdv)) (RetTo R) (fun _ _ => False) ⟨h₁, gs, dr, tk, os⟩) :
    Cl w p loose mean mg mb PySem.Challenge.rw_to0087_01 f room vs pre post := by
  refine Cl.enterC ho hcd hr hbind hkind hnd hco hgen hk fun dp un gd outer A₀ base g h₁ L' tk gs dr os cells R a b c d e pr ret Y F' N' => ?_
  rw [hcf] at Y
  rw [hm] at F'
  obtain ⟨o5, o4, o3, o2, o1, rfl, e5, e4, e3, e2, e1⟩ := kc_five Y
  obtain ⟨c1, c2, c3, c4, c5⟩ := hcm L'
  exact h dp un gd outer A₀ base g h₁ L' tk gs dr os R o1 o2 o3 o4 o5 a b c d e pr ret (e1.trans (congrArg Data.cell c1)) (e2.trans (congrArg Data.cell c2)) (e3.trans (congrArg Data.cell c3)) (e4.trans (congrArg Data.cell c4)) (e5.trans (congrArg Data.cell c5)) F' N'
theorem Cm.enterC1 {m₀ : PySem.Str → Option Value} {n1 : PySem.Str} {v1 : Option Value} (ho : (hd.heap_1 w.params).lookup f = some ⟨oc, od, .func (fnOf name qual params body scope dV kV doc pm an cdv ct), osl⟩) (hcd : codeIn (hd.heap_1 w.params) cdv qual = true)
    (hr : 1 ≤ room) (hbind : ∀ s, BindsTo s (fnOf name qual params body scope dV kV doc pm an cdv ct) ⟨vs, []⟩ binds) (hkind : (binds.all fun y => scope.names.lookup y.1 == some .local || scope.names.lookup y.1 == some .cell) = true)
    (hnd : ((cellsFrom 0 scope.names []).map (·.1)).Nodup) (hco : scope.isCoroutine = false) (hgen : scope.isGenerator = false) (hk : scope.kind = .function)
    (hcf : ∀ L', cellsFrom (L' + 1) scope.names [] = [(n1, L' + 1)]) (hm : ∀ L', (bindL (envOfC qual scope L' f cdv).kindOf binds fun _ => none) = m₀) (hcm : ∀ L', bindC (envOfC qual scope L' f cdv).kindOf binds (fun _ => none) n1 = v1)
    (h : ∀ (dp un : Nat) (gd : Option (List Code)) (outer : List Env) (A₀ : Around) (base g sh h₁ : Heap) (L' : Addr) (tk : Nat) (gs : Array GenState) (dr : Drawn) (os : OsState) (R : Value → Shared → Prop) (o1 : Obj),
      dp + (room - 1) < recursionLimit → un + 8 * (room - 1) < cLine → (∀ p ∈ led, p.1 < L') → GSub sh g (led.map (·.1)) → Below A₀ base outer g → (hd.heap_1 w.params).In g → Top p loose mean mg mb g → 
      (∀ v h' tk' L'' m' news', Fr g L'' h' m' → News g L'' h' news' → post sh v h' → R v ⟨h', gs, dr, tk', os⟩) → o1.data = .cell v1 →
      Fr g L' h₁ m₀ → News g L' h₁ ((L' + 1, o1) :: led) →
      wpAny (model (PySem.Challenge.rw_to0087_01).row.prog w) (AX dp un gd (envOfC qual scope L' f cdv) outer) (execs body (envOfC qual scope L' f cdv)) (RetTo R) (fun _ _ => False) ⟨h₁, gs, dr, tk, os⟩) :
    Cm w p loose mean mg mb PySem.Challenge.rw_to0087_01 f room vs led post := by
  refine Cm.enterC ho hcd hr hbind hkind hnd hco hgen hk fun dp un gd outer A₀ base g sh h₁ L' tk gs dr os cells R a b c d e f' g' ret Y F' N' => ?_
  rw [hcf] at Y
  rw [hm] at F'
  obtain ⟨o1, rfl, e1⟩ := Y.one
  have c1 := hcm L'
  exact h dp un gd outer A₀ base g sh h₁ L' tk gs dr os R o1 a b c d e f' g' ret (e1.trans (congrArg Data.cell c1)) F' N'
end
section
variable {prog : Program} {w : World} {A : Around} {E : Value → Shared → Prop} {h₀ : Heap} {env : Env} {target : Expr} {body : List Stmt} {Q : Flow → Shared → Prop} {s : Shared} {keep : List (Addr × Obj)}
/-- a loop over written items by a relation, each turn's end a letter -/
theorem items_il {ι : Type} {ws : List (Addr × String)} (itm : ι → Itm) (J : List ι → (PySem.Str → Option Value) → List (Addr × Obj) → Prop) (xs : List ι) {ys : List Itm} {m₀ : PySem.Str → Option Value} {n₀ : List (Addr × Obj)} (hy : ys = xs.map itm)
    (hJ : J xs m₀ n₀)
    (step : ∀ (x : ι) (r : List ι) (m : PySem.Str → Option Value) (n : List (Addr × Obj)), J (x :: r) m n → ∀ (v : Value) (h : Heap), (itm x).Is v h → ∀ (gs : Array GenState) (dr : Drawn) (tk : Nat) (os : OsState), Fr h₀ env.locals h m → AllObj ws (fun its => ∀ (R : Flow → Shared → Prop), News h₀ env.locals h (its ++ n) →
      (∀ h' tk' m' n', Fr h₀ env.locals h' m' → News h₀ env.locals h' (its ++ n') → (∀ p ∈ n', ∀ q ∈ its, p.1 ≠ q.1) → SubL keep n' → J r m' n' → R .next ⟨h', gs, dr, tk', os⟩) → (∀ v h' tk', Q (.ret v) { s with heap := h', toks := tk' } → R (.ret v) ⟨h', gs, dr, tk', os⟩) →
      wpAny (model prog w) A (assign target env v) (fun _ s₂ => wpAny (model prog w) A (execs body env) R E s₂) E ⟨h, gs, dr, tk, os⟩))
    (done : ∀ (m : PySem.Str → Option Value) (n : List (Addr × Obj)), J [] m n → ∀ h tk, Fr h₀ env.locals h m → News h₀ env.locals h n → Q .next { s with heap := h, toks := tk }) :
    ItemsRest prog w A E h₀ env target body Q s ws keep ys m₀ n₀ := by
  subst hy
  have go : ∀ (xs : List ι) m n, J xs m n → ItemsRest prog w A E h₀ env target body Q s ws keep (xs.map itm) m n := by
    intro xs
    induction xs with
    | nil => exact fun m n hj => done m n hj
    | cons x r ih =>
      intro m n hj v h tk ha F
      refine allObj_mono (fun its y N => ?_) (step x r m n hj v h ha s.gens s.drawn tk s.os F)
      exact y (UnrPostW h₀ env.locals { s with heap := h, toks := tk } its (fun m' n' => SubL keep n' ∧ ItemsRest prog w A E h₀ env target body Q s ws keep (r.map itm) m' n') Q) N (fun h' tk' m' n' F' N' a b c => ⟨h', tk', m', n', rfl, F', N', a, b, ih m' n' c⟩) fun _ _ _ z => z
  exact go xs m₀ n₀ hJ
end
section
variable {prog : Program} {w : World} {A : Around} {E : Value → Shared → Prop} {h₀ : Heap} {env : Env} {target : Expr} {body : List Stmt} {Q : Flow → Shared → Prop} {s : Shared} {keep : List (Addr × Obj)}
/-- the same with one iterator, each turn's value told by a function of the item (and a token) -/
theorem items_i1 {ι : Type} {I : Addr} {T : String} (itm : ι → Itm) (vl : ι → Tok → Value) (J : Addr → List ι → (PySem.Str → Option Value) → List (Addr × Obj) → Prop) (xs : List ι) {ys : List Itm} (L : Addr) (hL : env.locals = L) {m₀ : PySem.Str → Option Value} {n₀ : List (Addr × Obj)} (hy : ys = xs.map itm)
    (hv : ∀ x v h, (itm x).Is v h → ∃ t, v = vl x t) (hJ : J I xs m₀ n₀)
    (step : ∀ (x : ι) (r : List ι) (m : PySem.Str → Option Value) (n : List (Addr × Obj)), J I (x :: r) m n → ∀ (t : Tok) (h : Heap) (gs : Array GenState) (dr : Drawn) (tk : Nat) (os : OsState) (oI : Obj) (R : Flow → Shared → Prop), oI.cls = .type T →
      (∀ h' tk' m' n', Fr h₀ L h' m' → News h₀ L h' ((I, oI) :: n') → (∀ p ∈ n', p.1 ≠ I) → SubL keep n' → J I r m' n' → R .next ⟨h', gs, dr, tk', os⟩) →
      Fr h₀ L h m → News h₀ L h ((I, oI) :: n) →
      wpAny (model prog w) A (assign target env (vl x t)) (fun _ s₂ => wpAny (model prog w) A (execs body env) R E s₂) E ⟨h, gs, dr, tk, os⟩)
    (done : ∀ (m : PySem.Str → Option Value) (n : List (Addr × Obj)), J I [] m n → ∀ h tk, Fr h₀ L h m → News h₀ L h n → Q .next { s with heap := h, toks := tk }) :
    ItemsRest prog w A E h₀ env target body Q s [(I, T)] keep ys m₀ n₀ := by
  subst hL
  exact items_il itm (J I) xs hy hJ (fun x r m n j v h hx gs dr tk os F => AllObj.cons fun oI ho => AllObj.nil fun R N hend _ => by
    obtain ⟨t, rfl⟩ := hv x v h hx
    exact step x r m n j t h gs dr tk os oI R ho (fun h' tk' m' n' F' N' off sub j' => hend h' tk' m' n' F' N' (fun p hp q hq => by rw [List.mem_singleton.mp hq]; exact off p hp) sub j') F N) done
/-- the same, a turn that may leave by return -/
theorem items_i1r {ι : Type} {I : Addr} {T : String} (itm : ι → Itm) (vl : ι → Tok → Value) (J : Addr → List ι → (PySem.Str → Option Value) → List (Addr × Obj) → Prop) (xs : List ι) {ys : List Itm} (L : Addr) (hL : env.locals = L) {m₀ : PySem.Str → Option Value} {n₀ : List (Addr × Obj)} (hy : ys = xs.map itm)
    (hv : ∀ x v h, (itm x).Is v h → ∃ t, v = vl x t) (hJ : J I xs m₀ n₀)
    (step : ∀ (x : ι) (r : List ι) (m : PySem.Str → Option Value) (n : List (Addr × Obj)), J I (x :: r) m n → ∀ (t : Tok) (h : Heap) (gs : Array GenState) (dr : Drawn) (tk : Nat) (os : OsState) (oI : Obj) (R : Flow → Shared → Prop), oI.cls = .type T →
      (∀ h' tk' m' n', Fr h₀ L h' m' → News h₀ L h' ((I, oI) :: n') → (∀ p ∈ n', p.1 ≠ I) → SubL keep n' → J I r m' n' → R .next ⟨h', gs, dr, tk', os⟩) → (∀ v h' tk', Q (.ret v) { s with heap := h', toks := tk' } → R (.ret v) ⟨h', gs, dr, tk', os⟩) →
      Fr h₀ L h m → News h₀ L h ((I, oI) :: n) →
      wpAny (model prog w) A (assign target env (vl x t)) (fun _ s₂ => wpAny (model prog w) A (execs body env) R E s₂) E ⟨h, gs, dr, tk, os⟩)
    (done : ∀ (m : PySem.Str → Option Value) (n : List (Addr × Obj)), J I [] m n → ∀ h tk, Fr h₀ L h m → News h₀ L h n → Q .next { s with heap := h, toks := tk }) :
    ItemsRest prog w A E h₀ env target body Q s [(I, T)] keep ys m₀ n₀ := by
  subst hL
  exact items_il itm (J I) xs hy hJ (fun x r m n j v h hx gs dr tk os F => AllObj.cons fun oI ho => AllObj.nil fun R N hend hret => by
    obtain ⟨t, rfl⟩ := hv x v h hx
    exact step x r m n j t h gs dr tk os oI R ho (fun h' tk' m' n' F' N' off sub j' => hend h' tk' m' n' F' N' (fun p hp q hq => by rw [List.mem_singleton.mp hq]; exact off p hp) sub j') hret F N) done
/-- less of the ledger is enough -/
theorem items_sub {ws : List (Addr × String)} {n n' : List (Addr × Obj)} {m : PySem.Str → Option Value} (hs : ∀ p ∈ n, p ∈ n') : ∀ {xs : List Itm}, ItemsRest prog w A E h₀ env target body Q s ws keep xs m n → ItemsRest prog w A E h₀ env target body Q s ws keep xs m n'
  | [], x => fun h tk F N => x h tk F fun p hp => N p (hs p hp)
  | _ :: _, x => fun v h tk ha F => allObj_mono (fun its y N => y fun p hp => N p (by
      rcases List.mem_append.mp hp with hp | hp
      · exact List.mem_append_left _ hp
      · exact List.mem_append_right _ (hs p hp))) (x v h tk ha F)
theorem is_val {ι : Type} {f : ι → Value} (x : ι) (v : Value) (h : Heap) (e : (Itm.val (f x)).Is v h) : ∃ _ : Tok, v = f x := ⟨0, e⟩
theorem is_tok {ι : Type} {f : ι → Tok → Value} (x : ι) (v : Value) (h : Heap) (e : (Itm.tok (f x)).Is v h) : ∃ t, v = f x t := e
end
/-- a while by a relation and a measure, each turn's ends letters -/
theorem while_il {prog : Program} {w : World} {A : Around} {E : Value → Shared → Prop} {Q : Flow → Shared → Prop} {s : Shared} {env : Env} {h₀ : Heap} {L : Addr} {test : Expr} {body : List Stmt} {pos : Pos} {m₀ : PySem.Str → Option Value} {n₀ n₁ : List (Addr × Obj)} (J : Nat → (PySem.Str → Option Value) → List (Addr × Obj) → Prop) (Dn : Nat → (PySem.Str → Option Value) → List (Addr × Obj) → Prop) {k₀ : Nat}
    (F : Fr h₀ L s.heap m₀) (N : News h₀ L s.heap n₁) (hs : ∀ p ∈ n₀, p ∈ n₁) (hJ : J k₀ m₀ n₀)
    (turn : ∀ k m n, J k m n → ∀ (h : Heap) (gs : Array GenState) (dr : Drawn) (tk : Nat) (os : OsState) (R : Flow → Shared → Prop) (R0 : Shared → Prop),
      (∀ k' h' tk' m' n', k' < k → Fr h₀ L h' m' → News h₀ L h' n' → J k' m' n' → R .next ⟨h', gs, dr, tk', os⟩) → (∀ v h' tk', Q (.ret v) { s with heap := h', toks := tk' } → R (.ret v) ⟨h', gs, dr, tk', os⟩) → (∀ h' tk', Fr h₀ L h' m → News h₀ L h' n → Dn k m n → R0 ⟨h', gs, dr, tk', os⟩) → Fr h₀ L h m → News h₀ L h n →
      wpAny (model prog w) A (isTrue test env (eval test env)) (fun b s₂ => if b = true then wpAny (model prog w) A (execs body env) R E s₂ else R0 s₂) E ⟨h, gs, dr, tk, os⟩)
    (done : ∀ k m n, Dn k m n → ∀ h tk, Fr h₀ L h m → News h₀ L h n → Q .next { s with heap := h, toks := tk })
    (hE : PassesOwn (model prog w) A env E := by passes_own) :
    wpAny (model prog w) A (exec (.While test body [] pos) env) Q E s :=
  While_inv2 J F (fun p hp => N p (hs p hp)) hJ (fun k m n h tk F' N' j => turn k m n j h s.gens s.drawn tk s.os (WhileStep2 h₀ L s J Q k) (fun s₂ => Q .next s₂)
    (fun k' h' tk' m' n' lt F2 N2 j2 => ⟨h', tk', m', n', k', rfl, F2, N2, lt, j2⟩) (fun _ _ _ x => x) (fun h' tk' F2 N2 d => done k m n d h' tk' F2 N2) F' N') hE
theorem ld_via {M : Model} {A : Around} {E : Value → Shared → Prop} {s : Shared} {name x : PySem.Str} {scope : Scope} {L a : Addr} {cd v : Value} {h₀ : Heap} {m m₁ : PySem.Str → Option Value} {pos : Pos} {Q : Value → Shared → Prop} (F : Fr h₀ L s.heap m) (hm : m₁ x = some v) (e : m x = m₁ x) (h : Q v s)
    (hk : scope.kind = .function := by rfl) (hl : (envOf name scope L a cd).kindOf x = some .local := by rfl) (hd : (x == ("__debug__" : PySem.Str)) = false := by decide) :
    wpAny M A (eval (.Name x pos) (envOf name scope L a cd)) Q E s := ld F (e.trans hm) h hk hl hd
theorem nameX_via {M : Model} {A : Around} {E : Value → Shared → Prop} {s : Shared} {cn x : PySem.Str} {cs : Scope} {L a : Addr} {ccd v : Value} {cl : List (PySem.Str × Addr)} {h₀ : Heap} {m m₁ : PySem.Str → Option Value} {pos : Pos} {Q : Value → Shared → Prop} (F : Fr h₀ L s.heap m) (hm : m₁ x = some v) (e : m x = m₁ x) (h : Q v s)
    (hk : cs.kind = .function := by rfl) (hx : (envX cn cs L a ccd cl).kindOf x = some .local := by rfl) (hd : (x == ("__debug__" : PySem.Str)) = false := by decide) :
    wpAny M A (eval (.Name x pos) (envX cn cs L a ccd cl)) Q E s := nameX_L F (e.trans hm) h hk hx hd
theorem loadX_via {M : Model} {A : Around} {E : Value → Shared → Prop} {s : Shared} {cn x : PySem.Str} {cs : Scope} {L a : Addr} {ccd v : Value} {cl : List (PySem.Str × Addr)} {h₀ : Heap} {m m₁ : PySem.Str → Option Value} {Q : Value → Shared → Prop} (F : Fr h₀ L s.heap m) (hm : m₁ x = some v) (e : m x = m₁ x) (h : Q v s)
    (hk : cs.kind = .function := by rfl) (hx : (envX cn cs L a ccd cl).kindOf x = some .local := by rfl) :
    wpAny M A (loadName (envX cn cs L a ccd cl) x) Q E s := wpAny_loadName_local hk hx F.ns (e.trans hm) h
/-- an object of another class lies elsewhere -/
theorem ne_cls {g h : Heap} {L a b : Addr} {o o' : Obj} {all : List (Addr × Obj)} (N : News g L h all) (ha : (a, o) ∈ all) (hb : (b, o') ∈ all) (hc : o.cls ≠ o'.cls) : a ≠ b := fun e => by
  have h1 := (N _ ha).1
  have h2 := (N _ hb).1
  dsimp only at h1 h2
  rw [e, h2] at h1
  exact hc (congrArg Obj.cls (Option.some.inj h1)).symm
theorem news_dup {h₀ h : Heap} {L : Addr} {n : List (Addr × Obj)} {q : Addr × Obj} (N : News h₀ L h n) (hq : q ∈ n) : News h₀ L h (q :: n) := fun p hp => by
  rcases List.mem_cons.mp hp with rfl | hp
  · exact N _ hq
  · exact N _ hp
/-- a place in a ledger is not a later one -/
theorem ne_old {D a : Addr} {o : Obj} {l : List (Addr × Obj)} (h : ∀ p ∈ l, p.1 < D) (m : (a, o) ∈ l) : @Ne Nat a D := Nat.ne_of_lt (h _ m)
theorem ne_new {D a : Addr} {o : Obj} {l : List (Addr × Obj)} (h : ∀ p ∈ l, p.1 < D) (m : (a, o) ∈ l) : @Ne Nat D a := Nat.ne_of_gt (h _ m)
theorem off_map {I : Addr} {l l' : List (Addr × Obj)} (h : ∀ p ∈ l, p.1 < I) (e : l'.map (·.1) = l.map (·.1)) : ∀ p ∈ l', p.1 ≠ I := fun p hp => by
  have : p.1 ∈ l.map (·.1) := e ▸ List.mem_map_of_mem hp
  obtain ⟨q, hq, e⟩ := List.mem_map.mp this
  exact e ▸ Nat.ne_of_lt (h q hq)
theorem news_tl {g h : Heap} {L : Addr} {p : Addr × Obj} {l : List (Addr × Obj)} (N : News g L h (p :: l)) : News g L h l := fun q hq => N q (List.mem_cons_of_mem _ hq)
theorem news_tl2 {g h : Heap} {L : Addr} {p q : Addr × Obj} {l : List (Addr × Obj)} (N : News g L h (p :: q :: l)) : News g L h l := news_tl (news_tl N)
section
variable {prog : Program} {w : World} {A : Around} {h₀ : Heap} {L : Addr} {m : PySem.Str → Option Value} {env : Env}
/-- a comprehension by what holds of what it has gathered, the ledger staying as it is; each turn's end a letter -/
theorem rest_il {elt : Expr} {x : PySem.Str} {scope : Scope} {cl : List (PySem.Str × Addr)} {s : Shared} {S : List (Addr × Obj) → Prop} {P : Nat → Value → Prop} {Fin : List Value → List (Addr × Obj) → Prop} {n : Nat} {news : List (Addr × Obj)} (G : Nat → List Value → Prop)
    (hS : S news) (h0 : G 0 []) (hf : ∀ ys, G n ys → Fin ys news)
    (step : ∀ i, i < n → ∀ ys, G i ys → ∀ v, P i v → ∀ (I : Addr) (oI : Obj) (C : Addr) (oC : Obj) (D : Addr) (m₂ : PySem.Str → Option Value) (h : Heap) (gs : Array GenState) (dr : Drawn) (tk : Nat) (os : OsState) (E' R : Value → Shared → Prop), NsObj oC m₂ → m₂ x = some v → Fr h₀ L h m → News h₀ L h ((I, oI) :: (C, oC) :: (D, lst ys) :: news) → Off3 I C D news → ((@Ne Nat I C) ∧ (@Ne Nat I D) ∧ (@Ne Nat C D)) →
      (∀ y h' tk', Fr h₀ L h' m → News h₀ L h' ((I, oI) :: (C, oC) :: (D, lst ys) :: news) → G (i + 1) (ys ++ [y]) → R y ⟨h', gs, dr, tk', os⟩) →
      wpAny (model prog w) A (eval elt (compEnvC scope cl C env)) R E' ⟨h, gs, dr, tk, os⟩) :
    CompRest prog w A h₀ L m env elt x scope cl s S P Fin n 0 [] news :=
  rest_rel G h0 hf fun i hi ys hg v I oI C oC D m₂ h tk E' hv hC hx F N off ne =>
    step i hi ys hg v hv I oI C oC D m₂ h s.gens s.drawn tk s.os E' _ hC hx F N off ne fun _ h' tk' F' N' g => ⟨h', tk', news, rfl, F', N', off, hS, rfl, g⟩
theorem restT_il {ct elt : Expr} {x : PySem.Str} {scope : Scope} {cl : List (PySem.Str × Addr)} {s : Shared} {S : List (Addr × Obj) → Prop} {P : Nat → Value → Prop} {Fin : List Value → List (Addr × Obj) → Prop} {n : Nat} {news : List (Addr × Obj)} (G : Nat → List Value → Prop)
    (hS : S news) (h0 : G 0 []) (hf : ∀ ys, G n ys → Fin ys news)
    (step : ∀ i, i < n → ∀ ys, G i ys → ∀ v, P i v → ∀ (I : Addr) (oI : Obj) (C : Addr) (oC : Obj) (D : Addr) (m₂ : PySem.Str → Option Value) (h : Heap) (gs : Array GenState) (dr : Drawn) (tk : Nat) (os : OsState) (E' R : Value → Shared → Prop) (R0 : Shared → Prop), NsObj oC m₂ → m₂ x = some v → Fr h₀ L h m → News h₀ L h ((I, oI) :: (C, oC) :: (D, lst ys) :: news) → Off3 I C D news → ((@Ne Nat I C) ∧ (@Ne Nat I D) ∧ (@Ne Nat C D)) →
      (∀ y h' tk', Fr h₀ L h' m → News h₀ L h' ((I, oI) :: (C, oC) :: (D, lst ys) :: news) → G (i + 1) (ys ++ [y]) → R y ⟨h', gs, dr, tk', os⟩) →
      (∀ h' tk', Fr h₀ L h' m → News h₀ L h' ((I, oI) :: (C, oC) :: (D, lst ys) :: news) → G (i + 1) ys → R0 ⟨h', gs, dr, tk', os⟩) →
      wpAny (model prog w) A (isTrue ct (compEnvC scope cl C env) (eval ct (compEnvC scope cl C env))) (fun ok s' => if ok = true then wpAny (model prog w) A (eval elt (compEnvC scope cl C env)) R E' s' else R0 s') E' ⟨h, gs, dr, tk, os⟩) :
    CompRestT prog w A h₀ L m env ct elt x scope cl s S P Fin n 0 [] news :=
  restT_rel G h0 hf fun i hi ys hg v I oI C oC D m₂ h tk E' hv hC hx F N off ne =>
    step i hi ys hg v hv I oI C oC D m₂ h s.gens s.drawn tk s.os E' _ _ hC hx F N off ne (fun _ h' tk' F' N' g => ⟨h', tk', news, rfl, F', N', off, hS, rfl, g⟩) fun h' tk' F' N' g => ⟨h', tk', news, rfl, F', N', off, hS, rfl, g⟩
end
end Mine
end
/-! # Ttyped -/
section
theorem Mine.reset_Ttyped : True := by (w_top off); k_with_none; trivial
open PySem PySem.W PyProof.Rows
set_option Elab.async false
set_option maxRecDepth 100000
set_option maxHeartbeats 400000000
namespace Mine

/-- a goal as it is typed: small, great, mathematical, behind a sign of table B.1 -/
noncomputable def typedP (p x : Int) : PySem.Str :=
  if x.fmod 4 = 0 then Txt.item (PySem.Str.ofString "abcd") p else if x.fmod 4 = 1 then Txt.item (PySem.Str.ofString "ABCD") p else
  if x.fmod 4 = 2 then ⟨#[(120172 + 52 * ((x.fdiv 4).fmod 6) + p).toNat]⟩ else ⟨#[(65024 + (x.fdiv 4).fmod 16).toNat]⟩ ++ Txt.item (PySem.Str.ofString "abcd") p
theorem t_typed (w : World) {p : Program} {loose : List PySem.Str} {mean : ExcName → Option Value} {mg mb : PySem.Str → Option Value} (a b : Int) (ta tb : Tok) (h0 : 0 ≤ a) (h1 : a < 4) (h2 : 0 ≤ b) (h3 : b < 1000000000) :
    Cl w p loose mean mg mb PySem.Challenge.rw_to0087_01 311 6 [.int a ta, .int b tb] (fun _ => True) (fun _ v _ => ∃ t, v = .str (typedP a b) t) := by
  k_dflt (refine' Cl.enter (binds := [(PySem.Str.ofString "place", .int a ta), (PySem.Str.ofString "x", .int b tb)]) ?ho ?hcd ?hr ?hb ?hloc ?c2 ?c3 ?c4 ?c5 ?h); all_goals (try k_fill)
  case ho => k_is
  case hcd => k_is
  case hr => decide
  case hb => exact fun s => BindsTo.of_eq rfl
  case hloc => exact locs rfl
  case c2 => exact rfl
  case c3 => exact rfl
  case c4 => exact rfl
  case c5 => decide
  intro dp un gd outer A₀ base g h' L' tk gs dr os R hdp hun B' X' T' hpre hret F' N'
  (try dsimp only)
  w_strict k_steps
  all_goals rename (b.fmod 4 = _) => hm
  all_goals exact hret _ _ _ _ _ _ (by k_asm) (by k_asm) (mkS (by simp [typedP, hm]))
end Mine
end
/-! # Re2 -/
section
open PySem PySem.W PyProof.Rows PySem.Builtin PySem.Builtin.Re
set_option Elab.async false
set_option maxRecDepth 100000
set_option maxHeartbeats 400000000
namespace Mine
/-- the codes of the two patterns -/
noncomputable def cdN (P : Params) : Array Nat := match (o160v6 P).data with | .seq xs _ => (xs.map reRawOf).map Int.toNat | _ => #[]
noncomputable def cdV (P : Params) : Array Nat := match (o165v6 P).data with | .seq xs _ => (xs.map reRawOf).map Int.toNat | _ => #[]
section
variable {prog : Program} {w : World} {A : Around} {E : Value → Shared → Prop} {s : Shared} {h₀ : Heap} {P : Params} {x : PySem.Str} {t : Tok}
theorem look160 (P : Params) : (hd.heap_1 P).lookup 160 = some (o160v6 P) := by kernel_rfl
theorem look161 (P : Params) : (hd.heap_1 P).lookup 161 = some (o161v6 P) := by kernel_rfl
theorem look165 (P : Params) : (hd.heap_1 P).lookup 165 = some (o165v6 P) := by kernel_rfl
theorem look166 (P : Params) : (hd.heap_1 P).lookup 166 = some (o166v6 P) := by kernel_rfl
theorem getMethod_161 {pl : Sem Bool} {Q : Value × List Value → Shared → Prop} (X : (hd.heap_1 P).In h₀) (hk : ∀ b o, h₀.get? b = some o → s.heap.get? b = some o) (h : Q (.builtin "re.Pattern.search", [.ref 161]) s) :
    wpAny (model prog w) A (getMethod (.ref 161) "search" pl) Q E s :=
  have e := hk _ _ (X _ _ (look161 P))
  getMethod_builtin (T := "re.Pattern") ⟨_, e, rfl⟩ plainAttrs_pat slot_pat_search type_pat_search (fun a q => by cases q; exact ⟨_, e, rfl⟩) h
theorem getMethod_166 {pl : Sem Bool} {Q : Value × List Value → Shared → Prop} (X : (hd.heap_1 P).In h₀) (hk : ∀ b o, h₀.get? b = some o → s.heap.get? b = some o) (h : Q (.builtin "re.Pattern.search", [.ref 166]) s) :
    wpAny (model prog w) A (getMethod (.ref 166) "search" pl) Q E s :=
  have e := hk _ _ (X _ _ (look166 P))
  getMethod_builtin (T := "re.Pattern") ⟨_, e, rfl⟩ plainAttrs_pat slot_pat_search type_pat_search (fun a q => by cases q; exact ⟨_, e, rfl⟩) h
theorem search_161 {Q : Value → Shared → Prop} (X : (hd.heap_1 P).In h₀) (hk : ∀ b o, h₀.get? b = some o → s.heap.get? b = some o) (hok : clean (cdN P) x.cps = true) (hx : x.cps.size < 1000) (h : Q .none s) :
    wpAny (model prog w) A (call (.builtin "re.Pattern.search") [.ref 161, .str x t]) Q E s :=
  search_none (hk _ _ (X _ _ (look161 P))) rfl rfl (hk _ _ (X _ _ (look160 P))) rfl hok hx h
theorem search_166 {Q : Value → Shared → Prop} (X : (hd.heap_1 P).In h₀) (hk : ∀ b o, h₀.get? b = some o → s.heap.get? b = some o) (hok : clean (cdV P) x.cps = true) (hx : x.cps.size < 1000) (h : Q .none s) :
    wpAny (model prog w) A (call (.builtin "re.Pattern.search") [.ref 166, .str x t]) Q E s :=
  search_none (hk _ _ (X _ _ (look166 P))) rfl rfl (hk _ _ (X _ _ (look165 P))) rfl hok hx h
end
/-- a typed goal by its small numbers -/
noncomputable def typedV (p m j k : Nat) : PySem.Str :=
  if m = 0 then Txt.item (PySem.Str.ofString "abcd") p else if m = 1 then Txt.item (PySem.Str.ofString "ABCD") p else
  if m = 2 then ⟨#[120172 + 52 * j + p]⟩ else ⟨#[65024 + k]⟩ ++ Txt.item (PySem.Str.ofString "abcd") p
theorem typedP_V {p x : Int} (h0 : 0 ≤ p) (h1 : p < 4) : ∃ p' m j k : Nat, p' < 4 ∧ m < 4 ∧ j < 6 ∧ k < 16 ∧ p = p' ∧ x.fmod 4 = m ∧ typedP p x = typedV p' m j k := by
  have a0 := fmod_lo x (n := 4) (by decide)
  have a1 := fmod_hi x (n := 4) (by decide)
  have b0 := fmod_lo (x.fdiv 4) (n := 6) (by decide)
  have b1 := fmod_hi (x.fdiv 4) (n := 6) (by decide)
  have c0 := fmod_lo (x.fdiv 4) (n := 16) (by decide)
  have c1 := fmod_hi (x.fdiv 4) (n := 16) (by decide)
  unfold typedP typedV
  generalize x.fmod 4 = m at *
  generalize (x.fdiv 4).fmod 6 = j at *
  generalize (x.fdiv 4).fmod 16 = k at *
  obtain ⟨p, rfl⟩ := Int.eq_ofNat_of_zero_le h0
  obtain ⟨m, rfl⟩ := Int.eq_ofNat_of_zero_le a0
  obtain ⟨j, rfl⟩ := Int.eq_ofNat_of_zero_le b0
  obtain ⟨k, rfl⟩ := Int.eq_ofNat_of_zero_le c0
  refine ⟨p, m, j, k, by omega, by omega, by omega, by omega, rfl, rfl, ?_⟩
  have e0 : ((m : Int) = 0) = (m = 0) := propext ⟨fun h => by omega, fun h => by omega⟩
  have e1 : ((m : Int) = 1) = (m = 1) := propext ⟨fun h => by omega, fun h => by omega⟩
  have e2 : ((m : Int) = 2) = (m = 2) := propext ⟨fun h => by omega, fun h => by omega⟩
  have e3 : (120172 + 52 * (j : Int) + (p : Int)).toNat = 120172 + 52 * j + p := by omega
  have e4 : (65024 + (k : Int)).toNat = 65024 + k := by omega
  simp only [e0, e1, e2, e3, e4]
/-- the typed forms without what they do not tell -/
noncomputable def triV : List (Nat × Nat × Nat) := (0, 0, 0) :: (1, 0, 0) :: (((List.range 6).map fun j => (2, j, 0)) ++ (List.range 16).map fun k => (3, 0, k))
theorem tri_of {p m j k : Nat} (hm : m < 4) (hj : j < 6) (hk : k < 16) : ∃ t ∈ triV, typedV p m j k = typedV p t.1 t.2.1 t.2.2 := by
  match m, hm with
  | 0, _ => exact ⟨_, .head _, rfl⟩
  | 1, _ => exact ⟨_, .tail _ (.head _), rfl⟩
  | 2, _ => exact ⟨(2, j, 0), .tail _ (.tail _ (List.mem_append_left _ (List.mem_map.mpr ⟨j, List.mem_range.mpr hj, rfl⟩))), rfl⟩
  | 3, _ => exact ⟨(3, 0, k), .tail _ (.tail _ (List.mem_append_right _ (List.mem_map.mpr ⟨k, List.mem_range.mpr hk, rfl⟩))), rfl⟩
noncomputable def allV (f : Nat → Nat → Nat → Nat → Bool) : Bool := (List.range 4).all fun p => triV.all fun t => f p t.1 t.2.1 t.2.2
theorem clean_all (P : Params) : allV (fun p m j k => clean (cdV P) (typedV p m j k).cps && decide ((typedV p m j k).cps.size < 3)) = true := by kernel_rfl
theorem clean_typed (P : Params) {p x : Int} (h0 : 0 ≤ p) (h1 : p < 4) : clean (cdV P) (typedP p x).cps = true ∧ (typedP p x).cps.size < 3 := by
  obtain ⟨p', m, j, k, hp, hm, hj, hk, _, _, e⟩ := typedP_V (x := x) h0 h1
  obtain ⟨t, ht, e2⟩ := tri_of (p := p') hm hj hk
  have z := List.all_eq_true.mp (List.all_eq_true.mp (clean_all P) p' (List.mem_range.mpr hp)) t ht
  simp only [Bool.and_eq_true, decide_eq_true_eq] at z
  rw [e, e2]; exact z
theorem size_all : allV (fun p m j k => decide ((typedV p m j k).cps.size < 3)) = true := by kernel_rfl
theorem size_typed {p x : Int} (h0 : 0 ≤ p) (h1 : p < 4) : (typedP p x).cps.size < 3 := by
  obtain ⟨p', m, j, k, hp, hm, hj, hk, _, _, e⟩ := typedP_V (x := x) h0 h1
  obtain ⟨t, ht, e2⟩ := tri_of (p := p') hm hj hk
  have z := List.all_eq_true.mp (List.all_eq_true.mp size_all p' (List.mem_range.mpr hp)) t ht
  simp only [decide_eq_true_eq] at z
  rw [e, e2]; exact z
end Mine
end
/-! # Taddh -/
section
theorem Mine.reset_Taddh : True := by (w_top off); k_with_none; trivial
open PySem PySem.W PyProof.Rows
set_option Elab.async false
set_option maxRecDepth 100000
set_option maxHeartbeats 400000000
namespace Mine

/-- a header as it is kept -/
noncomputable def TupP (k v : PySem.Str) (_ : Addr) (o : Obj) : Prop := ∃ t₁ t₂, o = { cls := .type "tuple", data := .seq #[.str k t₁, .str v t₂] }
theorem join_single {prog : Program} {w : World} {A : Around} {E : Value → Shared → Prop} {s : Shared} {D : Addr} {items : Array Value} {x sep : PySem.Str} {t : Tok} {Q : Value → Shared → Prop} (hl : s.heap.IsList D items) (hi : StrsAre items.toList [x]) (hsep : sep.length ≤ 16) (hx : x.cps.size < 3) (h : ∀ t' k, Q (.str x t') { s with toks := k }) :
    wpAny (model prog w) A (call (.builtin "str.join") [.str sep t, .ref D]) Q E s :=
  join_listW hl hi hsep (by
    have : x.length = x.cps.size := rfl
    simp only [List.map_cons, List.map_nil, List.sum_cons, List.sum_nil, List.length_cons, List.length_nil]; omega) fun t' k => by
    have e : Txt.join sep [x] = x := by
      show Builtin.Str.glued _ _ = _
      rw [StrLaws.glued_eq_join]
      rfl
    rw [e]; exact h t' k
section
theorem t_addh (w : World) {p : Program} {loose : List PySem.Str} {mean : ExcName → Option Value} {mg mb : PySem.Str → Option Value} (x d l : Addr) (items : Array Value) (n : Nat) (k v : PySem.Str) (tk tv hh : Tok) (hlx : @Ne Nat l x) (hld : @Ne Nat l d) (hn : items.size ≤ 8) (hk : clean (cdN w.params) k.cps = true) (hk3 : k.cps.size < 3) (hv : clean (cdV w.params) v.cps = true) (hv3 : v.cps.size < 3) :
    Cm w p loose mean mg mb PySem.Challenge.rw_to0087_01 292 14 [.ref x, .str k tk, .str v tv] [(l, W.listOf items n), (x, instObj 295 d), (d, dictOf [{ hash := PyData.keyHash w.params (PySem.Str.ofString "_headers"), key := Value.str (PySem.Str.ofString "_headers") hh, val := Value.ref l }] 1)] (fun h rv h' => rv = .none ∧ ∃ t ot, @LE.le Nat _ h.objs.size t ∧ h'.get? t = some ot ∧ TupP k v t ot ∧ h'.get? l = some (W.listOf (items.push (.ref t)) (n + 1)) ∧ h'.get? x = some (instObj 295 d) ∧ h'.get? d = some (dictOf [{ hash := PyData.keyHash w.params (PySem.Str.ofString "_headers"), key := Value.str (PySem.Str.ofString "_headers") hh, val := Value.ref l }] 1)) := by
  k_with_none
  k_with "k_room" => ktr_room
  k_with "getMethod ref" => (k_here; k_dflt (first | refine getMethod_161 (by assumption) (by exact Fr.keep (by assumption)) ?_ | refine getMethod_166 (by assumption) (by exact Fr.keep (by assumption)) ?_))
  k_with "call builtin:re.Pattern.search" => (k_here; k_dflt (first | refine search_161 (by assumption) (by exact Fr.keep (by assumption)) (by assumption) (by omega) ?_ | refine search_166 (by assumption) (by exact Fr.keep (by assumption)) (by assumption) (by omega) ?_))
  k_with "call builtin:str.join" => (k_here; k_dflt (refine join_single (by is_list) (StrsAre.cons _ _ .nil) (by decide) (by assumption) ?_; intro t8 k8))
  k_with "call builtin:list.append" => (k_here; k_dflt (refine' append_led (by assumption) (by assumption) ?oa ?ob ?_; (case oa => ((repeat (first | refine Out.here ?_ | refine Out.skip (by k_ne) ?_)); (repeat (first | exact Off.nil | refine Off.cons (by k_ne) ?_)))); (case ob => exact Nat.le_trans (by assumption) (by decide)); intro h8 F8 N8))
  unfold Cm
  k_fill
  intros
  rename_i hret
  refine wpAny_call ?_
  w_strict (k_dflt (refine' enterMore ?k1 ?k2 ?k3 ?k4 ?k5 ?kA ?kF ?kK ?k6 ?k7 ?k8 ?kM ?kR ?kP ?kT ?kB ?_ ?c2 ?c3 ?c4 ?c5; (case kA => exact rfl); (case kF => exact rfl); (case kK => assumption); (case k1 => k_asm); (case k2 => k_asm); (case k3 => k_asm); (case k4 => k_asm); (case k5 => k_asm); (case k6 => k_is); (case k7 => k_is); (case k8 => ktr_room); (case kM => exact rfl); (case kR => exact rfl); (case kP => exact rfl); (case kT => exact fun _ => rfl); (case kB => exact fun _ => locs rfl); (case c5 => decide); (case c2 => exact rfl); (case c3 => exact rfl); (case c4 => exact rfl); k_whole; intro D' o' g' L' h' tk' lz' l1 lo' hs' fs' F' N' B' X' T' G'; (try k_lt l1); (try dsimp only); (try k_lift B'); (try k_fold)))
  w_strict k_steps

  refine backM_ (by k_asm) (by k_asm) (by assumption) (fun kE => hret _ _ _ kE ?_)
  refine ⟨rfl, _, _, ?_, News.get (by k_asm) (List.Mem.head _), ⟨_, _, rfl⟩, News.get (by k_asm) (by k_mem), News.get (by k_asm) (by k_mem), News.get (by k_asm) (by k_mem)⟩
  (try dsimp only); omega
end
end Mine
end
/-! # Tpage -/
section
theorem Mine.reset_Tpage : True := by (w_top off); k_with_none; trivial
open PySem PySem.W PyProof.Rows
set_option Elab.async false
set_option maxRecDepth 100000
set_option maxHeartbeats 400000000
open PyProof.Rows.LCg PyProof.Rows.LCt
namespace Mine
/-- new objects of a call, with what they hold -/
noncomputable def NewL (h h' : Heap) (led : List (Addr × Obj)) : Prop := ∀ p ∈ led, h'.get? p.1 = some p.2 ∧ h.get? p.1 = none
theorem NewL.of {g h' : Heap} {L : Addr} {led news : List (Addr × Obj)} (N : News g L h' news) (hs : ∀ p ∈ led, p ∈ news) : NewL g h' led := fun p hp => ⟨(N p (hs p hp)).1, (N p (hs p hp)).2.2⟩
theorem NewL.news {h₀ h h' : Heap} {L : Addr} {m : PySem.Str → Option Value} {led news : List (Addr × Obj)} (Y : NewL h h' led) (F : Fr h₀ L h m) (N : News h₀ L h' news) : News h₀ L h' (led ++ news) := fun q hq => by
  rcases List.mem_append.mp hq with hq | hq
  · obtain ⟨e, hn⟩ := Y q hq
    refine ⟨e, fun eL => ?_, ?_⟩
    · obtain ⟨o', _, _, eo, _⟩ := F.ns
      rw [eL] at hn; rw [hn] at eo; cases eo
    · cases e0 : h₀.get? q.1 with
      | none => rfl
      | some o' => rw [F.keep _ _ e0] at hn; cases hn
  · exact N q hq
theorem fdiv_ok {x n : Int} (hn : 1 ≤ n) (h : 0 ≤ x ∧ x < 1000000000) : 0 ≤ x.fdiv n ∧ x.fdiv n < 1000000000 := by
  have e : x.fdiv n = x / n := Int.fdiv_eq_ediv_of_nonneg _ (Int.le_trans (by decide) hn)
  rw [e]
  exact ⟨Int.ediv_nonneg h.1 (Int.le_trans (by decide) hn), Int.lt_of_le_of_lt (Int.ediv_le_self n h.1) h.2⟩
/-! a page over a list of its headers -/
noncomputable abbrev Hd := (Addr × Tok × Tok) × PySem.Str × PySem.Str
noncomputable abbrev HdO (q : Hd) : Obj := { cls := .type "tuple", data := .seq #[.str q.2.1 q.1.2.1, .str q.2.2 q.1.2.2] }
noncomputable abbrev HdL (qs : List Hd) : List Value := qs.map fun q => .ref q.1.1
noncomputable abbrev PgD (w : World) (l : Addr) (hh : Tok) : Obj := dictOf [{ hash := PyData.keyHash w.params (PySem.Str.ofString "_headers"), key := Value.str (PySem.Str.ofString "_headers") hh, val := Value.ref l }] 1
noncomputable def HdIn (qs : List Hd) (acc : List (Addr × Obj)) : Prop := ∀ q ∈ qs, (q.1.1, HdO q) ∈ acc
/-- what a turn adds -/
noncomputable def pageTurn (k : Nat) (g : Int) : List (PySem.Str × PySem.Str) := [(⟨#[97 + k]⟩, typedP (((k : Int) + 1).fmod 4) (g.fdiv 4)), (⟨#[65 + k]⟩, typedP (g.fmod 4) (g.fdiv 256))]
noncomputable def pageHs (gs : List Int) (n : Nat) : List (PySem.Str × PySem.Str) := (List.range n).flatMap fun k => pageTurn k (gs.getD k 0)
theorem pageHs_succ (gs : List Int) (n : Nat) : pageHs gs (n + 1) = pageHs gs n ++ pageTurn n (gs.getD n 0) := by simp [pageHs, List.range_succ]
theorem pageHs_len (gs : List Int) : ∀ n, (pageHs gs n).length = 2 * n
  | 0 => rfl
  | n + 1 => by rw [pageHs_succ, List.length_append, pageHs_len gs n]; rfl
noncomputable def NC (acc : List (Addr × Obj)) : Prop := ∀ q ∈ acc, ∀ v, q.2.data ≠ .cell v
inductive PageP (w : World) (gs : List Int) (h : Heap) (v : Value) (h' : Heap) : Prop
  | mk (l x d : Addr) (hh : Tok) (qs : List Hd) (acc : List (Addr × Obj)) : v = .ref x → qs.map (·.2) = pageHs gs 4 → HdIn qs acc → NC acc → NewL h h' ((l, lst (HdL qs)) :: (x, instObj 295 d) :: (d, PgD w l hh) :: acc) → PageP w gs h v h'
theorem Off.of {l : Addr} : ∀ {r : List (Addr × Obj)}, (∀ q ∈ r, @Ne Nat q.1 l) → Off l r
  | [], _ => .nil
  | _ :: _, h => .cons (h _ List.mem_cons_self) (Off.of fun q hq => h q (List.mem_cons_of_mem _ hq))
theorem lst_push (ys : List Value) (v : Value) : W.listOf (ys.toArray.push v) (ys.length + 1) = lst (ys ++ [v]) := by
  show (_ : Obj) = { cls := _, data := .seq (ys ++ [v]).toArray (ys ++ [v]).length }
  rw [List.push_toArray, List.length_append, List.length_singleton]
theorem page_add {w : World} {p : Program} {loose : List PySem.Str} {mean : ExcName → Option Value} {mg mb : PySem.Str → Option Value}
    {dp un : Nat} {gd : Option (List Code)} {cn : PySem.Str} {cs : Scope} {L a x d l I : Addr} {oI : Obj} {ccd : Value} {cl : List (PySem.Str × Addr)} {outer : List Env} {A₀ : Around} {base h₀ : Heap} {m : PySem.Str → Option Value} {s : Shared} {Q E : Value → Shared → Prop} {acc : List (Addr × Obj)} {qs : List Hd} {hh : Tok} {k v : PySem.Str} {tk tv : Tok}
    (B : Below A₀ base outer h₀) (F : Fr h₀ L s.heap m) (N : News h₀ L s.heap ((I, oI) :: (l, lst (HdL qs)) :: (x, instObj 295 d) :: (d, PgD w l hh) :: acc)) (X : (hd.heap_1 w.params).In h₀) (T : Top p loose mean mg mb h₀) (hk : cs.kind = .function)
    (hd : dp + 14 < recursionLimit) (hu : un + 8 * 14 < cLine) (hlx : @Ne Nat l x) (hld : @Ne Nat l d) (hI : @Ne Nat I l) (ha : ∀ q ∈ acc, @Ne Nat q.1 l) (hn : qs.length ≤ 8) (hk1 : clean (cdN w.params) k.cps = true) (hk3 : k.cps.size < 3) (hv : clean (cdV w.params) v.cps = true) (hv3 : v.cps.size < 3)
    (h : ∀ (q : Hd) (h' : Heap) (tk' : Nat), q.2 = (k, v) → Fr h₀ L h' m → @Ne Nat q.1.1 l → @Ne Nat q.1.1 I → News h₀ L h' ((I, oI) :: (l, lst (HdL (qs ++ [q]))) :: (x, instObj 295 d) :: (d, PgD w l hh) :: (q.1.1, HdO q) :: acc) → Q .none { s with heap := h', toks := tk' }) :
    wpAny (model (PySem.Challenge.rw_to0087_01).row.prog w) (ktrTop dp un gd cn cs L a ccd cl outer) (call (.ref 292) [.ref x, .str k tk, .str v tv]) Q E s := by
  refine addh_use (t_addh w x d l (HdL qs).toArray (HdL qs).length k v tk tv hh hlx hld (by rw [List.size_toArray, List.length_map]; exact hn) hk1 hk3 hv hv3) B F N X T hk hd hu (.tail _ (.tail _ (.head _))) (.tail _ (.tail _ (.tail _ (.head _)))) (.skip hI (.here (.cons hlx.symm (.cons hld.symm (Off.of ha))))) fun t ot h' tk' F' lt N' hP => ?_
  obtain ⟨t1, t2, rfl⟩ := hP
  refine h ((t, t1, t2), k, v) h' tk' rfl F' (Nat.ne_of_gt (lt _ (.tail _ (.head _)))) (Nat.ne_of_gt (lt _ (.head _))) fun q hq => ?_
  rw [lst_push] at N'
  have e : HdL qs ++ [.ref t] = HdL (qs ++ [((t, t1, t2), k, v)]) := by simp [HdL]
  rw [e] at N'
  refine N' q ?_
  simp only [List.mem_cons] at hq ⊢
  rcases hq with hq | hq | hq | hq | hq | hq <;> simp only [hq, true_or, or_true]
theorem range_i1 {prog : Program} {w : World} {A : Around} {E : Value → Shared → Prop} {s : Shared} {env : Env} {h₀ : Heap} {x : PySem.Str} {body : List Stmt} {Q : Flow → Shared → Prop} {I : Addr} {n : Nat} (J : Addr → Nat → (PySem.Str → Option Value) → List (Addr × Obj) → Prop) {m₀ : PySem.Str → Option Value} {n₀ : List (Addr × Obj)} (L : Addr) (hL : env.locals = L) (hJ : J I 0 m₀ n₀)
    (step : ∀ i, i < n → ∀ (m : PySem.Str → Option Value) (nw : List (Addr × Obj)), J I i m nw → ∀ (t : Tok) (h : Heap) (gs : Array GenState) (dr : Drawn) (tk : Nat) (os : OsState) (oI : Obj) (R : Flow → Shared → Prop),
      (∀ h' tk' m' nw', Fr h₀ L h' m' → News h₀ L h' ((I, oI) :: nw') → (∀ p ∈ nw', p.1 ≠ I) → J I (i + 1) m' nw' → R .next ⟨h', gs, dr, tk', os⟩) →
      Fr h₀ L h (fun y => if y = x then some (.int (i : Int) t) else m y) → News h₀ L h ((I, oI) :: nw) → wpAny (model prog w) A (execs body env) R E ⟨h, gs, dr, tk, os⟩)
    (done : ∀ (m : PySem.Str → Option Value) (nw : List (Addr × Obj)), J I n m nw → ∀ h tk, Fr h₀ L h m → News h₀ L h nw → Q .next { s with heap := h, toks := tk }) :
    RangeRest prog w A E h₀ env x body Q s I 0 n n 0 m₀ n₀ := by
  subst hL
  have go : ∀ k i, i + k = n → ∀ m nw, J I i m nw → RangeRest prog w A E h₀ env x body Q s I 0 n k i m nw := by
    intro k
    induction k with
    | zero =>
      intro i hi m nw hj
      obtain rfl : i = n := hi
      exact RangeRest.zero fun h tk F N => done m nw hj h tk F N
    | succ k ih =>
      intro i hi m nw hj
      refine RangeRest.succ fun t h tk F N => ?_
      rw [Int.zero_add] at F
      exact wpAny_mono (step i (hi ▸ Nat.lt_add_of_pos_right (Nat.succ_pos k)) m nw hj t h s.gens s.drawn tk s.os _ _ (fun h' tk' m' nw' F' N' off j' => ⟨h', tk', m', nw', rfl, F', N', off, ih (i + 1) (by rw [Nat.succ_add]; exact hi) m' nw' j'⟩) F N) (fun _ _ y => y) fun _ _ y => y
  exact go n 0 (Nat.zero_add n) m₀ n₀ hJ
theorem four {P : Nat → Prop} (h0 : P 0) (h1 : P 1) (h2 : P 2) (h3 : P 3) {i : Nat} (hi : i < 4) : P i :=
  match i, hi with
  | 0, _ => h0
  | 1, _ => h1
  | 2, _ => h2
  | 3, _ => h3
theorem ab_item {i : Nat} (hi : i < 4) : Txt.item (PySem.Str.ofString "abcd") (i : Int) = ⟨#[97 + i]⟩ := four (P := fun i => Txt.item (PySem.Str.ofString "abcd") (i : Int) = ⟨#[97 + i]⟩) (by kernel_rfl) (by kernel_rfl) (by kernel_rfl) (by kernel_rfl) hi
theorem AB_item {i : Nat} (hi : i < 4) : Txt.item (PySem.Str.ofString "ABCD") (i : Int) = ⟨#[65 + i]⟩ := four (P := fun i => Txt.item (PySem.Str.ofString "ABCD") (i : Int) = ⟨#[65 + i]⟩) (by kernel_rfl) (by kernel_rfl) (by kernel_rfl) (by kernel_rfl) hi
theorem ab_clean (P : Params) {i : Nat} (hi : i < 4) : clean (cdN P) (Txt.item (PySem.Str.ofString "abcd") (i : Int)).cps = true ∧ (Txt.item (PySem.Str.ofString "abcd") (i : Int)).cps.size < 3 := by
  rw [ab_item hi]
  exact ⟨four (P := fun i => clean (cdN P) (#[97 + i]) = true) (by kernel_rfl) (by kernel_rfl) (by kernel_rfl) (by kernel_rfl) hi, (by decide : 1 < 3)⟩
theorem AB_clean (P : Params) {i : Nat} (hi : i < 4) : clean (cdN P) (Txt.item (PySem.Str.ofString "ABCD") (i : Int)).cps = true ∧ (Txt.item (PySem.Str.ofString "ABCD") (i : Int)).cps.size < 3 := by
  rw [AB_item hi]
  exact ⟨four (P := fun i => clean (cdN P) (#[65 + i]) = true) (by kernel_rfl) (by kernel_rfl) (by kernel_rfl) (by kernel_rfl) hi, (by decide : 1 < 3)⟩
theorem g_at {g0 g1 g2 g3 : Int} {t0 t1 t2 t3 : Tok} (h0 : 0 ≤ g0 ∧ g0 < 1000000000) (h1 : 0 ≤ g1 ∧ g1 < 1000000000) (h2 : 0 ≤ g2 ∧ g2 < 1000000000) (h3 : 0 ≤ g3 ∧ g3 < 1000000000) {i : Nat} (hi : i < 4) :
    ∃ g t, (#[.int g0 t0, .int g1 t1, .int g2 t2, .int g3 t3] : Array Value)[((i : Int)).toNat]? = some (.int g t) ∧ [g0, g1, g2, g3].getD i 0 = g ∧ (0 ≤ g ∧ g < 1000000000) :=
  four (P := fun i => ∃ g t, (#[.int g0 t0, .int g1 t1, .int g2 t2, .int g3 t3] : Array Value)[((i : Int)).toNat]? = some (.int g t) ∧ [g0, g1, g2, g3].getD i 0 = g ∧ (0 ≤ g ∧ g < 1000000000)) ⟨_, _, rfl, rfl, h0⟩ ⟨_, _, rfl, rfl, h1⟩ ⟨_, _, rfl, rfl, h2⟩ ⟨_, _, rfl, rfl, h3⟩ hi
theorem cons_all {α : Type} {P : α → Prop} {a : α} {l : List α} (h : P a) (r : ∀ q ∈ l, P q) : ∀ q ∈ a :: l, P q := List.forall_mem_cons.mpr ⟨h, r⟩
/-- what the loop keeps -/
inductive JP (w : World) (gs : List Int) (l x d gl : Addr) (hh : Tok) (I : Addr) (i : Nat) : (PySem.Str → Option Value) → List (Addr × Obj) → Prop
  | mk (qs : List Hd) (acc : List (Addr × Obj)) (m : PySem.Str → Option Value) : m (PySem.Str.ofString "page") = some (.ref x) → m (PySem.Str.ofString "given") = some (.ref gl) → qs.map (·.2) = pageHs gs i → HdIn qs acc → NC acc → (∀ q ∈ acc, @Ne Nat q.1 l) → (∀ q ∈ acc, @Ne Nat q.1 I) →
    JP w gs l x d gl hh I i m ((l, lst (HdL qs)) :: (x, instObj 295 d) :: (d, PgD w l hh) :: acc)
theorem jp_len {gs : List Int} {i : Nat} {qs : List Hd} (h : qs.map (·.2) = pageHs gs i) (hi : i < 4) : qs.length ≤ 7 := by
  have := congrArg List.length h
  rw [List.length_map, pageHs_len] at this
  omega
theorem jp_next {w : World} {gs : List Int} {l x d gl : Addr} {hh : Tok} {I : Addr} {i : Nat} {qs : List Hd} {q1 q2 : Hd} {acc : List (Addr × Obj)} {m : PySem.Str → Option Value} {g : Int} (hm1 : m (PySem.Str.ofString "page") = some (.ref x)) (hm2 : m (PySem.Str.ofString "given") = some (.ref gl)) (hq : qs.map (·.2) = pageHs gs i) (ha : HdIn qs acc) (hc : NC acc) (hl : ∀ q ∈ acc, @Ne Nat q.1 l) (hI : ∀ q ∈ acc, @Ne Nat q.1 I) (hg : gs.getD i 0 = g) (hi : i < 4)
    (e1 : q1.2 = (Txt.item (PySem.Str.ofString "abcd") (i : Int), typedP (((i : Int) + 1).fmod 4) (g.fdiv 4))) (e2 : q2.2 = (Txt.item (PySem.Str.ofString "ABCD") (i : Int), typedP (g.fmod 4) (g.fdiv 256))) (l1 : @Ne Nat q1.1.1 l) (l2 : @Ne Nat q2.1.1 l) (i1 : @Ne Nat q1.1.1 I) (i2 : @Ne Nat q2.1.1 I) :
    JP w gs l x d gl hh I (i + 1) m ((l, lst (HdL (qs ++ [q1] ++ [q2]))) :: (x, instObj 295 d) :: (d, PgD w l hh) :: (q2.1.1, HdO q2) :: (q1.1.1, HdO q1) :: acc) := by
  refine JP.mk (qs ++ [q1] ++ [q2]) _ m hm1 hm2 ?_ ?_ ?_ ?_ ?_
  · rw [pageHs_succ, ← hq, hg, List.map_append, List.map_append, List.append_assoc]
    show _ ++ [q1.2, q2.2] = _
    rw [e1, e2, ab_item hi, AB_item hi]; rfl
  · intro q hq
    rcases List.mem_append.mp hq with hq | hq
    · rcases List.mem_append.mp hq with hq | hq
      · exact .tail _ (.tail _ (ha q hq))
      · rw [List.mem_singleton.mp hq]; exact .tail _ (.head _)
    · rw [List.mem_singleton.mp hq]; exact .head _
  · exact cons_all (fun v e => nomatch e) (cons_all (fun v e => nomatch e) hc)
  · exact cons_all l2 (cons_all l1 hl)
  · exact cons_all i2 (cons_all i1 hI)
theorem off_jp {I l x d : Addr} {o1 o2 o3 : Obj} {acc : List (Addr × Obj)} (h1 : @Ne Nat l I) (h2 : @Ne Nat x I) (h3 : @Ne Nat d I) (h : ∀ q ∈ acc, @Ne Nat q.1 I) : ∀ p ∈ (l, o1) :: (x, o2) :: (d, o3) :: acc, p.1 ≠ I :=
  cons_all h1 (cons_all h2 (cons_all h3 h))
section
theorem t_page (w : World) {p : Program} {loose : List PySem.Str} {mean : ExcName → Option Value} {mg mb : PySem.Str → Option Value} (l : Addr) (g0 g1 g2 g3 : Int) (t0 t1 t2 t3 : Tok) (h0 : 0 ≤ g0 ∧ g0 < 1000000000) (h1 : 0 ≤ g1 ∧ g1 < 1000000000) (h2 : 0 ≤ g2 ∧ g2 < 1000000000) (h3 : 0 ≤ g3 ∧ g3 < 1000000000) :
    Cl w p loose mean mg mb PySem.Challenge.rw_to0087_01 323 24 [.ref l] (fun h => h.IsList l #[.int g0 t0, .int g1 t1, .int g2 t2, .int g3 t3]) (fun h v h' => PageP w [g0, g1, g2, g3] h v h') := by
  k_with_none
  k_with "k_room" => ktr_room
  k_with "RangeRest" => (k_here; refine halt ?_)
  k_with "eval Name" => (k_here; k_dflt (refine' ld_via ?k1 ?k2 ?k3 ?_; (case k1 => k_asm); (case k2 => with_reducible assumption); (case k3 => rfl); k_whole))
  k_with "subscriptTail Name Name ref int" => (k_here; k_dflt (refine' item_listR ?zl ?z0 ?zf ?zx ?_ ?zs; (case zl => exact hpre.at fun _ e => Fr.keep (by k_asm) _ _ e); (case z0 => exact Int.natCast_nonneg _); (case zf => with_reducible assumption); (case zx => with_reducible assumption); (case zs => with_unfolding_all rfl)))
  k_with "call ref" => (k_here; first | ((with_reducible show wpAny _ _ (call (Value.ref 292) _) _ _ _); refine halt ?_) | (k_dflt (refine' Cl.use (t_typed _ _ _ _ _ (fmod_lo _ (by decide)) (fmod_hi _ (by decide)) (fdiv_ok (by decide) (by with_reducible assumption)).1 (fdiv_ok (by decide) (by with_reducible assumption)).2) ?k1 ?k2 ?k3 ?k4 ?k5 ?kK ?kd ?ku ?kp ?_; (case k1 => k_asm); (case k2 => k_asm); (case k3 => k_asm); (case k4 => k_asm); (case k5 => k_asm); (case kK => first | exact rfl | assumption); (case kd => ktr_room); (case ku => ktr_units); (case kp => trivial); intro v8_z h8_z tk8_z I8_z F8_z N8_z P8_z; (try dsimp only at P8_z); clear I8_z); obtain ⟨t8, P8_z⟩ := P8_z; subst P8_z))
  k_dflt (refine' Cl.enter (binds := [(PySem.Str.ofString "given", .ref l)]) ?ho ?hcd ?hr ?hb ?hloc ?c2 ?c3 ?c4 ?c5 ?h); all_goals (try k_fill)
  case ho => k_is
  case hcd => k_is
  case hr => decide
  case hb => exact fun s => BindsTo.of_eq rfl
  case hloc => exact locs rfl
  case c2 => exact rfl
  case c3 => exact rfl
  case c4 => exact rfl
  case c5 => decide
  intro dp un gd outer A₀ base g h' L' tk gs dr os R hdp hun B' X' T' hpre hret F' N'
  (try dsimp only at hpre)
  (try dsimp only)
  w_strict k_steps
  unfold Halt
  rename_i lr3 rr1 rr2 rr3 lx1 rr4 lx2 rr5 rr6 rr7 rr8 rr9 li1
  have hIl := Nat.ne_of_gt li1.1
  have hIl' : @Ne Nat _ _ := Nat.ne_of_lt li1.1
  have hIx : @Ne Nat _ _ := Nat.ne_of_lt li1.2.1
  have hId : @Ne Nat _ _ := Nat.ne_of_lt li1.2.2
  rename_i lx9 _ _ _ _ _ _ _ _ _ _ _ _
  have hlx : @Ne Nat _ _ := Nat.ne_of_gt lx9.1
  have hld : @Ne Nat _ _ := Nat.ne_of_gt lx9.2
  refine range_i1 (JP w [g0, g1, g2, g3] _ _ _ l _) L' rfl (JP.mk [] [] _ ?j1 ?j2 rfl (fun _ h => nomatch h) (fun _ h => nomatch h) (fun _ h => nomatch h) (fun _ h => nomatch h)) ?step ?done
  case j1 => rfl
  case j2 => rfl
  case done =>
    intro m9 n9 hJ9
    cases hJ9 with
    | mk qs acc m hm1 hm2 hq ha hc hl hI =>
    intro h9 tk9 F9 N9
    w_strict k_steps
    exact hret _ _ _ _ _ _ F9 N9 (.mk _ _ _ _ qs acc rfl hq ha hc (NewL.of N9 fun _ hp => hp))
  case step =>
    intro i9 hi9 m9 n9 hJ9
    cases hJ9 with
    | mk qs acc m hm1 hm2 hq ha hc hl hI =>
    intro t9 h9 gs9 dr9 tk9 os9 oI9 R9 hend9 F9 N9
    obtain ⟨gv, gt, hgx, hgd, hgb⟩ := g_at (t0 := t0) (t1 := t1) (t2 := t2) (t3 := t3) h0 h1 h2 h3 hi9
    have zf9 : (i9 : Int) < 2 ^ 63 := Int.lt_trans (Int.ofNat_lt.mpr hi9) (by decide)
    w_strict k_steps
    unfold Halt
    refine page_add (by k_asm) F8_z N8_z (by k_asm) (by k_asm) rfl (by ktr_room) (by ktr_units) hlx hld hIl hl (Nat.le_succ_of_le (jp_len hq hi9)) (ab_clean w.params hi9).1 (ab_clean w.params hi9).2 (clean_typed w.params (fmod_lo _ (by decide)) (fmod_hi _ (by decide))).1 (size_typed (fmod_lo _ (by decide)) (fmod_hi _ (by decide))) ?_
    intro q1 h1' tk1 e1 F1 hq1l hq1I N1
    clear N8_z N9
    w_strict k_steps
    unfold Halt
    refine page_add (by k_asm) F8_z N8_z (by k_asm) (by k_asm) rfl (by ktr_room) (by ktr_units) hlx hld hIl (cons_all hq1l hl) (by rw [List.length_append]; exact Nat.succ_le_succ (jp_len hq hi9)) (AB_clean w.params hi9).1 (AB_clean w.params hi9).2 (clean_typed w.params (fmod_lo _ (by decide)) (fmod_hi _ (by decide))).1 (size_typed (fmod_lo _ (by decide)) (fmod_hi _ (by decide))) ?_
    intro q2 h2' tk2 e2 F2 hq2l hq2I N2
    clear N8_z N1
    w_strict k_steps
    exact hend9 _ _ _ _ F2 N2 (off_jp hIl' hIx hId (cons_all hq2I (cons_all hq1I hI))) (jp_next hm1 hm2 hq ha hc hl hI hgd hi9 e1 e2 hq1l hq2l hq1I hq2I)
end
end Mine
end
/-! # Td2n -/
section
theorem Mine.reset_Td2n : True := by (w_top off); k_with_none; trivial
open PySem PySem.W PyProof.Rows
set_option Elab.async false
set_option maxRecDepth 100000
set_option maxHeartbeats 400000000
namespace Mine

theorem bits_all : ((List.range 4096).all fun n => decide (Builtin.Int.intBits ((n : Nat) : Int) ≤ 12)) = true := by decide +kernel
theorem bits_le {a : Int} (h0 : 0 ≤ a) (h1 : a < 4096) : Builtin.Int.intBits a ≤ 12 := by
  obtain ⟨n, rfl⟩ := Int.eq_ofNat_of_zero_le h0
  have z := bits_all
  simp only [List.all_eq_true, List.mem_range, decide_eq_true_eq] at z
  exact z n (by omega)
theorem t_d2n (w : World) {p : Program} {loose : List PySem.Str} {mean : ExcName → Option Value} {mg mb : PySem.Str → Option Value} (a b n : Int) (ta tb tn : Tok) (h0 : 0 ≤ a) (h1 : a < 4096) (h2 : 1 ≤ b) (h3 : b ≤ 4) (h4 : 1 ≤ n) (h5 : n ≤ 3) :
    Cl w p loose mean mg mb PySem.Challenge.rw_to0087_01 52 8 [.int a ta, .int b tb, .int n tn] (fun _ => True) (fun h v h' => ∃ r t1 t2, v = .ref r ∧ NewL h h' [(r, { cls := .type "tuple", data := .seq #[.int (a.fdiv b) t1, .int (a.fmod b) t2] })]) := by
  unfold Cl
  k_fill
  intros
  rename_i hpre hret
  try dsimp only at hpre
  refine wpAny_call ?_
  w_strict (k_dflt (refine' enterP ?k1 ?k2 ?k3 ?k5 ?kA ?kF ?kK ?k6 ?k7 ?k8 ?k9 ?kB ?_ ?c2 ?c3 ?c4 ?c5; (case kA => exact rfl); (case kF => exact rfl); (case kK => assumption); (case k1 => k_asm); (case k2 => k_asm); (case k3 => k_asm); (case k5 => k_asm); (case k6 => k_is); (case k7 => k_is); (case k8 => ktr_room); (case k9 => exact BindsTo.of_eq rfl); (case c5 => decide); (case kB => exact locs rfl); (case c2 => exact rfl); (case c3 => exact rfl); (case c4 => exact rfl); k_whole; intro L' h' F' N' B' X' T'; (try dsimp only); (try k_lift B'); (try k_fold)))
  have hb := bits_le h0 h1
  have hb2 : ((Builtin.Int.intBits a : Nat) : Int) - n ≤ 4000 := by omega
  w_strict k_steps
  refine back_ (by k_asm) (by k_asm) (fun kE => hret _ _ _ kE ?_)
  exact ⟨_, _, _, rfl, NewL.of (by k_asm) (List.forall_mem_cons.mpr ⟨List.Mem.head _, List.forall_mem_nil _⟩)⟩
end Mine
end
/-! # Nest -/
section
open PySem PySem.W PyProof.Rows PySem.Calls PySem.Spec
set_option Elab.async false
set_option maxRecDepth 100000
set_option maxHeartbeats 400000000
namespace Mine

section
variable {prog : Program} {w : World} {A₀ A : Around} {s : Shared} {base h₀ : Heap} {outer : List Env} {L : Addr} {m : PySem.Str → Option Value} {env : Env} {K : Frag} {p : Program} {loose : List PySem.Str} {mean : ExcName → Option Value} {mg mb : PySem.Str → Option Value} {news : List (Addr × Obj)}
  {R : Result → Shared → Prop} {name qual : PySem.Str} {params : Arguments} {body : List Stmt} {scope : Scope} {doc pm ctv : Value} {c' : Addr} {cl : List (PySem.Str × Addr)} {f : Addr} {args : Args} {binds : List (PySem.Str × Value)}
/-- a def made by a def, entered with its ledger in hand -/
theorem enterN (B : Below A₀ base outer h₀) (F : Fr h₀ L s.heap m) (X₀ : K.In h₀) (N : News h₀ L s.heap news) (T : Top p loose mean mg mb h₀) (hA : A.frames = some (env :: outer)) (hf : env.frame = some L) (hke : env.scope.kind = .function)
    (ho : (f, fnMade name qual params body scope cl doc pm c' ctv) ∈ news) (hcd : s.heap.CodeRec (.ref c') qual) (hroom : A.depth < recursionLimit)
    (hbind : BindsTo s (fnX name qual params body scope cl .none .none doc pm none (.ref c') ctv) args binds) (hloc : ∀ y ∈ binds, scope.names.lookup y.1 = some .local)
    (h : ∀ g L' h₁, Fr g L' h₁ (fun y => binds.reverse.lookup y) → News g L' h₁ news → Below A base (env :: outer) g → K.In g → Top p loose mean mg mb g → GSub s.heap g (news.map (·.1)) →
      wpAny (model prog w) (A.deeper (envX qual scope L' f (.ref c') cl)) (execs body (envX qual scope L' f (.ref c') cl))
        (fun fl s' => BackM s.heap (news.map (·.1)) R (match fl with | .ret v => v | _ => .none) s')
        (fun e s' => wpAny (model prog w) (A.deeper (envX qual scope L' f (.ref c') cl)) (leaving (envX qual scope L' f (.ref c') cl) e) (fun _ s'' => R (.error e) s'') (fun e' s'' => R (.error e') s'') s')
        { s with heap := h₁, toks := s.toks + binds.length })
    (hco : scope.isCoroutine = false) (hgen : scope.isGenerator = false) (hk : scope.kind = .function)
    (hcell : ∀ x ∈ scope.names, x.2 ≠ .cell) : codeAny (model prog w) A (.call (.ref f) args) R s := by
  obtain ⟨FG, BG, st, lv⟩ := groundX (R := R) B F N hA hf hke
  refine codeAny_call_def (fd := fnX name qual params body scope cl .none .none doc pm none (.ref c') ctv) (body := body) (binds := binds) hroom (N _ ho).1 rfl (T.nolimit.keeps F.keep) hcd rfl hbind hcell hloc (fun h₁ hns hk₁ => ?_) hco hgen hk
  refine wpAny_mono (h _ s.heap.objs.size h₁ ⟨hns, fun b o e => hk₁ b o (of_hideAll _ e), Nat.le_of_eq (hideAll_size _ _)⟩
    (fun p hp => ⟨hk₁ _ _ (N p hp).1, Nat.ne_of_lt (Heap.lt_size (N p hp).1), hideAll_none _ (List.mem_map_of_mem hp)⟩) BG (X₀.keeps st) (T.keeps st) (fun b o e n => hideAll_get _ e n)) (fun fl s' hl => ?_) fun _ _ y => y
  obtain ⟨g, L', m', news', F', N', G, k⟩ := hl
  exact k fun b o hb e => F'.keep b o (G b o e hb)
end
/-- the table of a maker's codes: empty, or with the one code it makes -/
noncomputable def CodeO (qual : PySem.Str) (oc : Obj) : Prop := ∃ vs t, oc.data = .fields vs ∧ vs[1]? = some (.str qual t)
noncomputable def TabSt (P : Addr) (line col : Nat) (qual : PySem.Str) (ps : Array Value) (codes : List (Addr × Obj)) : Prop :=
  (ps = #[] ∧ codes = []) ∨ ∃ c' oc, ps = #[rawInt line, rawInt col, .ref c'] ∧ codes = [(c', oc)] ∧ CodeO qual oc ∧ (@Ne Nat P c')
/-- the table after a call: it has its code -/
noncomputable def TabNow (P : Addr) (line col : Nat) (qual : PySem.Str) (codes : List (Addr × Obj)) (h h' : Heap) : Prop :=
  ∃ c' oc, h'.get? P = some (tabObj #[rawInt line, rawInt col, .ref c']) ∧ h'.get? c' = some oc ∧ CodeO qual oc ∧ (@Ne Nat P c') ∧ (codes = [(c', oc)] ∨ h.get? c' = none)
theorem new_of {g h h' : Heap} {L r : Addr} {o : Obj} {l : List Addr} {all : List (Addr × Obj)} (G : GSub h g l) (N : News g L h' all) (m : (r, o) ∈ all) (hn : r ∉ l) : h.get? r = none := by
  cases e0 : h.get? r with
  | none => rfl
  | some o' =>
    have z := (N _ m).2.2
    dsimp only at z
    rw [G r o' e0 hn] at z; cases z

/-- a call that may change its ledger: what the caller has after it -/
theorem Cm.useS {w : World} {p : Program} {loose : List PySem.Str} {mean : ExcName → Option Value} {mg mb : PySem.Str → Option Value} {law : OpenLaw} {f : Addr} {room : Nat} {vs : List Value} {led : List (Addr × Obj)} {post : Heap → Value → Heap → Prop}
  {dp un : Nat} {gd : Option (List Code)} {cn : PySem.Str} {cs : Scope} {L a : Addr} {ccd : Value} {cl : List (PySem.Str × Addr)} {outer : List Env} {A₀ : Around} {base h₀ : Heap} {m : PySem.Str → Option Value} {s : Shared} {Q E : Value → Shared → Prop} {all : List (Addr × Obj)}
    (C : Cm w p loose mean mg mb law f room vs led post)
    (B : Below A₀ base outer h₀) (F : Fr h₀ L s.heap m) (N : News h₀ L s.heap all) (X : (hd.heap_1 w.params).In h₀) (T : Top p loose mean mg mb h₀) (hk : cs.kind = .function)
    (hd : dp + room < recursionLimit) (hu : un + 8 * room < cLine) (hs : ∀ q ∈ led, q ∈ all) (others : List (Addr × Obj)) (ho : ∀ q ∈ others, q ∈ all ∧ q.1 ∉ led.map (·.1))
    (h : ∀ (v : Value) (h' : Heap) (tk' : Nat), Fr h₀ L h' m → (∀ led2 : List (Addr × Obj), (∀ q ∈ led2, h'.get? q.1 = some q.2 ∧ (q.1 ∈ led.map (·.1) ∨ s.heap.get? q.1 = none)) → News h₀ L h' (led2 ++ others)) → post s.heap v h' → Q v { s with heap := h', toks := tk' }) :
    wpAny (model law.row.prog w) (ktrTop dp un gd cn cs L a ccd cl outer) (call (.ref f) vs) Q E s := by
  refine C dp un gd cn cs a ccd cl outer A₀ base h₀ L m s Q E B F X (fun q hq => N q (hs q hq)) T hk hd hu fun v h' tk' I hp => ?_
  have old : ∀ b ∈ led.map (·.1), h₀.get? b = none ∧ b ≠ L := fun b hb => by
    obtain ⟨q, hq, rfl⟩ := List.mem_map.mp hb
    exact ⟨(N q (hs q hq)).2.2, (N q (hs q hq)).2.1⟩
  have keep : ∀ b o, h₀.get? b = some o → h'.get? b = some o := fun b o e => I b o (fun hb => by rw [(old b hb).1] at e; cases e) (F.keep b o e)
  have F' : Fr h₀ L h' m := ⟨F.ns.at fun o e => I _ _ (fun hb => (old _ hb).2 rfl) e, keep, F.above⟩
  refine h v h' tk' F' (fun led2 h2 q hq => ?_) hp
  rcases List.mem_append.mp hq with hq | hq
  · obtain ⟨e1, e2⟩ := h2 q hq
    rcases e2 with e2 | e2
    · exact ⟨e1, (old _ e2).2, (old _ e2).1⟩
    · refine ⟨e1, fun eL => ?_, ?_⟩
      · obtain ⟨o', _, _, eo, _⟩ := F.ns
        rw [eL] at e2; rw [e2] at eo; cases eo
      · cases e0 : h₀.get? q.1 with
        | none => rfl
        | some o' => rw [F.keep _ _ e0] at e2; cases e2
  · obtain ⟨h3, h4⟩ := ho q hq
    exact ⟨I _ _ h4 (N q h3).1, (N q h3).2⟩

end Mine
end
/-! # Dig -/
section
open PySem PySem.W PyProof.Rows PySem.Calls PySem.Spec
set_option Elab.async false
set_option maxRecDepth 100000
set_option maxHeartbeats 400000000
namespace Mine

/-- digits, the lowest first -/
noncomputable def valD (B : Int) : List Int → Int
  | [] => 0
  | d :: r => d + B * valD B r
theorem valD_app (B : Int) : ∀ xs ys : List Int, valD B (xs ++ ys) = valD B xs + B ^ xs.length * valD B ys
  | [], ys => by simp [valD]
  | x :: xs, ys => by
    rw [List.cons_append, valD, valD, valD_app B xs ys, List.length_cons, Int.pow_succ, Int.mul_add, Int.add_assoc, ← Int.mul_assoc, Int.mul_comm B (B ^ xs.length)]
noncomputable def DigOk (B : Int) (ds : List Int) : Prop := ∀ d ∈ ds, 0 ≤ d ∧ d < B
theorem DigOk.app {B : Int} {xs ys : List Int} (h : DigOk B xs) (h' : DigOk B ys) : DigOk B (xs ++ ys) := fun d hd => by
  rcases List.mem_append.mp hd with hd | hd
  · exact h d hd
  · exact h' d hd
theorem valD_bound {B : Int} (hB : 0 < B) : ∀ {xs : List Int}, DigOk B xs → 0 ≤ valD B xs ∧ valD B xs < B ^ xs.length
  | [], _ => by simp [valD]
  | x :: xs, h => by
    obtain ⟨h1, h2⟩ := h x List.mem_cons_self
    obtain ⟨h3, h4⟩ := valD_bound hB (xs := xs) fun d hd => h d (List.mem_cons_of_mem _ hd)
    rw [valD, List.length_cons, Int.pow_succ]
    refine ⟨Int.add_nonneg h1 (Int.mul_nonneg (by omega) h3), ?_⟩
    have : B * (valD B xs + 1) ≤ B * B ^ xs.length := Int.mul_le_mul_of_nonneg_left (by omega) (by omega)
    rw [Int.mul_add] at this
    rw [Int.mul_comm (B ^ xs.length) B]
    omega
theorem nat_and_low (a s : Nat) : a &&& (a / 2 ^ s * 2 ^ s) = a / 2 ^ s * 2 ^ s := by
  apply Nat.eq_of_testBit_eq
  intro i
  rw [Nat.testBit_and, Nat.testBit_mul_two_pow]
  by_cases h : s ≤ i
  · simp only [h, decide_true, Bool.true_and, Nat.testBit_div_two_pow]
    rw [show i - s + s = i by omega, Bool.and_self]
  · simp [h]
theorem xor_low {x : Int} (h : 0 ≤ x) (s : Nat) : Builtin.bitXor x (x.fdiv (2 ^ s) * 2 ^ s) = x.fmod (2 ^ s) := by
  obtain ⟨a, rfl⟩ := Int.eq_ofNat_of_zero_le h
  have hp : (0 : Int) < 2 ^ s := Int.pow_pos (by decide)
  have e : ((a : Int).fdiv (2 ^ s)) * 2 ^ s = ((a / 2 ^ s * 2 ^ s : Nat) : Int) := by
    rw [Int.fdiv_eq_ediv_of_nonneg _ (Int.le_of_lt hp)]
    push_cast; rfl
  rw [e, bitXor_and]
  have e2 : Builtin.bitAnd (a : Int) ((a / 2 ^ s * 2 ^ s : Nat) : Int) = ((a / 2 ^ s * 2 ^ s : Nat) : Int) := by
    unfold Builtin.bitAnd
    simp only [Int.natCast_nonneg, decide_true, Int.toNat_natCast]
    rw [nat_and_low]
  rw [e2, Int.fmod_eq_emod_of_nonneg _ (Int.le_of_lt hp)]
  have := Nat.div_add_mod a (2 ^ s)
  have e3 : ((a : Int) % 2 ^ s) = ((a % 2 ^ s : Nat) : Int) := by push_cast; rfl
  rw [e3]
  have e4 : a / 2 ^ s * 2 ^ s + a % 2 ^ s = a := by rw [Nat.mul_comm]; exact this
  omega
theorem setL_ok : ∀ {l : List Value} {k : Nat} {v : Value}, k < l.length → ki_setL l k v = some (l.set k v)
  | [], _, _, h => by simp at h
  | _ :: _, 0, _, _ => rfl
  | x :: r, k + 1, v, h => by
    have := setL_ok (l := r) (k := k) (v := v) (by simpa using h)
    show (match ki_setL r k v with | some q => some (x :: q) | none => none) = _
    rw [this]; rfl
theorem ints_set : ∀ {vs : List Value} {zs : List Int} {k : Nat} {x : Int} {t : Tok}, IntsAre vs zs → IntsAre (vs.set k (.int x t)) (zs.set k x)
  | _, _, _, _, _, .nil => .nil
  | _, _, 0, x, t, .cons n t' h => .cons x t h
  | _, _, k + 1, _, _, .cons n t' h => .cons n t' (ints_set h)
end Mine
end
/-! # IndN -/
section
open PySem PySem.W PyProof.Rows PySem.Calls PySem.Spec PyProof.Rows.LCg PyProof.Rows.LCt
set_option Elab.async false
set_option maxRecDepth 100000
set_option maxHeartbeats 400000000
namespace Mine
section
variable {w : World} {p : Program} {loose : List PySem.Str} {mean : ExcName → Option Value} {mg mb : PySem.Str → Option Value} {f c' : Addr} {room : Nat} {vs : List Value} {led : List (Addr × Obj)} {post : Heap → Value → Heap → Prop}
  {name qual : PySem.Str} {params : Arguments} {body : List Stmt} {scope : Scope} {doc pm ctv : Value} {cl : List (PySem.Str × Addr)} {binds : List (PySem.Str × Value)} {law : OpenLaw} {oc : Obj} {vs0 : Array Value} {t0 : Tok}
/-- a contract of a def that a def has made, its object in the ledger -/
theorem Cm.enterN (ho : (f, fnMade name qual params body scope cl doc pm c' ctv) ∈ led) (hc : (c', oc) ∈ led) (hcd : oc.data = .fields vs0) (hv : vs0[1]? = some (.str qual t0))
    (hr : 1 ≤ room) (hbind : ∀ s, BindsTo s (fnX name qual params body scope cl .none .none doc pm none (.ref c') ctv) ⟨vs, []⟩ binds) (hloc : ∀ y ∈ binds, scope.names.lookup y.1 = some .local)
    (hco : scope.isCoroutine = false) (hgen : scope.isGenerator = false) (hk : scope.kind = .function) (hcell : ∀ x ∈ scope.names, x.2 ≠ .cell)
    (h : ∀ (dp un : Nat) (gd : Option (List Code)) (outer : List Env) (A₀ : Around) (base g sh h₁ : Heap) (L' : Addr) (tk : Nat) (gs : Array GenState) (dr : Drawn) (os : OsState) (R : Value → Shared → Prop),
      dp + (room - 1) < recursionLimit → un + 8 * (room - 1) < cLine → GSub sh g (led.map (·.1)) → Below A₀ base outer g → (hd.heap_1 w.params).In g → Top p loose mean mg mb g →
      (∀ v h' tk' L'' m' news', Fr g L'' h' m' → News g L'' h' news' → post sh v h' → R v ⟨h', gs, dr, tk', os⟩) →
      Fr g L' h₁ (fun y => binds.reverse.lookup y) → News g L' h₁ led →
      wpAny (model law.row.prog w) (AX dp un gd (envX qual scope L' f (.ref c') cl) outer) (execs body (envX qual scope L' f (.ref c') cl)) (RetTo R) (fun _ _ => False) ⟨h₁, gs, dr, tk, os⟩) :
    Cm w p loose mean mg mb law f room vs led post := by
  intro dp un gd cn cs a ccd cl2 outer A₀ base h₀ L m s Q E B F X N T hcs hd hu ret
  refine wpAny_call ?_
  refine Mine.enterN B F X N T rfl rfl hcs ho (codeRec_news N hc hcd hv) (Nat.lt_of_le_of_lt (Nat.le_add_right _ _) hd) (hbind s) hloc (fun g L' h₁ F' N' B' X' T' G' => ?_) hco hgen hk hcell
  refine wpAny_mono (h (dp + 1) (un + 3) gd (envX cn cs L a ccd cl2 :: outer) _ base g s.heap h₁ L' _ s.gens s.drawn s.os (BackM s.heap (led.map (·.1)) (fun r s' => match r with | .ok (.ret v) => Q v s' | .ok _ => False | .error e => E e s')) (by omega) (by omega) G' B' X' T' (fun v h' tk' L'' m' news' F2 N2 hp => backM_ F2 N2 G' fun kE => ret v h' tk' kE hp) F' N') (fun fl s' x => x) (fun _ _ x => x.elim)
end
section
variable {M : Model} {A : Around} {E : Value → Shared → Prop} {s : Shared} {h₀ : Heap} {L a c P : Addr} {m mg mb : Str → Option Value} {cn : Str} {cs : Scope} {ccd : Value} {cl : List (Str × Addr)} {others codes : List (Addr × Obj)}
  {p : Program} {loose : List Str} {mean : ExcName → Option Value} {name qual : Str} {params : Arguments} {body : List Stmt} {scope : Scope} {ps : Array Value} {pos : Pos} {firstLine : Nat} {clos : List (Str × Addr)}
theorem lt_P {P L : Addr} {tab : Obj} {codes others : List (Addr × Obj)} (hlt : ∀ q ∈ (P, tab) :: codes, q.1 < L) (hgt : ∀ q ∈ others, L < q.1) : ∀ q ∈ others, @Ne Nat q.1 P := fun q hq => Nat.ne_of_gt (Nat.lt_trans (hlt _ (.head _)) (hgt q hq))
theorem lt_c {P L : Addr} {tab : Obj} {codes others : List (Addr × Obj)} (hlt : ∀ q ∈ (P, tab) :: codes, q.1 < L) (hgt : ∀ q ∈ others, L < q.1) : ∀ q ∈ others, ∀ r ∈ codes, @Ne Nat q.1 r.1 := fun q hq r hr => Nat.ne_of_gt (Nat.lt_trans (hlt _ (.tail _ hr)) (hgt q hq))
theorem nest_any {Q : Value → Shared → Prop} (F : Fr h₀ L s.heap m) (N : News h₀ L s.heap (others ++ (P, tabObj ps) :: codes)) (T : Top p loose mean mg mb h₀) (C : CodeHd h₀ c P) (hcd : ccd = .ref c) {line col : Nat} (hT : TabSt P line col qual ps codes) {qualG : Str} (hq : qual = qualG) (hl : pos.line = line) (hcol : pos.col = col)
    (hP : ∀ q ∈ others, @Ne Nat q.1 P) (hc : ∀ q ∈ others, ∀ r ∈ codes, @Ne Nat q.1 r.1) (hcl : closureFor scope (envX cn cs L a ccd cl) = pure clos)
    (h : ∀ f c' oc vs t ctv doc h' tk, Fr h₀ L h' m →
      News h₀ L h' ((f, fnMade name qual params body scope clos doc ((mg "__name__").getD .none) c' ctv) :: (c', oc) :: (P, tabObj #[rawInt line, rawInt col, .ref c']) :: others) →
      oc.data = .fields vs → vs[1]? = some (.str qual t) → @Ne Nat P c' → (codes = [(c', oc)] ∨ codes = []) → (∀ q ∈ others, @Ne Nat q.1 c') → (∀ q ∈ (c', oc) :: (P, tabObj #[rawInt line, rawInt col, .ref c']) :: others, q.1 < f) → Q (.ref f) { s with heap := h', toks := tk }) :
    wpAny M A (makeFunction name qualG params (.stmts body) scope (envX cn cs L a ccd cl) [] [] [] pos firstLine) Q E s := by
  subst hl hcol hq
  rcases hT with ⟨rfl, rfl⟩ | ⟨c', oc, rfl, rfl, ⟨vs, t, hd, hv⟩, hne⟩
  · refine nest_K F (news := (P, tabObj #[]) :: others) (fun q hq => N q ?_) T C hcd (.head hP) True.intro rfl hcl fun f c' oc vs t ctv doc h' tk F' N' d1 d2 l1 l2 => ?_
    · rcases List.mem_cons.mp hq with rfl | hq
      · exact List.mem_append_right _ (.head _)
      · exact List.mem_append_left _ hq
    · refine h f c' oc vs t ctv doc h' tk F' N' d1 d2 (Nat.ne_of_lt (l1 _ (.head _))) (.inr rfl) (fun q hq => Nat.ne_of_lt (l1 _ (.tail _ hq))) fun q hq => ?_
      rcases List.mem_cons.mp hq with rfl | hq
      · exact l2
      rcases List.mem_cons.mp hq with rfl | hq
      · exact Nat.lt_trans (l1 (P, tabObj #[]) (.head _)) l2
      · exact Nat.lt_trans (l1 _ (.tail _ hq)) l2
  · refine nestHit_K (c' := c') F (news := (c', oc) :: (P, tabObj #[rawInt pos.line, rawInt pos.col, .ref c']) :: others) (fun q hq => N q ?_) T C hcd (.tail _ (.head _)) (by first | exact True.intro | (simp [TriplesOk, rawInt]; done)) (by first | rfl | (simp [codeAmong, rawInt]; done)) hcl fun f ctv doc h' tk F' N' l1 => ?_
    · rcases List.mem_cons.mp hq with rfl | hq
      · exact List.mem_append_right _ (.tail _ (.head _))
      rcases List.mem_cons.mp hq with rfl | hq
      · exact List.mem_append_right _ (.head _)
      · exact List.mem_append_left _ hq
    · exact h f c' oc vs t ctv doc h' tk F' N' hd hv hne (.inl rfl) (fun q hq => hc q hq _ (.head _)) l1
end
section
variable {w : World} {p : Program} {loose : List PySem.Str} {mean : ExcName → Option Value} {mg mb : PySem.Str → Option Value} {f : Addr} {room : Nat} {vs : List Value} {led : List (Addr × Obj)} {post : Heap → Value → Heap → Prop}
  {name qual : PySem.Str} {params : Arguments} {body : List Stmt} {scope : Scope} {dV kV doc pm cdv ct oc : Value} {an od : Option Addr} {osl : Array (Option Value)} {binds : List (PySem.Str × Value)}
theorem Cm.enterC3 {m₀ : PySem.Str → Option Value} {n1 n2 n3 : PySem.Str} {v1 v2 v3 : Option Value} (ho : (hd.heap_1 w.params).lookup f = some ⟨oc, od, .func (fnOf name qual params body scope dV kV doc pm an cdv ct), osl⟩) (hcd : codeIn (hd.heap_1 w.params) cdv qual = true)
    (hr : 1 ≤ room) (hbind : ∀ s, BindsTo s (fnOf name qual params body scope dV kV doc pm an cdv ct) ⟨vs, []⟩ binds) (hkind : (binds.all fun y => scope.names.lookup y.1 == some .local || scope.names.lookup y.1 == some .cell) = true)
    (hnd : ((cellsFrom 0 scope.names []).map (·.1)).Nodup) (hco : scope.isCoroutine = false) (hgen : scope.isGenerator = false) (hk : scope.kind = .function)
    (hcf : ∀ L', cellsFrom (L' + 1) scope.names [] = [(n3, L' + 1 + 1 + 1), (n2, L' + 1 + 1), (n1, L' + 1)]) (hm : ∀ L', (bindL (envOfC qual scope L' f cdv).kindOf binds fun _ => none) = m₀) (hcm : ∀ L', bindC (envOfC qual scope L' f cdv).kindOf binds (fun _ => none) n1 = v1 ∧ bindC (envOfC qual scope L' f cdv).kindOf binds (fun _ => none) n2 = v2 ∧ bindC (envOfC qual scope L' f cdv).kindOf binds (fun _ => none) n3 = v3)
    (h : ∀ (dp un : Nat) (gd : Option (List Code)) (outer : List Env) (A₀ : Around) (base g sh h₁ : Heap) (L' : Addr) (tk : Nat) (gs : Array GenState) (dr : Drawn) (os : OsState) (R : Value → Shared → Prop) (o1 o2 o3 : Obj),
      dp + (room - 1) < recursionLimit → un + 8 * (room - 1) < cLine → (∀ p ∈ led, p.1 < L') → GSub sh g (led.map (·.1)) → Below A₀ base outer g → (hd.heap_1 w.params).In g → Top p loose mean mg mb g → 
      (∀ v h' tk' L'' m' news', Fr g L'' h' m' → News g L'' h' news' → post sh v h' → R v ⟨h', gs, dr, tk', os⟩) → o1.data = .cell v1 → o2.data = .cell v2 → o3.data = .cell v3 →
      Fr g L' h₁ m₀ → News g L' h₁ ((L' + 1 + 1 + 1, o3) :: (L' + 1 + 1, o2) :: (L' + 1, o1) :: led) →
      wpAny (model (PySem.Challenge.rw_to0087_01).row.prog w) (AX dp un gd (envOfC qual scope L' f cdv) outer) (execs body (envOfC qual scope L' f cdv)) (RetTo R) (fun _ _ => False) ⟨h₁, gs, dr, tk, os⟩) :
    Cm w p loose mean mg mb PySem.Challenge.rw_to0087_01 f room vs led post := by
  refine Cm.enterC ho hcd hr hbind hkind hnd hco hgen hk fun dp un gd outer A₀ base g sh h₁ L' tk gs dr os cells R a b c d e f' g' ret Y F' N' => ?_
  rw [hcf] at Y
  rw [hm] at F'
  obtain ⟨o3, o2, o1, rfl, e3, e2, e1⟩ := Y.three
  obtain ⟨c1, c2, c3⟩ := hcm L'
  exact h dp un gd outer A₀ base g sh h₁ L' tk gs dr os R o1 o2 o3 a b c d e f' g' ret (e1.trans (congrArg Data.cell c1)) (e2.trans (congrArg Data.cell c2)) (e3.trans (congrArg Data.cell c3)) F' N'
end
end Mine
end
/-! # I2d -/
section
theorem Mine.reset_I2d : True := by (w_top off); k_with_none; trivial
open PySem PySem.W PyProof.Rows PySem.Calls PySem.Spec
set_option Elab.async false
set_option maxRecDepth 100000
set_option maxHeartbeats 400000000
open PyProof.Rows.LCg PyProof.Rows.LCt
namespace Mine

theorem i2_cnt_all : ((List.range 13).all fun b => (List.range 3).all fun n => decide (0 ≤ ((b : Int) + ((n : Int) + 1) - 1).fdiv ((n : Int) + 1) ∧ ((b : Int) + ((n : Int) + 1) - 1).fdiv ((n : Int) + 1) ≤ 12 ∧ (b : Int) ≤ ((n : Int) + 1) * ((b : Int) + ((n : Int) + 1) - 1).fdiv ((n : Int) + 1) ∧ (1 ≤ (b : Int) → 1 ≤ ((b : Int) + ((n : Int) + 1) - 1).fdiv ((n : Int) + 1)) ∧ ((b : Int) = 0 → ((b : Int) + ((n : Int) + 1) - 1).fdiv ((n : Int) + 1) = 0))) = true := by decide +kernel
theorem cnt_ok {b n : Nat} (h1 : b ≤ 12) (h2 : 1 ≤ n) (h3 : n ≤ 3) : 0 ≤ ((b : Int) + (n : Int) - 1).fdiv (n : Int) ∧ ((b : Int) + (n : Int) - 1).fdiv (n : Int) ≤ 12 ∧ (b : Int) ≤ (n : Int) * ((b : Int) + (n : Int) - 1).fdiv (n : Int) ∧ (1 ≤ (b : Int) → 1 ≤ ((b : Int) + (n : Int) - 1).fdiv (n : Int)) ∧ ((b : Int) = 0 → ((b : Int) + (n : Int) - 1).fdiv (n : Int) = 0) := by
  match n, h2, h3 with
  | n + 1, _, h3 => exact of_decide_eq_true (List.all_eq_true.mp (List.all_eq_true.mp i2_cnt_all b (List.mem_range.mpr (Nat.lt_succ_of_le h1))) n (List.mem_range.mpr h3))

theorem bits_all2 : ((List.range 4096).all fun n => decide (n < 2 ^ Builtin.Int.intBits ((n : Nat) : Int)) && (n == 0 || decide (1 ≤ Builtin.Int.intBits ((n : Nat) : Int)))) = true := by decide +kernel
theorem bits_lt {a : Int} (h0 : 0 ≤ a) (h1 : a < 4096) : a < 2 ^ Builtin.Int.intBits a ∧ (a ≠ 0 → 1 ≤ Builtin.Int.intBits a) := by
  obtain ⟨n, rfl⟩ := Int.eq_ofNat_of_zero_le h0
  have z := bits_all2
  simp only [List.all_eq_true, List.mem_range, Bool.and_eq_true, Bool.or_eq_true, decide_eq_true_eq, beq_iff_eq] at z
  obtain ⟨z1, z2⟩ := z n (Int.ofNat_lt.mp h1)
  refine ⟨?_, fun hn => ?_⟩
  · exact_mod_cast z1
  · rcases z2 with z2 | z2
    · exact absurd (by rw [z2]; rfl) hn
    · exact z2
theorem mid_all : ((List.range 13).all fun l => (List.range 13).all fun r => decide (l < r → (l : Int) ≤ ((l : Int) + (r : Int)).fdiv (2 ^ Int.toNat 1) ∧ ((l : Int) + (r : Int)).fdiv (2 ^ Int.toNat 1) < (r : Int) ∧ ((l : Int) + 1 ≠ (r : Int) → (l : Int) < ((l : Int) + (r : Int)).fdiv (2 ^ Int.toNat 1)))) = true := by decide +kernel
theorem mid_ok {L R : Int} (h0 : 0 ≤ L) (h : L < R) (h1 : R ≤ 12) : L ≤ (L + R).fdiv (2 ^ Int.toNat 1) ∧ (L + R).fdiv (2 ^ Int.toNat 1) < R ∧ (L + 1 ≠ R → L < (L + R).fdiv (2 ^ Int.toNat 1)) := by
  obtain ⟨l, rfl⟩ := Int.eq_ofNat_of_zero_le h0
  obtain ⟨r, rfl⟩ := Int.eq_ofNat_of_zero_le (Int.le_trans h0 (Int.le_of_lt h))
  have hr : r < 13 := Nat.lt_succ_of_le (Int.ofNat_le.mp h1)
  have hl := Int.ofNat_lt.mp h
  exact of_decide_eq_true (List.all_eq_true.mp (List.all_eq_true.mp mid_all l (List.mem_range.mpr (Nat.lt_trans hl hr))) r (List.mem_range.mpr hr)) hl
theorem shift_all : ((List.range 13).all fun a => (List.range 4).all fun n => decide (0 ≤ (a : Int) * (n : Int) ∧ (a : Int) * (n : Int) ≤ 36)) = true := by decide +kernel
theorem shift_ok {a : Int} {n : Nat} (h0 : 0 ≤ a) (h1 : a ≤ 12) (h : n ≤ 3) : 0 ≤ a * (n : Int) ∧ a * (n : Int) ≤ 36 := by
  obtain ⟨l, rfl⟩ := Int.eq_ofNat_of_zero_le h0
  exact of_decide_eq_true (List.all_eq_true.mp (List.all_eq_true.mp shift_all l (List.mem_range.mpr (Nat.lt_succ_of_le (Int.ofNat_le.mp h1)))) n (List.mem_range.mpr (Nat.lt_succ_of_le h)))
theorem upper_ok {x : Int} (h0 : 0 ≤ x) (h1 : x < 4096) (s : Nat) : 0 ≤ x.fdiv (2 ^ s) ∧ x.fdiv (2 ^ s) ≤ x := by
  have hp : (0 : Int) < 2 ^ s := Int.pow_pos (by decide)
  rw [Int.fdiv_eq_ediv_of_nonneg _ (Int.le_of_lt hp)]
  exact ⟨Int.ediv_nonneg h0 (Int.le_of_lt hp), Int.ediv_le_self _ h0⟩

theorem split_ok {x L R : Int} {n k : Nat} (hk0 : R - L = k) (hL : 0 ≤ L) (hLR : L < R) (hR12 : R ≤ 12) (h2 : 1 ≤ n) (hx0 : 0 ≤ x) (hxk : x < (2 ^ n) ^ k) (hx4 : x < 4096) (hne : L + 1 ≠ R) :
    ∃ k1 k2 : Nat, (L + R).fdiv (2 ^ Int.toNat 1) - L = k1 ∧ R - (L + R).fdiv (2 ^ Int.toNat 1) = k2 ∧ k1 < k ∧ k2 < k ∧ k = k1 + k2 ∧
      0 ≤ Builtin.bitXor x (x.fdiv (2 ^ (((L + R).fdiv (2 ^ Int.toNat 1) - L) * (n : Int)).toNat) * 2 ^ (((L + R).fdiv (2 ^ Int.toNat 1) - L) * (n : Int)).toNat) ∧
      Builtin.bitXor x (x.fdiv (2 ^ (((L + R).fdiv (2 ^ Int.toNat 1) - L) * (n : Int)).toNat) * 2 ^ (((L + R).fdiv (2 ^ Int.toNat 1) - L) * (n : Int)).toNat) < (2 ^ n) ^ k1 ∧
      Builtin.bitXor x (x.fdiv (2 ^ (((L + R).fdiv (2 ^ Int.toNat 1) - L) * (n : Int)).toNat) * 2 ^ (((L + R).fdiv (2 ^ Int.toNat 1) - L) * (n : Int)).toNat) < 4096 ∧
      0 ≤ x.fdiv (2 ^ (((L + R).fdiv (2 ^ Int.toNat 1) - L) * (n : Int)).toNat) ∧ x.fdiv (2 ^ (((L + R).fdiv (2 ^ Int.toNat 1) - L) * (n : Int)).toNat) < (2 ^ n) ^ k2 ∧ x.fdiv (2 ^ (((L + R).fdiv (2 ^ Int.toNat 1) - L) * (n : Int)).toNat) < 4096 ∧
      Builtin.bitXor x (x.fdiv (2 ^ (((L + R).fdiv (2 ^ Int.toNat 1) - L) * (n : Int)).toNat) * 2 ^ (((L + R).fdiv (2 ^ Int.toNat 1) - L) * (n : Int)).toNat) + (2 ^ n) ^ k1 * x.fdiv (2 ^ (((L + R).fdiv (2 ^ Int.toNat 1) - L) * (n : Int)).toNat) = x := by
  obtain ⟨h1, h2', h3⟩ := mid_ok hL hLR hR12
  have h3 := h3 hne
  generalize (L + R).fdiv (2 ^ Int.toNat 1) = M at h1 h2' h3 ⊢
  obtain ⟨k1, hk1⟩ := Int.eq_ofNat_of_zero_le (Int.sub_nonneg.mpr h1)
  obtain ⟨k2, hk2⟩ := Int.eq_ofNat_of_zero_le (Int.sub_nonneg.mpr (Int.le_of_lt h2'))
  have hk : k = k1 + k2 := Int.ofNat_inj.mp (by rw [Int.natCast_add, ← hk1, ← hk2, ← hk0, Int.add_comm, ← Int.add_sub_assoc, Int.sub_add_cancel])
  have p1 : 0 < k1 := Int.natCast_pos.mp (hk1 ▸ Int.sub_pos_of_lt h3)
  have p2 : 0 < k2 := Int.natCast_pos.mp (hk2 ▸ Int.sub_pos_of_lt h2')
  have es : ((M - L) * (n : Int)).toNat = n * k1 := by
    rw [hk1]
    have : (k1 : Int) * (n : Int) = ((n * k1 : Nat) : Int) := by rw [Int.natCast_mul, Int.mul_comm]
    rw [this, Int.toNat_natCast]
  rw [es, xor_low hx0]
  have ep : (2 : Int) ^ (n * k1) = (2 ^ n) ^ k1 := Int.pow_mul
  have hp : (0 : Int) < (2 ^ n) ^ k1 := Int.pow_pos (Int.pow_pos (by decide))
  rw [ep, Int.fmod_eq_emod_of_nonneg _ (Int.le_of_lt hp), Int.fdiv_eq_ediv_of_nonneg _ (Int.le_of_lt hp)]
  have e1 := Int.emod_nonneg x (Int.ne_of_gt hp)
  have e2 := Int.emod_lt_of_pos x hp
  have e3 := Int.emod_add_mul_ediv x ((2 ^ n) ^ k1)
  have e4 : 0 ≤ x / (2 ^ n) ^ k1 := Int.ediv_nonneg hx0 (Int.le_of_lt hp)
  have e5 := Int.ediv_le_self ((2 ^ n) ^ k1) hx0
  have e6 : x / (2 ^ n) ^ k1 < (2 ^ n) ^ k2 := by
    refine Int.ediv_lt_of_lt_mul hp ?_
    rw [← Int.pow_add, Nat.add_comm, ← hk]; exact hxk
  have e7 : 0 ≤ (2 ^ n) ^ k1 * (x / (2 ^ n) ^ k1) := Int.mul_nonneg (Int.le_of_lt hp) e4
  have e8 : x % (2 ^ n) ^ k1 ≤ x := by have z := Int.le_add_of_nonneg_right (a := x % (2 ^ n) ^ k1) e7; rwa [e3] at z
  exact ⟨k1, k2, hk1, hk2, hk ▸ Nat.lt_add_of_pos_right p2, hk ▸ Nat.lt_add_of_pos_left p1, hk, e1, e2, Int.lt_of_le_of_lt e8 hx4, e4, e6, Int.lt_of_le_of_lt e5 hx4, e3⟩

theorem lt_of_bits {a D : Int} {b n k : Nat} (h : a < 2 ^ b) (h2 : (b : Int) ≤ (n : Int) * D) (hk : (k : Int) = D) : a < (2 ^ n) ^ k := by
  subst hk
  have h3 : b ≤ n * k := by exact_mod_cast h2
  rw [← Int.pow_mul]
  have : (2 : Int) ^ b ≤ 2 ^ (n * k) := by exact_mod_cast Nat.pow_le_pow_right (by decide) h3
  exact Int.lt_of_lt_of_le h this

noncomputable abbrev InPost (n : Nat) (A f c' cA cI cN : Addr) (fo oc oA oI oN : Obj) (k : Nat) (x L R : Int) (zs : List Int) (kk : Nat) (rv : Value) (h' : Heap) : Prop :=
  rv = .none ∧ (∀ q ∈ [(f, fo), (c', oc), (cA, oA), (cI, oI), (cN, oN)], h'.get? q.1 = some q.2) ∧ ∃ vs' ds, h'.get? A = some (W.listOf (List.toArray vs') kk) ∧ IntsAre vs' (zs.take L.toNat ++ ds ++ zs.drop R.toNat) ∧ ds.length = k ∧ valD (2 ^ n) ds = x ∧ DigOk (2 ^ n) ds
noncomputable abbrev InC (w : World) (p : Program) (loose : List PySem.Str) (mean : ExcName → Option Value) (mg mb : PySem.Str → Option Value) (law : OpenLaw) (n : Nat) (A f c' cA cI cN : Addr) (fo oc oA oI oN : Obj) (k : Nat) : Prop :=
  ∀ (x L R : Int) (tx tL tR : Tok) (vs : List Value) (zs : List Int) (kk : Nat), R - L = k → 0 ≤ L → L < R → R ≤ zs.length → zs.length ≤ 12 → 0 ≤ x → x < (2 ^ n) ^ k → x < 4096 → IntsAre vs zs →
   Cm w p loose mean mg mb law f (6 + 2 * k) [.int x tx, .int L tL, .int R tR] [(A, W.listOf vs.toArray kk), (f, fo), (c', oc), (cA, oA), (cI, oI), (cN, oN)] (fun _ rv h' => InPost n A f c' cA cI cN fo oc oA oI oN k x L R zs kk rv h')
theorem in_use {w : World} {p : Program} {loose : List PySem.Str} {mean : ExcName → Option Value} {mg mb : PySem.Str → Option Value} {law : OpenLaw} {n : Nat} {A f c' cA cI cN : Addr} {fo oc oA oI oN : Obj}
  {dp un : Nat} {gd : Option (List Code)} {cn : PySem.Str} {cs : Scope} {L₁ a : Addr} {ccd : Value} {cl : List (PySem.Str × Addr)} {outer : List Env} {A₀ : Around} {base h₀ : Heap} {m : PySem.Str → Option Value} {s : Shared} {Q E : Value → Shared → Prop} {all : List (Addr × Obj)}
  {x L R : Int} {tx tL tR : Tok} {vs : List Value} {kk : Nat}
    (F : Fr h₀ L₁ s.heap m) (N : News h₀ L₁ s.heap all) (others : List (Addr × Obj)) (hs : ∀ q ∈ [(A, W.listOf vs.toArray kk), (f, fo), (c', oc), (cA, oA), (cI, oI), (cN, oN)], q ∈ all) (ho : ∀ q ∈ others, q ∈ all ∧ q.1 ∉ [A, f, c', cA, cI, cN])
    (B : Below A₀ base outer h₀) (X : (hd.heap_1 w.params).In h₀) (T : Top p loose mean mg mb h₀) (hk : cs.kind = .function)
    (k : Nat) (C : InC w p loose mean mg mb law n A f c' cA cI cN fo oc oA oI oN k) (zs : List Int) (h1 : R - L = k) (h2 : 0 ≤ L) (h3 : L < R) (h4 : R ≤ zs.length) (h5 : zs.length ≤ 12) (h6 : 0 ≤ x) (h7 : x < (2 ^ n) ^ k) (h8 : x < 4096) (h9 : IntsAre vs zs)
    (hd : dp + (6 + 2 * k) < recursionLimit) (hu : un + 8 * (6 + 2 * k) < cLine)
    (h : ∀ (h' : Heap) (tk' : Nat) (vs' : List Value) (ds : List Int), Fr h₀ L₁ h' m → News h₀ L₁ h' ((A, W.listOf vs'.toArray kk) :: (f, fo) :: (c', oc) :: (cA, oA) :: (cI, oI) :: (cN, oN) :: others) → IntsAre vs' (zs.take L.toNat ++ ds ++ zs.drop R.toNat) → ds.length = k → valD (2 ^ n) ds = x → DigOk (2 ^ n) ds → Q .none { s with heap := h', toks := tk' }) :
    wpAny (model law.row.prog w) (ktrTop dp un gd cn cs L₁ a ccd cl outer) (call (.ref f) [.int x tx, .int L tL, .int R tR]) Q E s := by
  refine Cm.useS (C x L R tx tL tR vs zs kk h1 h2 h3 h4 h5 h6 h7 h8 h9) B F N X T hk hd hu hs others ho fun v h' tk' F' N' hp => ?_
  obtain ⟨rfl, hk2, vs', ds, e1, e2, e3, e4, e5⟩ := hp
  refine h h' tk' vs' ds F' (N' [(A, W.listOf vs'.toArray kk), (f, fo), (c', oc), (cA, oA), (cI, oI), (cN, oN)] fun q hq => ⟨?_, .inl ?_⟩) e2 e3 e4 e5
  · rcases List.mem_cons.mp hq with rfl | hq
    · exact e1
    · exact hk2 q hq
  · simp only [List.mem_cons, List.not_mem_nil, or_false, List.map_cons, List.map_nil] at hq ⊢
    rcases hq with rfl | rfl | rfl | rfl | rfl | rfl <;> simp

theorem in_rec {w : World} {p : Program} {loose : List PySem.Str} {mean : ExcName → Option Value} {mg mb : PySem.Str → Option Value} {law : OpenLaw} {n : Nat} {A f c' cA cI cN : Addr} {oc oA oI oN : Obj}
  {dp un : Nat} {gd : Option (List Code)} {cn : PySem.Str} {cs : Scope} {L₁ a : Addr} {ccd : Value} {cl : List (PySem.Str × Addr)} {outer : List Env} {A₀ : Around} {base h₀ : Heap} {m : PySem.Str → Option Value} {s : Shared} {Q E : Value → Shared → Prop} {all : List (Addr × Obj)}
  {nm ql y1 y2 y3 : PySem.Str} {ps : Arguments} {bd : List Stmt} {sc : Scope} {doc pm ctv : Value} {vs0 : Array Value} {t0 tn : Tok}
  {x L R : Int} {tx tL tR : Tok} {vs : List Value} {kk : Nat}
    (F : Fr h₀ L₁ s.heap m) (N : News h₀ L₁ s.heap all)
    (m2 : (f, fnMade nm ql ps bd sc [(y1, cN), (y2, cI), (y3, cA)] doc pm c' ctv) ∈ all) (m3 : (c', oc) ∈ all) (m4 : (cA, oA) ∈ all) (m5 : (cI, oI) ∈ all) (m6 : (cN, oN) ∈ all)
    (d4 : oA.data = .cell (some (.ref A))) (d5 : oI.data = .cell (some (.ref f))) (d6 : oN.data = .cell (some (.int (n : Int) tn))) (dc : oc.data = .fields vs0) (dv : vs0[1]? = some (.str ql t0)) (m1 : (A, W.listOf vs.toArray kk) ∈ all)
    (n1 : @Ne Nat f A) (n2 : @Ne Nat c' A) (n3 : @Ne Nat cA A) (n4 : @Ne Nat cI A) (n5 : @Ne Nat cN A)
    (others : List (Addr × Obj)) (ho : ∀ q ∈ others, q ∈ all ∧ q.1 ∉ [A, f, c', cA, cI, cN])
    (B : Below A₀ base outer h₀) (X : (hd.heap_1 w.params).In h₀) (T : Top p loose mean mg mb h₀) (hk : cs.kind = .function)
    (step : vs0[1]? = some (.str ql t0) → ∀ k, (∀ j, j < k → InC w p loose mean mg mb law n A f c' cA cI cN (fnMade nm ql ps bd sc [(y1, cN), (y2, cI), (y3, cA)] doc pm c' ctv) oc oA oI oN j) → InC w p loose mean mg mb law n A f c' cA cI cN (fnMade nm ql ps bd sc [(y1, cN), (y2, cI), (y3, cA)] doc pm c' ctv) oc oA oI oN k)
    (k : Nat) (zs : List Int) (h1 : R - L = k) (h2 : 0 ≤ L) (h3 : L < R) (h4 : R ≤ zs.length) (h5 : zs.length ≤ 12) (h6 : 0 ≤ x) (h7 : x < (2 ^ n) ^ k) (h8 : x < 4096) (h9 : IntsAre vs zs)
    (hd : dp + (6 + 2 * k) < recursionLimit) (hu : un + 8 * (6 + 2 * k) < cLine)
    (h : ∀ (h' : Heap) (tk' : Nat) (vs' : List Value) (ds : List Int), Fr h₀ L₁ h' m → News h₀ L₁ h' ((A, W.listOf vs'.toArray kk) :: (f, fnMade nm ql ps bd sc [(y1, cN), (y2, cI), (y3, cA)] doc pm c' ctv) :: (c', oc) :: (cA, oA) :: (cI, oI) :: (cN, oN) :: others) → IntsAre vs' (zs.take L.toNat ++ ds ++ zs.drop R.toNat) → ds.length = k → valD (2 ^ n) ds = x → DigOk (2 ^ n) ds → Q .none { s with heap := h', toks := tk' }) :
    wpAny (model law.row.prog w) (ktrTop dp un gd cn cs L₁ a ccd cl outer) (call (.ref f) [.int x tx, .int L tL, .int R tR]) Q E s := by
  refine in_use F N others (fun q hq => ?_) ho B X T hk k (Nat.strongRecOn k (step dv)) zs h1 h2 h3 h4 h5 h6 h7 h8 h9 hd hu h
  simp only [List.mem_cons, List.not_mem_nil, or_false] at hq
  rcases hq with rfl | rfl | rfl | rfl | rfl | rfl <;> assumption

theorem in_post {A f c' cA cI cN : Addr} {fo oc oA oI oN : Obj} {k n kk : Nat} {x L R : Int} {zs ds : List Int} {vs' : List Value} {g h' : Heap} {L₁ : Addr} (N : News g L₁ h' [(A, W.listOf vs'.toArray kk), (f, fo), (c', oc), (cA, oA), (cI, oI), (cN, oN)])
    (hi : IntsAre vs' (zs.take L.toNat ++ ds ++ zs.drop R.toNat)) (h1 : ds.length = k) (h2 : valD (2 ^ n) ds = x) (h3 : DigOk (2 ^ n) ds) : InPost n A f c' cA cI cN fo oc oA oI oN k x L R zs kk .none h' :=
  ⟨rfl, fun q hq => (N q (List.mem_cons_of_mem _ hq)).1, vs', ds, (N _ List.mem_cons_self).1, hi, h1, h2, h3⟩
theorem in_one {zs : List Int} {L R x : Int} {k n : Nat} (hk0 : R - L = k) (hL : 0 ≤ L) (hR : R ≤ zs.length) (e : L + 1 = R) (hx0 : 0 ≤ x) (hxk : x < (2 ^ n) ^ k) : zs.set L.toNat x = zs.take L.toNat ++ [x] ++ zs.drop R.toNat ∧ ([x] : List Int).length = k ∧ valD (2 ^ n) [x] = x ∧ DigOk (2 ^ n) [x] := by
  have hk : k = 1 := Int.ofNat_inj.mp (by rw [← hk0, ← e, Int.add_comm, Int.add_sub_cancel]; rfl)
  subst hk
  refine ⟨?_, rfl, ?_, fun d hd => ?_⟩
  · have e2 : R.toNat = L.toNat + 1 := by rw [← e, Int.toNat_add hL (by decide)]; rfl
    rw [e2, List.set_eq_take_append_cons_drop, if_pos ((Int.toNat_lt hL).mpr (Int.lt_of_lt_of_le (e ▸ Int.lt_succ L) hR))]
    simp
  · simp [valD]
  · rw [List.mem_singleton.mp hd]
    exact ⟨hx0, by rwa [Int.pow_succ, Int.pow_zero, Int.one_mul] at hxk⟩
theorem mid_nat {L M : Int} {k : Nat} (hL : 0 ≤ L) (e : M - L = k) : M.toNat = L.toNat + k := by
  obtain ⟨l, rfl⟩ := Int.eq_ofNat_of_zero_le hL
  obtain rfl : M = ((l + k : Nat) : Int) := by rw [Int.natCast_add, ← e, Int.add_comm, Int.sub_add_cancel]
  rfl
theorem take_len {zs : List Int} {L M : Int} {k : Nat} (hL : 0 ≤ L) (hM : M ≤ zs.length) (e : M - L = k) : (zs.take L.toNat).length = L.toNat := by
  have z : M.toNat ≤ zs.length := Int.toNat_le.mpr hM
  rw [mid_nat hL e] at z
  exact List.length_take_of_le (Nat.le_trans (Nat.le_add_right _ _) z)
theorem in_two {zs ds ds2 : List Int} {L M R x xl xu : Int} {k k1 k2 n : Nat} (hL : 0 ≤ L) (hR : R ≤ zs.length) (e1 : M - L = k1) (e2 : R - M = k2) (hk : k = k1 + k2) (l1 : ds.length = k1) (l2 : ds2.length = k2) (v1 : valD (2 ^ n) ds = xl) (v2 : valD (2 ^ n) ds2 = xu)
    (hx : xl + (2 ^ n) ^ k1 * xu = x) (o1 : DigOk (2 ^ n) ds) (o2 : DigOk (2 ^ n) ds2) :
    (zs.take L.toNat ++ ds ++ zs.drop M.toNat).take M.toNat ++ ds2 ++ (zs.take L.toNat ++ ds ++ zs.drop M.toNat).drop R.toNat = zs.take L.toNat ++ (ds ++ ds2) ++ zs.drop R.toNat ∧ (ds ++ ds2).length = k ∧ valD (2 ^ n) (ds ++ ds2) = x ∧ DigOk (2 ^ n) (ds ++ ds2) := by
  have lM : M - L = ((k1 : Nat) : Int) := e1
  have hM0 : 0 ≤ M := by rw [← Int.sub_add_cancel M L, e1]; exact Int.add_nonneg (Int.natCast_nonneg _) hL
  have hMR : M ≤ R := Int.sub_nonneg.mp (e2 ▸ Int.natCast_nonneg _)
  have lt : (zs.take L.toNat ++ ds).length = M.toNat := by rw [List.length_append, take_len hL (Int.le_trans hMR hR) e1, l1, mid_nat hL e1]
  refine ⟨?_, by rw [List.length_append, l1, l2, hk], by rw [valD_app, v1, v2, l1]; exact hx, o1.app o2⟩
  rw [List.take_append_of_le_length (Nat.le_of_eq lt.symm), List.take_of_length_le (Nat.le_of_eq lt)]
  have e3 : R.toNat = (zs.take L.toNat ++ ds).length + k2 := by rw [lt, mid_nat hM0 e2]
  have e4 : ∀ a b : List Int, (a ++ b).drop (a.length + k2) = b.drop k2 := fun a b => by rw [List.drop_append]; simp
  rw [e3, e4, List.drop_drop, lt]
  have e5 : M.toNat + k2 = M.toNat + k2 := rfl
  simp only [List.append_assoc]
theorem in_len {zs ds : List Int} {L M : Int} {k1 : Nat} (hL : 0 ≤ L) (hM : M ≤ zs.length) (e1 : M - L = k1) (l1 : ds.length = k1) : (zs.take L.toNat ++ ds ++ zs.drop M.toNat).length = zs.length := by
  rw [List.length_append, List.length_append, take_len hL hM e1, List.length_drop, l1, ← mid_nat hL e1, Nat.add_sub_cancel' (Int.toNat_le.mpr hM)]

noncomputable abbrev I2dPost (a : Int) (n : Nat) (codes : List (Addr × Obj)) (h : Heap) (rv : Value) (h' : Heap) : Prop :=
  ∃ r vs kk ds, rv = .ref r ∧ h'.get? r = some (W.listOf (List.toArray vs) kk) ∧ h.get? r = none ∧ IntsAre vs ds ∧ valD (2 ^ n) ds = a ∧ DigOk (2 ^ n) ds ∧ ds.length ≤ 12 ∧ TabNow 61 45 4 (PySem.Str.ofString "_int2digits.<locals>.inner") codes h h'

theorem bits_zero : ((Builtin.Int.intBits 0 : Nat) : Int) = 0 := by decide +kernel
theorem i2d_fin {zs ds : List Int} {k : Nat} (e : zs.length = k) : zs.take (Int.toNat 0) ++ ds ++ zs.drop (Int.toNat (k : Int)) = ds := by
  rw [Int.toNat_natCast, ← e, List.drop_length]; simp
theorem mul_zero {prog : Program} {w : World} {A : Around} {E : Value → Shared → Prop} {s : Shared} {h₀ : Heap} {L : Addr} {m : PySem.Str → Option Value} {all : List (Addr × Obj)} {l : Addr} {b : Int} {t u : Tok} {Q : Value → Shared → Prop}
    (F : Fr h₀ L s.heap m) (N : News h₀ L s.heap ((l, W.listOf #[.int 0 t] 0) :: all)) (h0 : 0 ≤ b) (h1 : b ≤ 12)
    (h : ∀ (D : Addr) (h' : Heap) (vs : List Value) (zs : List Int), Fr h₀ L h' m → News h₀ L h' ((D, W.listOf (List.toArray vs) 0) :: all) → (∀ q ∈ all, q.1 < D) → IntsAre vs zs → (zs.length : Int) = b → Q (.ref D) { s with heap := h' }) :
    wpAny (model prog w) A (binaryOp .Mult (.ref l) (.int b u)) Q E s := by
  refine KM.mul F N ⟨_, (N _ (.head _)).1, rfl, _, rfl⟩ (IntsAre.cons 0 t .nil) (Int.le_trans (by decide) h0) (Int.lt_of_le_of_lt h1 (by decide)) (KM.size_of 1 16777216 (IntsAre.cons 0 t .nil) (by decide) (Int.le_trans h1 (by decide)) (by decide)) fun D h' F' N' l1 i1 n e1 e2 e3 e4 => ?_
  refine h D h' _ _ F' (fun q hq => N' q ?_) (fun q hq => l1 _ (.tail _ hq)) i1 ?_
  · rcases List.mem_cons.mp hq with rfl | hq
    · exact .head _
    · exact .tail _ (.tail _ hq)
  · rw [e2, e4 h0]; simp
theorem apart_codes {P : Addr} {line col : Nat} {qual : PySem.Str} {ps : Array Value} {codes : List (Addr × Obj)} (hT : TabSt P line col qual ps codes) {c : Addr} : ApartOr c codes := by
  rcases hT with ⟨_, rfl⟩ | ⟨c', oc, _, rfl, ⟨vs, t, hd, _⟩, _⟩
  · trivial
  · exact ⟨.inr (fun v e => nomatch hd.symm.trans e), trivial⟩
theorem i2d_post {a : Int} {n : Nat} {h g h' : Heap} {L' r c' : Addr} {oc : Obj} {ps : Array Value} {codes all : List (Addr × Obj)} {vs : List Value} {kk : Nat} {ds : List Int} {vs0 : Array Value} {t0 : Tok} (G : GSub h g (((61, tabObj ps) :: codes).map (·.1))) (N : News g L' h' all) (mr : (r, W.listOf vs.toArray kk) ∈ all)
    (mT : (61, tabObj #[rawInt ((45 : Nat) : Int), rawInt ((4 : Nat) : Int), .ref c']) ∈ all) (mc : (c', oc) ∈ all) (hl : ∀ q ∈ (61, tabObj ps) :: codes, q.1 < L') (hr : L' < r) (hi : IntsAre vs ds) (hv : valD (2 ^ n) ds = a) (hd : DigOk (2 ^ n) ds) (hlen : ds.length ≤ 12)
    (hc1 : oc.data = .fields vs0) (hc2 : vs0[1]? = some (.str (PySem.Str.ofString "_int2digits.<locals>.inner") t0)) (hne : @Ne Nat 61 c') (hcodes : codes = [(c', oc)] ∨ codes = []) : I2dPost a n codes h (.ref r) h' := by
  have off : ∀ {b : Addr}, L' < b → b ∉ ((61, tabObj ps) :: codes).map (·.1) := fun hb hm => by
    obtain ⟨q, hq, rfl⟩ := List.mem_map.mp hm
    exact Nat.lt_asymm hb (hl q hq)
  exact ⟨r, vs, kk, ds, rfl, (N _ mr).1, new_of G N mr (off hr), hi, hv, hd, hlen, c', oc, (N _ mT).1, (N _ mc).1, ⟨vs0, t0, hc1, hc2⟩, hne, hcodes.imp id fun e => new_of G N mc fun hm => hne (List.mem_singleton.mp (by subst e; exact hm)).symm⟩
theorem i2d_nil {a b : Int} {n : Nat} {zs : List Int} (ha : a = 0) (hb : ((Builtin.Int.intBits a : Nat) : Int) = 0 → b = 0) (hl : (zs.length : Int) = b) : valD (2 ^ n) zs = a ∧ DigOk (2 ^ n) zs ∧ zs.length ≤ 12 := by
  have e := hb (by rw [ha]; exact bits_zero)
  have : zs = [] := List.eq_nil_of_length_eq_zero (Int.ofNat_inj.mp (hl.trans e))
  subst this ha
  exact ⟨rfl, (fun d hd => nomatch hd), Nat.zero_le _⟩
theorem six_le {k : Nat} (h : k ≤ 12) : 6 + 2 * k ≤ 40 - 1 := Nat.le_trans (Nat.add_le_add_left (Nat.mul_le_mul_left 2 h) 6) (by decide)
theorem two_le {j k : Nat} (h : j < k) : 6 + 2 * j ≤ 6 + 2 * k - 1 := Nat.le_sub_one_of_lt (Nat.add_lt_add_left (Nat.mul_lt_mul_of_pos_left h (by decide)) 6)
theorem off_six {a f c L : Nat} (h1 : 61 ≠ a) (h2 : 61 ≠ f) (h3 : 61 ≠ c) (h : 61 < L) : (61 : Nat) ∉ [a, f, c, L + 1 + 1, L + 1 + 1 + 1, L + 1] := by
  simp only [List.mem_cons, List.not_mem_nil, or_false, not_or]
  exact ⟨h1, h2, h3, Nat.ne_of_lt (Nat.lt_of_lt_of_le h (Nat.le_add_right L 2)), Nat.ne_of_lt (Nat.lt_of_lt_of_le h (Nat.le_add_right L 3)), Nat.ne_of_lt (Nat.lt_of_lt_of_le h (Nat.le_add_right L 1))⟩
theorem gt4 {L' D : Addr} {a b c d : Obj} (h : L' < D) : ∀ q ∈ [(D, a), (L' + 1 + 1 + 1, b), (L' + 1 + 1, c), (L' + 1, d)], L' < q.1 := by
  simp only [List.forall_mem_cons, List.not_mem_nil, false_implies, implies_true, and_true]
  exact ⟨h, Nat.lt_succ_of_lt (Nat.lt_succ_of_lt (Nat.lt_succ_self L')), Nat.lt_succ_of_lt (Nat.lt_succ_self L'), Nat.lt_succ_self L'⟩
section
theorem t_i2d (w : World) {p : Program} {loose : List PySem.Str} {mean : ExcName → Option Value} {mg mb : PySem.Str → Option Value} (a : Int) (n : Nat) (ta tb : Tok) (h0 : 0 ≤ a) (h1 : a < 4096) (h2 : 1 ≤ n) (h3 : n ≤ 3) {ps : Array Value} {codes : List (Addr × Obj)} (hT : TabSt 61 45 4 (PySem.Str.ofString "_int2digits.<locals>.inner") ps codes) :
    Cm w p loose mean mg mb PySem.Challenge.rw_to0087_01 66 40 [.int a ta, .int (n : Int) tb] ((61, tabObj ps) :: codes) (fun h rv h' => I2dPost a n codes h rv h') := by
  k_with_none
  k_with "binaryOp Mult ref int" => (k_here; refine halt ?_)
  k_with "call ref" => (k_here; refine halt ?_)
  k_with "exec FunctionDef" => (k_here; refine halt ?_)
  k_dflt (refine' Cm.enterC3 (binds := [(PySem.Str.ofString "a", .int a ta), (PySem.Str.ofString "n", .int (n : Int) tb)]) (m₀ := fun y => if y = PySem.Str.ofString "a" then some (.int a ta) else none) (v1 := some (.int (n : Int) tb)) (v2 := none) (v3 := none) ?ho ?hcd ?hr ?hb ?hkd ?hnd ?c2 ?c3 ?c4 ?hcf ?hm ?hcm ?h); all_goals (try k_fill)
  case ho => k_is
  case hcd => k_is
  case hr => decide
  case hb => exact fun s => BindsTo.of_eq rfl
  case hkd => exact rfl
  case hnd => decide +kernel
  case c2 => exact rfl
  case c3 => exact rfl
  case c4 => exact rfl
  case hcf => exact fun _ => rfl
  case hm => exact fun _ => rfl
  case hcm => exact fun _ => ⟨rfl, rfl, rfl⟩
  intro dp un gd outer A₀ base g sh h' L' tk gs dr os R o1 o2 o3 hdp hun l1 G' B' X' T' hret e1 e2 e3 F' N'
  (try dsimp only)
  have CH : CodeHd g 65 61 := codeHd_of_K X' (by kernel_rfl)
  have hb := bits_le h0 h1
  obtain ⟨hD0, hD1, hD2, hD3, hD4⟩ := cnt_ok (b := Builtin.Int.intBits a) (n := n) hb h2 h3
  have l0 := l1
  k_lt l1
  w_strict k_steps
  unfold Halt
  clear l1
  generalize (((Builtin.Int.intBits a : Nat) : Int) + (n : Int) - 1).fdiv (n : Int) = K at hD0 hD1 hD2 hD3 hD4 ⊢
  k_dflt (refine' mul_zero ?zF ?zN hD0 hD1 ?_; (case zF => k_asm); (case zN => k_asm))
  intro D' h' vs zs F' N' lD hvz hlen
  have lr : L' < D' := Nat.lt_of_succ_lt (lD _ (List.mem_cons_of_mem _ (List.mem_cons_of_mem _ (List.mem_cons_self))))
  (try dsimp only)
  w_strict k_steps
  k_dflt (refine stCNk (own := [(D', _), (L' + 1 + 1 + 1, _)]) F' N' rfl e2 ⟨.inr (fun v e => nomatch e), .inl (Nat.ne_of_gt (Nat.lt_succ_self _)), trivial⟩ ⟨.inl (Nat.ne_of_lt (Nat.lt_succ_self _)), .inr (fun v e => nomatch e), apart_codes hT⟩ ?_ rfl rfl)
  intro h' o2' F' N' e2'
  (try dsimp only at N' e2' ⊢)
  w_strict k_steps
  unfold Halt
  k_dflt (refine' nestDef_K ?d0 ?k0 ?a0 ?_; (case d0 => exact rfl); (case k0 => exact rfl); (case a0 => exact rfl))
  k_dflt (refine' nest_any (others := [(D', _), (L' + 1 + 1 + 1, _), (L' + 1 + 1, _), (L' + 1, _)]) ?F N' ?T CH rfl hT ?zq rfl rfl (lt_P l0 (gt4 lr)) (lt_c l0 (gt4 lr)) ?cl ?_; (case F => k_asm); (case T => k_asm); (case cl => exact rfl); (case zq => kernel_rfl))
  intro fF c' oc vs0 t0 ctv doc h' tk' F' N' dc dv hne hcs nec lf
  have nD := nec _ (.head _)
  have n3 := nec _ (.tail _ (.head _))
  have n2 := nec _ (.tail _ (.tail _ (.head _)))
  have n1 := nec _ (.tail _ (.tail _ (.tail _ (.head _))))
  dsimp only at nD n3 n2 n1
  (try dsimp only)
  have l61 : @LT.lt Nat _ 61 L' := l0 _ (.head _)
  have aD : @Ne Nat fF D' := Nat.ne_of_gt (lf _ (.tail _ (.tail _ (.head _))))
  have cD : @Ne Nat c' D' := Ne.symm nD
  have k3 : @Ne Nat (L' + 1 + 1 + 1) D' := Nat.ne_of_lt (lD _ (.head _))
  have k2 : @Ne Nat (L' + 1 + 1) D' := Nat.ne_of_lt (lD _ (.tail _ (.head _)))
  have k1 : @Ne Nat (L' + 1) D' := Nat.ne_of_lt (lD _ (.tail _ (.tail _ (.head _))))
  have off61 : (61 : Nat) ∉ [D', fF, c', L' + 1 + 1, L' + 1 + 1 + 1, L' + 1] := off_six (Nat.ne_of_lt (lD _ (.tail _ (.tail _ (.tail _ (.head _)))))) (Nat.ne_of_lt (lf _ (.tail _ (.head _)))) hne l61
  clear lf nD n1 n2 n3 nec
  w_strict k_steps
  k_dflt (refine stCNk (own := [(fF, _), (c', _), (61, _), (D', _)]) F' N' rfl e3 ⟨.inr (fun v e => nomatch e), .inr (fun v e => nomatch dc.symm.trans e), .inr (fun v e => nomatch e), .inr (fun v e => nomatch e), trivial⟩ ⟨.inl (Nat.ne_of_lt (Nat.lt_succ_self _)), .inl (Nat.ne_of_lt (Nat.lt_succ_of_lt (Nat.lt_succ_self _))), trivial⟩ ?_ rfl rfl)
  intro h' o3' F' N' e3'
  (try dsimp only [List.cons_append, List.nil_append] at N' e3' ⊢)
  w_strict k_steps
  · unfold Halt
    have hbl := bits_lt h0 h1
    have hbn := hbl.2 (by assumption)
    have hl12 : zs.length ≤ 12 := Int.ofNat_le.mp (hlen ▸ hD1)
    k_dflt (refine' in_rec (n := n) (x := a) (L := 0) (R := zs.length) (A := D') (f := fF) (c' := c') (cA := L' + 1 + 1) (cI := L' + 1 + 1 + 1) (cN := L' + 1) (oA := o2') (oN := o1) ?F ?N ?m2 ?m3 ?m4 ?m5 ?m6 ?d4 ?d5 ?d6 ?dc ?dv ?m1 ?n1 ?n2 ?n3 ?n4 ?n5 [(61, _)] ?ho ?B ?X ?T ?hk ?step zs.length zs (Int.sub_zero _) (Int.le_refl _) ?h3 (Int.le_refl _) ?h5 h0 (lt_of_bits hbl.1 hD2 hlen) h1 hvz ?hd ?hu ?h)
    case F => k_asm
    case N => k_asm
    case m2 => k_mem
    case m3 => k_mem
    case m4 => k_mem
    case m5 => k_mem
    case m6 => k_mem
    case d4 => exact e2'
    case d5 => assumption
    case d6 => exact e1
    case dc => exact dc
    case dv => exact dv
    case m1 => k_mem
    case n1 => exact aD
    case n2 => exact cD
    case n3 => exact k2
    case n4 => exact k3
    case n5 => exact k1
    case B => k_asm
    case X => k_asm
    case T => k_asm
    case hk => rfl
    case ho =>
      intro q hq
      rw [List.mem_singleton.mp hq]
      exact ⟨by k_mem, off61⟩
    case h3 => exact hlen ▸ Int.lt_of_lt_of_le (by decide : (0 : Int) < 1) (hD3 (Int.ofNat_le.mpr hbn))
    case h5 => exact hl12
    case hd => exact room_le hdp (six_le hl12)
    case hu => exact room_le hun (Nat.mul_le_mul_left 8 (six_le hl12))
    case step =>
      clear hD0 hD1 hD2 hD3 hD4 hlen hb hbl hbn hdp hun l0 l61 lD off61 G' X' T' B' hret hcs hvz lr hl12
      intro hdv k ih x L R tx tL tR vs zs kk hk0 hL hLR hR hlen hx0 hxk hx4 hvz
      have hR12 : R ≤ 12 := Int.le_trans hR (Int.ofNat_le.mpr hlen)
      obtain ⟨hm1, hm2, hm3⟩ := mid_ok hL hLR hR12
      obtain ⟨hs1, hs2⟩ := shift_ok (a := (L + R).fdiv (2 ^ Int.toNat 1) - L) (n := n) (Int.sub_nonneg.mpr hm1) (Int.le_trans (Int.sub_le_self _ hL) (Int.le_trans (Int.le_of_lt hm2) hR12)) h3
      obtain ⟨hu1, hu2⟩ := upper_ok hx0 hx4 (((L + R).fdiv (2 ^ Int.toNat 1) - L) * (n : Int)).toNat
      k_dflt (refine' Cm.enterN (binds := [(PySem.Str.ofString "x", .int x tx), (PySem.Str.ofString "L", .int L tL), (PySem.Str.ofString "R", .int R tR)]) (.tail _ (.head _)) (.tail _ (.tail _ (.head _))) dc hdv (Nat.le_trans (by decide : 1 ≤ 6) (Nat.le_add_right 6 _)) (fun s => BindsTo.of_eq rfl) (locs rfl) rfl rfl rfl (by decide) ?_)
      intro dp un gd outer A₀ base g sh h' L' tk gs dr os Re hdp hun G' B' X' T' hret F' N'
      (try dsimp only)
      w_strict k_steps
      · have he : L + 1 = R := by assumption
        obtain ⟨q1, q2, q3, q4⟩ := in_one (n := n) hk0 hL hR he hx0 hxk
        rename IntsAre (List.set _ _ _) _ => hi9
        rw [q1] at hi9
        dsimp only
        w_strict k_steps
        exact hret _ _ _ _ _ _ (by k_asm) (by k_asm) (in_post (by k_asm) hi9 q2 q3 q4)
      · have he : L + 1 ≠ R := by assumption
        obtain ⟨k1, k2, hk1, hk2, lk1, lk2, hk12, x1, x2, x3, x4, x5, x6, x7⟩ := split_ok hk0 hL hLR hR12 h2 hx0 hxk hx4 he
        unfold Halt
        k_dflt (refine' in_use ?Fxx ?Nxx [] ?hsxx ?hoxx ?Bxx ?Xxx ?Txx ?hkxx k1 (ih k1 lk1) zs hk1 hL ?g1xx ?g2xx hlen x1 x2 x3 hvz ?hdxx ?huxx ?hxx)
        case Fxx => k_asm
        case Nxx => k_asm
        case hsxx => exact fun q hq => hq
        case hoxx => exact fun q hq => nomatch hq
        case Bxx => k_asm
        case Xxx => k_asm
        case Txx => k_asm
        case hkxx => rfl
        case g1xx => exact hm3 he
        case g2xx => exact Int.le_trans (Int.le_of_lt hm2) hR
        case hdxx => exact room_le hdp (two_le lk1)
        case huxx => exact room_le hun (Nat.mul_le_mul_left 8 (two_le lk1))
        intro h8' tk8' vs8 ds8 F8' N8' hi8 hl8 hv8 hd8
        (try dsimp only)
        w_strict k_steps
        unfold Halt
        have len8 := in_len (zs := zs) hL (Int.le_trans (Int.le_of_lt hm2) hR) hk1 hl8
        k_dflt (refine' in_use ?Fyy ?Nyy [] ?hsyy ?hoyy ?Byy ?Xyy ?Tyy ?hkyy k2 (ih k2 lk2) (zs.take L.toNat ++ ds8 ++ zs.drop ((L + R).fdiv (2 ^ Int.toNat 1)).toNat) hk2 ?g0yy ?g1yy ?g2yy ?g3yy x4 x5 x6 hi8 ?hdyy ?huyy ?hyy)
        case Fyy => k_asm
        case Nyy => k_asm
        case hsyy => exact fun q hq => hq
        case hoyy => exact fun q hq => nomatch hq
        case Byy => k_asm
        case Xyy => k_asm
        case Tyy => k_asm
        case hkyy => rfl
        case g0yy => exact Int.le_trans hL hm1
        case g1yy => exact hm2
        case g2yy => rw [len8]; exact hR
        case g3yy => rw [len8]; exact hlen
        case hdyy => exact room_le hdp (two_le lk2)
        case huyy => exact room_le hun (Nat.mul_le_mul_left 8 (two_le lk2))
        intro h9' tk9' vs9 ds9 F9' N9' hi9 hl9 hv9 hd9
        obtain ⟨q1, q2, q3, q4⟩ := in_two hL hR hk1 hk2 hk12 hl8 hl9 hv8 hv9 x7 hd8 hd9
        rw [q1] at hi9
        (try dsimp only)
        w_strict k_steps
        exact hret _ _ _ _ _ _ F9' (by k_asm) (in_post (by k_asm) hi9 q2 q3 q4)
    intro h9' tk9' vs9' ds9 F9' N9' hi9 hl9 hv9 hd9
    rw [i2d_fin rfl] at hi9
    w_strict k_steps
    exact hret _ _ _ _ _ _ F9' N9' (i2d_post G' N9' (by k_mem) (by k_mem) (by k_mem) l0 lr hi9 hv9 hd9 (hl9 ▸ hl12) dc dv hne hcs)
  · have ha : a = 0 := by assumption
    obtain ⟨q1, q2, q3⟩ := i2d_nil (n := n) ha hD4 hlen
    exact hret _ _ _ _ _ _ (by k_asm) (by k_asm) (i2d_post G' (by k_asm) (by k_mem) (by k_mem) (by k_mem) l0 lr hvz q1 q2 q3 dc dv hne hcs)
end
end Mine
end
/-! # D2i -/
section
theorem Mine.reset_D2i : True := by (w_top off); k_with_none; trivial
open PySem PySem.W PyProof.Rows PySem.Calls PySem.Spec
set_option Elab.async false
set_option maxRecDepth 100000
set_option maxHeartbeats 400000000
open PyProof.Rows.LCg PyProof.Rows.LCt
namespace Mine

noncomputable def seg (zs : List Int) (i j : Nat) : List Int := (zs.take j).drop i
theorem seg_len {zs : List Int} {i j : Nat} (h : j ≤ zs.length) : (seg zs i j).length = j - i := by
  unfold seg; rw [List.length_drop, List.length_take_of_le h]
theorem seg_app {zs : List Int} {i m j : Nat} (h1 : i ≤ m) (h2 : m ≤ j) (hj : j ≤ zs.length) : seg zs i j = seg zs i m ++ seg zs m j := by
  unfold seg
  have e : zs.take m = (zs.take j).take m := by rw [List.take_take, Nat.min_eq_left h2]
  rw [e]
  have hl : m ≤ (zs.take j).length := by rw [List.length_take_of_le hj]; exact h2
  generalize zs.take j = l at hl
  have e2 : l.drop i = (l.take m ++ l.drop m).drop i := by rw [List.take_append_drop]
  rw [e2, List.drop_append_of_le_length (by rw [List.length_take_of_le hl]; exact h1)]
theorem seg_one {zs : List Int} {i : Nat} (h : i < zs.length) : seg zs i (i + 1) = [zs.getD i 0] := by
  unfold seg
  have hl : (zs.take i).length = i := List.length_take_of_le (Nat.le_of_lt h)
  rw [List.take_add_one, List.drop_append_of_le_length (Nat.le_of_eq hl.symm), List.drop_of_length_le (Nat.le_of_eq hl), List.nil_append]
  simp [List.getD, h]
theorem seg_dig {B : Int} {zs : List Int} (h : DigOk B zs) (i j : Nat) : DigOk B (seg zs i j) := fun d hd => h d (List.mem_of_mem_take (List.mem_of_mem_drop hd))
theorem ints_at {vs : List Value} {zs : List Int} (h : IntsAre vs zs) : ∀ k, k < zs.length → ∃ t, vs[k]? = some (.int (zs.getD k 0) t) := by
  induction h with
  | nil => intro k hk; simp at hk
  | cons n t h ih =>
    intro k hk
    cases k with
    | zero => exact ⟨t, rfl⟩
    | succ k => exact ih k (by simpa using hk)

theorem d2i_one {zs : List Int} {L R : Int} {n : Nat} (hL : 0 ≤ L) (he : L + 1 = R) (hR : R ≤ zs.length) : valD (2 ^ n) (seg zs L.toNat R.toNat) = zs.getD L.toNat 0 := by
  have e : R.toNat = L.toNat + 1 := by rw [← he, Int.toNat_add hL (by decide)]; rfl
  rw [e, seg_one ((Int.toNat_lt hL).mpr (Int.lt_of_lt_of_le (he ▸ Int.lt_succ L) hR))]
  simp [valD]
theorem sub_ledK {prog : Program} {w : World} {A : Around} {E : Value → Shared → Prop} {s : Shared} {value slice : Expr} {h₀ : Heap} {L a : Addr} {news : List (Addr × Obj)} {l : List Value} {v : Value} {k : Int} {u : Tok} {c : Nat} {Q : Value → Shared → Prop} (N : News h₀ L s.heap news) (hm : (a, W.listOf l.toArray c) ∈ news)
    (hx : l[k.toNat]? = some v) (h0 : 0 ≤ k) (hfit : k < 2 ^ 63) (h : Q v s)
    (hs : subscripted slice false (.ref a) (.int k u) = operate [.ref a, .int k u] (getItem (.ref a) (.int k u))) :
    wpAny (model prog w) A (subscriptTail value slice (.ref a) (.int k u)) Q E s := item_listR ⟨_, (N _ hm).1, rfl, _, rfl⟩ h0 hfit (by simpa using hx) h hs
noncomputable abbrev LedD (D f c' cD cI cN : Addr) (lo fo oc oD oI oN : Obj) : List (Addr × Obj) := [(D, lo), (f, fo), (c', oc), (cD, oD), (cI, oI), (cN, oN)]
noncomputable abbrev InD (w : World) (p : Program) (loose : List PySem.Str) (mean : ExcName → Option Value) (mg mb : PySem.Str → Option Value) (law : OpenLaw) (n : Nat) (D f c' cD cI cN : Addr) (fo oc oD oI oN : Obj) (vs : List Value) (zs : List Int) (kk : Nat) (k : Nat) : Prop :=
  ∀ (L R : Int) (tL tR : Tok), R - L = k → 0 ≤ L → L < R → R ≤ zs.length →
   Cm w p loose mean mg mb law f (6 + 2 * k) [.int L tL, .int R tR] (LedD D f c' cD cI cN (W.listOf vs.toArray kk) fo oc oD oI oN) (fun _ rv h' => (∀ q ∈ LedD D f c' cD cI cN (W.listOf vs.toArray kk) fo oc oD oI oN, h'.get? q.1 = some q.2) ∧ ∃ t, rv = .int (valD (2 ^ n) (seg zs L.toNat R.toNat)) t)
theorem ind_bound {n k : Nat} {zs : List Int} {i j : Nat} (h3 : n ≤ 3) (hd : DigOk (2 ^ n) zs) (hk : k ≤ 12) (hj : j ≤ zs.length) (hij : j - i ≤ 12) : 0 ≤ valD (2 ^ n) (seg zs i j) ∧ valD (2 ^ n) (seg zs i j) < 68719476737 := by
  obtain ⟨h1, h2⟩ := valD_bound (B := 2 ^ n) (Int.pow_pos (by decide)) (seg_dig hd i j)
  refine ⟨h1, ?_⟩
  rw [seg_len hj, ← Int.pow_mul] at h2
  have : (2 : Int) ^ (n * (j - i)) ≤ 2 ^ 36 := by
    have h5 : n * (j - i) ≤ 36 := Nat.le_trans (Nat.mul_le_mul h3 hij) (by decide)
    exact_mod_cast Nat.pow_le_pow_right (by decide) h5
  exact Int.lt_of_lt_of_le h2 (Int.le_trans this (by decide))
theorem ind_use {w : World} {p : Program} {loose : List PySem.Str} {mean : ExcName → Option Value} {mg mb : PySem.Str → Option Value} {law : OpenLaw} {n : Nat} {D f c' cD cI cN : Addr} {fo oc oD oI oN : Obj}
  {dp un : Nat} {gd : Option (List Code)} {cn : PySem.Str} {cs : Scope} {L₁ a : Addr} {ccd : Value} {cl : List (PySem.Str × Addr)} {outer : List Env} {A₀ : Around} {base h₀ : Heap} {m : PySem.Str → Option Value} {s : Shared} {Q E : Value → Shared → Prop} {all : List (Addr × Obj)}
  {L R : Int} {tL tR : Tok} {vs : List Value} {zs : List Int} {kk : Nat}
    (k : Nat) (C : InD w p loose mean mg mb law n D f c' cD cI cN fo oc oD oI oN vs zs kk k)
    (F : Fr h₀ L₁ s.heap m) (N : News h₀ L₁ s.heap all) (hs : ∀ q ∈ LedD D f c' cD cI cN (W.listOf vs.toArray kk) fo oc oD oI oN, q ∈ all)
    (B : Below A₀ base outer h₀) (X : (hd.heap_1 w.params).In h₀) (T : Top p loose mean mg mb h₀) (hk : cs.kind = .function)
    (h1 : R - L = k) (h2 : 0 ≤ L) (h3 : L < R) (h4 : R ≤ zs.length) (h5 : zs.length ≤ 12) (hn : n ≤ 3) (hdg : DigOk (2 ^ n) zs)
    (hd : dp + (6 + 2 * k) < recursionLimit) (hu : un + 8 * (6 + 2 * k) < cLine)
    (h : ∀ (h' : Heap) (tk' : Nat) (v : Int) (t : Tok), Fr h₀ L₁ h' m → News h₀ L₁ h' all → v = valD (2 ^ n) (seg zs L.toNat R.toNat) → 0 ≤ v → v < 68719476737 → Q (.int v t) { s with heap := h', toks := tk' }) :
    wpAny (model law.row.prog w) (ktrTop dp un gd cn cs L₁ a ccd cl outer) (call (.ref f) [.int L tL, .int R tR]) Q E s := by
  refine Cm.useR (C L R tL tR h1 h2 h3 h4) B F N X T hk hd hu hs fun v h' tk' F' N' hp => ?_
  obtain ⟨t, rfl⟩ := hp
  obtain ⟨b1, b2⟩ := ind_bound (i := L.toNat) (j := R.toNat) (k := 0) hn hdg (by decide) (Int.toNat_le.mpr h4) (Nat.le_trans (Nat.sub_le _ _) (Nat.le_trans (Int.toNat_le.mpr h4) h5))
  exact h h' tk' _ t F' N' rfl b1 b2
theorem ind_rec {w : World} {p : Program} {loose : List PySem.Str} {mean : ExcName → Option Value} {mg mb : PySem.Str → Option Value} {law : OpenLaw} {n : Nat} {D f c' cD cI cN : Addr} {oc oD oI oN : Obj}
  {dp un : Nat} {gd : Option (List Code)} {cn : PySem.Str} {cs : Scope} {L₁ a : Addr} {ccd : Value} {cl : List (PySem.Str × Addr)} {outer : List Env} {A₀ : Around} {base h₀ : Heap} {m : PySem.Str → Option Value} {s : Shared} {Q E : Value → Shared → Prop} {all : List (Addr × Obj)}
  {nm ql y1 y2 y3 : PySem.Str} {ps : Arguments} {bd : List Stmt} {sc : Scope} {doc pm ctv : Value} {vs0 : Array Value} {t0 tn : Tok}
  {L R : Int} {tL tR : Tok} {vs : List Value} {kk : Nat}
    (F : Fr h₀ L₁ s.heap m) (N : News h₀ L₁ s.heap all)
    (m2 : (f, fnMade nm ql ps bd sc [(y1, cN), (y2, cI), (y3, cD)] doc pm c' ctv) ∈ all) (m3 : (c', oc) ∈ all) (m4 : (cD, oD) ∈ all) (m5 : (cI, oI) ∈ all) (m6 : (cN, oN) ∈ all)
    (_d4 : oD.data = .cell (some (.ref D))) (_d5 : oI.data = .cell (some (.ref f))) (_d6 : oN.data = .cell (some (.int (n : Int) tn))) (_dc : oc.data = .fields vs0) (dv : vs0[1]? = some (.str ql t0)) (m1 : (D, W.listOf vs.toArray kk) ∈ all)
    (B : Below A₀ base outer h₀) (X : (hd.heap_1 w.params).In h₀) (T : Top p loose mean mg mb h₀) (hk : cs.kind = .function) (zs : List Int)
    (step : vs0[1]? = some (.str ql t0) → ∀ k, (∀ j, j < k → InD w p loose mean mg mb law n D f c' cD cI cN (fnMade nm ql ps bd sc [(y1, cN), (y2, cI), (y3, cD)] doc pm c' ctv) oc oD oI oN vs zs kk j) → InD w p loose mean mg mb law n D f c' cD cI cN (fnMade nm ql ps bd sc [(y1, cN), (y2, cI), (y3, cD)] doc pm c' ctv) oc oD oI oN vs zs kk k)
    (k : Nat) (h1 : R - L = k) (h2 : 0 ≤ L) (h3 : L < R) (h4 : R ≤ zs.length) (h5 : zs.length ≤ 12) (hn : n ≤ 3) (hdg : DigOk (2 ^ n) zs)
    (hd : dp + (6 + 2 * k) < recursionLimit) (hu : un + 8 * (6 + 2 * k) < cLine)
    (h : ∀ (h' : Heap) (tk' : Nat) (v : Int) (t : Tok), Fr h₀ L₁ h' m → News h₀ L₁ h' all → v = valD (2 ^ n) (seg zs L.toNat R.toNat) → 0 ≤ v → v < 68719476737 → Q (.int v t) { s with heap := h', toks := tk' }) :
    wpAny (model law.row.prog w) (ktrTop dp un gd cn cs L₁ a ccd cl outer) (call (.ref f) [.int L tL, .int R tR]) Q E s := by
  refine ind_use k (Nat.strongRecOn k (step dv)) F N (fun q hq => ?_) B X T hk h1 h2 h3 h4 h5 hn hdg hd hu h
  simp only [LedD, List.mem_cons, List.not_mem_nil, or_false] at hq
  rcases hq with rfl | rfl | rfl | rfl | rfl | rfl <;> assumption

theorem abs64 {v : Int} (h0 : 0 ≤ v) (h : v < 68719476737) : v.natAbs < 2 ^ 64 := Int.ofNat_lt.mp (by rw [Int.natAbs_of_nonneg h0]; exact Int.lt_of_lt_of_le h (by decide))
theorem d2i_two {zs : List Int} {n k1 k2 : Nat} {L R v1 v2 : Int} (hL : 0 ≤ L) (hR : R ≤ zs.length) (e1 : (L + R).fdiv (2 ^ Int.toNat 1) - L = k1) (e2 : R - (L + R).fdiv (2 ^ Int.toNat 1) = k2)
    (w1 : v1 = valD (2 ^ n) (seg zs ((L + R).fdiv (2 ^ Int.toNat 1)).toNat R.toNat)) (w2 : v2 = valD (2 ^ n) (seg zs L.toNat ((L + R).fdiv (2 ^ Int.toNat 1)).toNat)) :
    v1 * 2 ^ (((L + R).fdiv (2 ^ Int.toNat 1) - L) * (n : Int)).toNat + v2 = valD (2 ^ n) (seg zs L.toNat R.toNat) := by
  generalize (L + R).fdiv (2 ^ Int.toNat 1) = M at e1 e2 w1 w2 ⊢
  have hM0 : 0 ≤ M := by rw [← Int.sub_add_cancel M L, e1]; exact Int.add_nonneg (Int.natCast_nonneg _) hL
  have hMR : M ≤ R := Int.sub_nonneg.mp (e2 ▸ Int.natCast_nonneg _)
  have es : ((M - L) * (n : Int)).toNat = n * k1 := by
    rw [e1]
    have : (k1 : Int) * (n : Int) = ((n * k1 : Nat) : Int) := by rw [Int.natCast_mul, Int.mul_comm]
    rw [this, Int.toNat_natCast]
  rw [seg_app (i := L.toNat) (m := M.toNat) (j := R.toNat) (mid_nat hL e1 ▸ Nat.le_add_right _ _) (mid_nat hM0 e2 ▸ Nat.le_add_right _ _) (Int.toNat_le.mpr hR), valD_app, seg_len (Int.toNat_le.mpr (Int.le_trans hMR hR)), ← w1, ← w2, es]
  have ek : M.toNat - L.toNat = k1 := by rw [mid_nat hL e1, Nat.add_sub_cancel_left]
  rw [ek, ← Int.pow_mul, Int.mul_comm, Int.add_comm]
theorem d2i_mid {L R : Int} {k : Nat} (hk0 : R - L = k) (hL : 0 ≤ L) (hLR : L < R) (hR12 : R ≤ 12) (hne : L + 1 ≠ R) : ∃ k1 k2 : Nat, (L + R).fdiv (2 ^ Int.toNat 1) - L = k1 ∧ R - (L + R).fdiv (2 ^ Int.toNat 1) = k2 ∧ k1 < k ∧ k2 < k ∧ L < (L + R).fdiv (2 ^ Int.toNat 1) := by
  obtain ⟨h1, h2, h3⟩ := mid_ok hL hLR hR12
  have h3 := h3 hne
  generalize (L + R).fdiv (2 ^ Int.toNat 1) = M at h1 h2 h3 ⊢
  obtain ⟨k1, hk1⟩ := Int.eq_ofNat_of_zero_le (Int.sub_nonneg.mpr h1)
  obtain ⟨k2, hk2⟩ := Int.eq_ofNat_of_zero_le (Int.sub_nonneg.mpr (Int.le_of_lt h2))
  have hk : k = k1 + k2 := Int.ofNat_inj.mp (by rw [Int.natCast_add, ← hk1, ← hk2, ← hk0, Int.add_comm, ← Int.add_sub_assoc, Int.sub_add_cancel])
  have p1 : 0 < k1 := Int.natCast_pos.mp (hk1 ▸ Int.sub_pos_of_lt h3)
  have p2 : 0 < k2 := Int.natCast_pos.mp (hk2 ▸ Int.sub_pos_of_lt h2)
  exact ⟨k1, k2, hk1, hk2, hk ▸ Nat.lt_add_of_pos_right p2, hk ▸ Nat.lt_add_of_pos_left p1, h3⟩
noncomputable abbrev D2iPost (n : Nat) (D : Addr) (vs : List Value) (kk : Nat) (zs : List Int) (codes : List (Addr × Obj)) (h : Heap) (rv : Value) (h' : Heap) : Prop :=
  (∃ t, rv = .int (valD (2 ^ n) zs) t) ∧ h'.get? D = some (W.listOf vs.toArray kk) ∧ TabNow 68 60 4 (PySem.Str.ofString "_digits2int.<locals>.inner") codes h h'
theorem seg_all (zs : List Int) : seg zs (Int.toNat 0) (Int.toNat ((zs.length : Nat) : Int)) = zs := by
  unfold seg
  rw [Int.toNat_natCast, List.take_length]; rfl
theorem off_codes {P : Addr} {line col : Nat} {qual : PySem.Str} {ps : Array Value} {codes all : List (Addr × Obj)} {g h : Heap} {L D : Addr} {v : Array Value} {k : Nat} (N : News g L h all) (hT : TabSt P line col qual ps codes) (hm : (D, W.listOf v k) ∈ all) (hs : ∀ r ∈ codes, r ∈ all) : ∀ r ∈ codes, @Ne Nat D r.1 := by
  intro r hr e
  rcases hT with ⟨_, rfl⟩ | ⟨c', oc, _, rfl, ⟨vs, t, hd, _⟩, _⟩
  · cases hr
  · have h1 := (N _ hm).1
    have h2 := (N _ (hs r hr)).1
    rw [List.mem_singleton.mp hr] at e h2
    dsimp only at e h1 h2
    rw [e, h2] at h1
    rw [Option.some.inj h1] at hd; cases hd
theorem d2i_post {n : Nat} {h g h' : Heap} {L' D c' : Addr} {oc : Obj} {ps : Array Value} {codes all : List (Addr × Obj)} {vs : List Value} {kk : Nat} {zs : List Int} {vs0 : Array Value} {t0 t : Tok} (G : GSub h g (((68, tabObj ps) :: (D, W.listOf vs.toArray kk) :: codes).map (·.1))) (N : News g L' h' all) (mr : (D, W.listOf vs.toArray kk) ∈ all)
    (mT : (68, tabObj #[rawInt ((60 : Nat) : Int), rawInt ((4 : Nat) : Int), .ref c']) ∈ all) (mc : (c', oc) ∈ all)
    (hc1 : oc.data = .fields vs0) (hc2 : vs0[1]? = some (.str (PySem.Str.ofString "_digits2int.<locals>.inner") t0)) (hne : @Ne Nat 68 c') (hD : @Ne Nat D c') (hcodes : codes = [(c', oc)] ∨ codes = []) {v : Int} (e : v = valD (2 ^ n) zs) : D2iPost n D vs kk zs codes h (.int v t) h' := by
  subst e
  refine ⟨⟨t, rfl⟩, (N _ mr).1, c', oc, (N _ mT).1, (N _ mc).1, ⟨vs0, t0, hc1, hc2⟩, hne, hcodes.imp id fun e => new_of G N mc fun hm => ?_⟩
  subst e
  rcases List.mem_cons.mp hm with e | hm
  · exact hne e.symm
  · exact hD (List.mem_singleton.mp hm).symm
theorem gt3 {L' D P : Addr} {a b c d : Obj} (h : P < L') (hD : @Ne Nat P D) : ∀ q ∈ [(L' + 1 + 1 + 1, a), (L' + 1 + 1, b), (L' + 1, c), (D, d)], @Ne Nat q.1 P := by
  simp only [List.forall_mem_cons, List.not_mem_nil, false_implies, implies_true, and_true]
  exact ⟨Nat.ne_of_gt (Nat.lt_succ_of_lt (Nat.lt_succ_of_lt (Nat.lt_succ_of_lt h))), Nat.ne_of_gt (Nat.lt_succ_of_lt (Nat.lt_succ_of_lt h)), Nat.ne_of_gt (Nat.lt_succ_of_lt h), Ne.symm hD⟩
theorem gt3c {L' D : Addr} {a b c d : Obj} {codes : List (Addr × Obj)} (h : ∀ r ∈ codes, r.1 < L') (hD : ∀ r ∈ codes, @Ne Nat D r.1) : ∀ q ∈ [(L' + 1 + 1 + 1, a), (L' + 1 + 1, b), (L' + 1, c), (D, d)], ∀ r ∈ codes, @Ne Nat q.1 r.1 := by
  simp only [List.forall_mem_cons, List.not_mem_nil, false_implies, implies_true, and_true]
  exact ⟨fun r hr => Nat.ne_of_gt (Nat.lt_succ_of_lt (Nat.lt_succ_of_lt (Nat.lt_succ_of_lt (h r hr)))), fun r hr => Nat.ne_of_gt (Nat.lt_succ_of_lt (Nat.lt_succ_of_lt (h r hr))), fun r hr => Nat.ne_of_gt (Nat.lt_succ_of_lt (h r hr)), hD⟩
theorem news_sw {g h : Heap} {L : Addr} {a b c P D : Addr × Obj} {codes : List (Addr × Obj)} (N : News g L h (a :: b :: c :: P :: D :: codes)) : News g L h ([a, b, c, D] ++ P :: codes) := by
  intro q hq
  simp only [List.cons_append, List.nil_append, List.mem_cons] at hq
  exact N q (by simp only [List.mem_cons]; rcases hq with h | h | h | h | h | h <;> simp only [h, true_or, or_true])
section
theorem t_d2i (w : World) {p : Program} {loose : List PySem.Str} {mean : ExcName → Option Value} {mg mb : PySem.Str → Option Value} (D : Addr) (vs : List Value) (zs : List Int) (kk : Nat) (n : Nat) (tb : Tok) (hvz : IntsAre vs zs) (hlen : zs.length ≤ 12) (hdg : DigOk (2 ^ n) zs) (h2 : 1 ≤ n) (h3 : n ≤ 3) (hD : @Ne Nat 68 D) {ps : Array Value} {codes : List (Addr × Obj)} (hT : TabSt 68 60 4 (PySem.Str.ofString "_digits2int.<locals>.inner") ps codes) :
    Cm w p loose mean mg mb PySem.Challenge.rw_to0087_01 73 40 [.ref D, .int (n : Int) tb] ((68, tabObj ps) :: (D, W.listOf vs.toArray kk) :: codes) (fun h rv h' => D2iPost n D vs kk zs codes h rv h') := by
  k_with_none
  k_with "binaryOp LShift int int" => (k_here; k_dflt (refine lshift_int_small (by first | with_reducible assumption | exact abs64 (by with_reducible assumption) (by with_reducible assumption)) (by with_reducible assumption) (by first | with_reducible assumption | exact Int.le_trans (by with_reducible assumption) (by decide)) ?_))
  k_with "subscriptTail Name Name ref int" => (k_here; (with_reducible show wpAny _ _ (subscriptTail _ _ (Value.ref _) (Value.int _ _)) _ _ _); k_dflt (refine sub_ledK (by k_asm) (by k_mem) (by with_reducible assumption) (by with_reducible assumption) (by with_reducible assumption) ?_ (by with_unfolding_all rfl)))
  k_with "call ref" => (k_here; refine halt ?_)
  k_with "exec FunctionDef" => (k_here; refine halt ?_)
  k_dflt (refine' Cm.enterC3 (binds := [(PySem.Str.ofString "digits", .ref D), (PySem.Str.ofString "n", .int (n : Int) tb)]) (m₀ := fun _ => none) (v1 := some (.ref D)) (v2 := some (.int (n : Int) tb)) (v3 := none) ?ho ?hcd ?hr ?hb ?hkd ?hnd ?c2 ?c3 ?c4 ?hcf ?hm ?hcm ?h); all_goals (try k_fill)
  case ho => k_is
  case hcd => k_is
  case hr => decide
  case hb => exact fun s => BindsTo.of_eq rfl
  case hkd => exact rfl
  case hnd => decide +kernel
  case c2 => exact rfl
  case c3 => exact rfl
  case c4 => exact rfl
  case hcf => exact fun _ => rfl
  case hm => exact fun _ => rfl
  case hcm => exact fun _ => ⟨rfl, rfl, rfl⟩
  intro dp un gd outer A₀ base g sh h' L' tk gs dr os R o1 o2 o3 hdp hun l1 G' B' X' T' hret e1 e2 e3 F' N'
  (try dsimp only)
  have CH : CodeHd g 72 68 := codeHd_of_K X' (by kernel_rfl)
  have hvl := hvz.length
  have l68 : @LT.lt Nat _ 68 L' := l1 _ (.head _)
  have lD : @LT.lt Nat _ D L' := l1 _ (.tail _ (.head _))
  have lC : ∀ r ∈ codes, r.1 < L' := fun r hr => l1 _ (.tail _ (.tail _ hr))
  have oD := off_codes N' hT (.tail _ (.tail _ (.tail _ (.tail _ (.head _))))) fun r hr => .tail _ (.tail _ (.tail _ (.tail _ (.tail _ hr))))
  w_strict k_steps
  unfold Halt
  k_dflt (refine' nestDef_K ?d0 ?k0 ?a0 ?_; (case d0 => exact rfl); (case k0 => exact rfl); (case a0 => exact rfl))
  k_dflt (refine' nest_any (others := [(L' + 1 + 1 + 1, o3), (L' + 1 + 1, o2), (L' + 1, o1), (D, _)]) (ps := ps) (codes := codes) ?F ?zN ?T CH rfl hT ?zq rfl rfl (gt3 l68 hD) (gt3c lC oD) ?cl ?_; (case F => k_asm); (case T => k_asm); (case cl => exact rfl); (case zq => kernel_rfl))
  case zN => exact news_sw (by k_asm)
  intro fF c' oc vs0 t0 ctv doc h' tk' F' N' dc dv hne hcs nec lf
  have n3 := nec _ (.head _)
  have n2 := nec _ (.tail _ (.head _))
  have n1 := nec _ (.tail _ (.tail _ (.head _)))
  have nD := nec _ (.tail _ (.tail _ (.tail _ (.head _))))
  dsimp only at nD n3 n2 n1
  clear lf
  (try dsimp only)
  w_strict k_steps
  k_dflt (refine stCNk (own := [(fF, _), (c', _), (68, _)]) F' N' rfl e3 ⟨.inr (fun v e => nomatch e), .inr (fun v e => nomatch dc.symm.trans e), .inr (fun v e => nomatch e), trivial⟩ ⟨.inl (Nat.ne_of_lt (Nat.lt_succ_self _)), .inl (Nat.ne_of_lt (Nat.lt_succ_of_lt (Nat.lt_succ_self _))), .inr (fun v e => nomatch e), trivial⟩ ?_ rfl rfl)
  intro h' o3' F' N' e3'
  (try dsimp only [List.cons_append, List.nil_append] at N' e3' ⊢)
  w_strict k_steps
  · unfold Halt
    k_dflt (refine' ind_rec (n := n) (L := 0) (R := zs.length) (D := D) (f := fF) (c' := c') (cD := L' + 1) (cI := L' + 1 + 1 + 1) (cN := L' + 1 + 1) (oD := o1) (oN := o2) ?F ?N ?m2 ?m3 ?m4 ?m5 ?m6 e1 ?d5 e2 dc dv ?m1 ?B ?X ?T ?hk zs ?step zs.length (Int.sub_zero _) (Int.le_refl _) ?h3 (Int.le_refl _) hlen h3 hdg ?hd ?hu ?h)
    case F => k_asm
    case N => k_asm
    case m2 => k_mem
    case m3 => k_mem
    case m4 => k_mem
    case m5 => k_mem
    case m6 => k_mem
    case d5 => assumption
    case m1 => k_mem
    case B => k_asm
    case X => k_asm
    case T => k_asm
    case hk => rfl
    case h3 => exact Int.natCast_pos.mpr (by assumption)
    case hd => exact room_le hdp (six_le hlen)
    case hu => exact room_le hun (Nat.mul_le_mul_left 8 (six_le hlen))
    case step =>
      clear hdp hun l68 lD lC G' X' T' B' hret hcs nec nD n1 n2 n3 l1 oD
      intro hdv k ih L R tL tR hk0 hL hLR hR
      have hR12 : R ≤ 12 := Int.le_trans hR (Int.ofNat_le.mpr hlen)
      obtain ⟨hm1, hm2, hm3⟩ := mid_ok hL hLR hR12
      have hLn : L.toNat < zs.length := (Int.toNat_lt hL).mpr (Int.lt_of_lt_of_le hLR hR)
      have hL63 : L < 2 ^ 63 := Int.lt_of_lt_of_le (Int.lt_of_lt_of_le hLR hR12) (by decide)
      obtain ⟨hs1, hs2⟩ := shift_ok (a := (L + R).fdiv (2 ^ Int.toNat 1) - L) (n := n) (Int.sub_nonneg.mpr hm1) (Int.le_trans (Int.sub_le_self _ hL) (Int.le_trans (Int.le_of_lt hm2) hR12)) h3
      obtain ⟨t9, ht9⟩ := ints_at hvz L.toNat hLn
      k_dflt (refine' Cm.enterN (binds := [(PySem.Str.ofString "L", .int L tL), (PySem.Str.ofString "R", .int R tR)]) (.tail _ (.head _)) (.tail _ (.tail _ (.head _))) dc hdv (Nat.le_trans (by decide : 1 ≤ 6) (Nat.le_add_right 6 _)) (fun s => BindsTo.of_eq rfl) (locs rfl) rfl rfl rfl (by decide) ?_)
      intro dp un gd outer A₀ base g sh h' L' tk gs dr os Re hdp hun G' B' X' T' hret F' N'
      (try dsimp only)
      w_strict k_steps
      · have he : L + 1 = R := by assumption
        (try dsimp only)
        (try w_strict k_steps)
        exact hret _ _ _ _ _ _ (by k_asm) (by k_asm) ⟨fun q hq => News.get (by with_reducible assumption) hq, _, by rw [d2i_one hL he hR]⟩
      · have he : L + 1 ≠ R := by assumption
        obtain ⟨k1, k2, hk1, hk2, lk1, lk2, hLM⟩ := d2i_mid hk0 hL hLR hR12 he
        unfold Halt
        k_dflt (refine' ind_use k2 (ih k2 lk2) ?Fxx ?Nxx ?hsxx ?Bxx ?Xxx ?Txx ?hkxx hk2 ?g0xx ?g1xx hR hlen h3 hdg ?hdxx ?huxx ?hxx)
        case Fxx => k_asm
        case Nxx => k_asm
        case hsxx => exact fun q hq => hq
        case Bxx => k_asm
        case Xxx => k_asm
        case Txx => k_asm
        case hkxx => rfl
        case g0xx => exact Int.le_trans hL hm1
        case g1xx => exact hm2
        case hdxx => exact room_le hdp (two_le lk2)
        case huxx => exact room_le hun (Nat.mul_le_mul_left 8 (two_le lk2))
        intro h8' tk8' v8 t8 F8' N8' hv8 hb8 hc8
        (try dsimp only)
        w_strict k_steps
        unfold Halt
        k_dflt (refine' ind_use k1 (ih k1 lk1) ?Fyy ?Nyy ?hsyy ?Byy ?Xyy ?Tyy ?hkyy hk1 hL hLM ?g2yy hlen h3 hdg ?hdyy ?huyy ?hyy)
        case Fyy => k_asm
        case Nyy => k_asm
        case hsyy => exact fun q hq => hq
        case Byy => k_asm
        case Xyy => k_asm
        case Tyy => k_asm
        case hkyy => rfl
        case g2yy => exact Int.le_trans (Int.le_of_lt hm2) hR
        case hdyy => exact room_le hdp (two_le lk1)
        case huyy => exact room_le hun (Nat.mul_le_mul_left 8 (two_le lk1))
        intro h9' tk9' v9 t9' F9' N9' hv9 hb9 hc9
        (try dsimp only)
        w_strict k_steps
        (try dsimp only)
        exact hret _ _ _ _ _ _ (by k_asm) (by k_asm) ⟨fun q hq => News.get (by with_reducible assumption) hq, _, by rw [d2i_two hL hR hk1 hk2 hv8 hv9]⟩
    intro h9' tk9' v9 t9' F9' N9' hv9 hb9 hc9
    rw [seg_all] at hv9
    (try dsimp only)
    (try w_strict k_steps)
    exact hret _ _ _ _ _ _ (by k_asm) (by k_asm) (d2i_post G' (by k_asm) (by k_mem) (by k_mem) (by k_mem) dc dv hne nD hcs hv9)
  · have hz2 : zs = [] := List.eq_nil_of_length_eq_zero (Nat.eq_zero_of_not_pos (by assumption))
    exact hret _ _ _ _ _ _ (by k_asm) (by k_asm) (d2i_post G' (by k_asm) (by k_mem) (by k_mem) (by k_mem) dc dv hne nD hcs (by rw [hz2]; rfl))
end
end Mine
end
/-! # LcCell -/
section
open PySem PySem.Spec PySem.Calls PySem.W PyProof.Rows PyProof.Rows.LCg PyProof.Rows.LCt
set_option Elab.async false
set_option maxRecDepth 100000
set_option maxHeartbeats 400000000
namespace Mine
noncomputable abbrev cellObj : Obj := { cls := .type "cell", data := .cell none }
section
variable {prog : Program} {w : World} {A : Around} {E : Value → Shared → Prop} {s : Shared} {h₀ : Heap} {L : Addr} {m : PySem.Str → Option Value} {env : Env}
theorem newEnv_lay {M : Model} {scope : Scope} {globals : Addr} {cl : List (PySem.Str × Addr)} {qual : PySem.Str} {func : Option Addr} {code : Value} {outer : Env} {builtins : Addr} {Q : Env → Shared → Prop}
    (hQ : Q (newEnv scope s.heap.objs.size globals (cellsFrom (s.heap.objs.size + 1) scope.names cl) qual func code (some outer) builtins) { s with heap := pushCells (s.heap.push { cls := .type "dict", data := .dict #[] }) scope.names }) :
    wpAny M A (newFunctionEnv scope globals cl [] qual func code (some outer) builtins) Q E s := by
  simp only [newFunctionEnv, Option.isSome_some, if_true]
  refine wpAny_bind (wpAny_alloc ?_)
  refine wpAny_bind (wpAny_layCells _ (fun name kind cells => by cases hkc : kind == NameKind.cell <;> simp [hkc]) _ _ _ _ ?_)
  rw [show ({ s with heap := s.heap.push { cls := .type "dict", data := .dict #[] } } : Shared).heap.objs.size = s.heap.objs.size + 1 from Heap.size_push ..]
  exact wpAny_bind (by rw [List.forIn_nil]; exact wpAny_pure (wpAny_pure hQ))
theorem lookup_relabel_cell {env : Env} : ∀ {names : List (PySem.Str × NameKind)} {x : PySem.Str}, names.lookup x = some .cell →
    (names.map fun (n, k) => if (k == NameKind.free && env.scope.kind == .function && env.kindOf n == some .cell) then (n, NameKind.cell) else (n, k)).lookup x = some .cell
  | [], _, h => by simp at h
  | (n, k) :: r, x, h => by
    have ih := @lookup_relabel_cell env r x
    show List.lookup x ((if (k == NameKind.free && env.scope.kind == .function && env.kindOf n == some .cell) = true then (n, NameKind.cell) else (n, k)) :: _) = _
    cases hx : x == n with
    | true =>
      simp only [List.lookup_cons, hx] at h
      cases h
      simp [List.lookup_cons, hx]
    | false =>
      simp only [List.lookup_cons, hx] at h
      by_cases hc : (k == NameKind.free && env.scope.kind == .function && env.kindOf n == some .cell) = true
      · rw [if_pos hc]; simp only [List.lookup_cons, hx]; exact ih h
      · rw [if_neg hc]; simp only [List.lookup_cons, hx]; exact ih h
theorem Out.news {h : Heap} {c : Addr} {o : Obj} {news rest : List (Addr × Obj)} (x : Out c o news rest) (N : News h₀ L h news) : News h₀ L h rest := fun p hp => N p (x.mem.2 p hp).1
theorem Off1.all {D : Addr} : ∀ {l : List (Addr × Obj)}, (∀ p ∈ l, @Ne Nat p.1 D) → Off1 D l
  | [], _ => trivial
  | _ :: _, h => ⟨h _ List.mem_cons_self, Off1.all fun p hp => h p (List.mem_cons_of_mem _ hp)⟩
/-- one turn of a comprehension whose one name is a cell -/
inductive Turn1 (prog : Program) (w : World) (A : Around) (h₀ : Heap) (L : Addr) (m : PySem.Str → Option Value) (env : Env) (elt : Expr) (x : PySem.Str) (scope : Scope) (cl : List (PySem.Str × Addr)) (s : Shared) (S : List (Addr × Obj) → Prop) (P : Nat → Value → Prop) (c : Addr) (i : Nat) (ys : List Value) (news : List (Addr × Obj)) (Nx : List Value → List (Addr × Obj) → Prop) : Prop
  | mk (oc : Obj) (rest : List (Addr × Obj)) : Out c oc news rest → (∃ v₀, oc.data = .cell v₀) → S rest → (∀ v I oI C oC D oc' h tk (E' : Value → Shared → Prop), P i v → oc'.data = .cell (some v) → Fr h₀ L h m → News h₀ L h ((I, oI) :: (C, oC) :: (D, lst ys) :: (c, oc') :: rest) → Off3 I C D ((c, oc') :: rest) → ((@Ne Nat I C) ∧ (@Ne Nat I D) ∧ (@Ne Nat C D)) →
      wpAny (model prog w) A (eval elt (compEnvC scope ((x, c) :: cl) C env)) (CompEnd h₀ L m { s with heap := h, toks := tk } I oI C oC D (lst ys) S (fun y news' => Nx (ys ++ [y]) news')) E' { s with heap := h, toks := tk }) → Turn1 prog w A h₀ L m env elt x scope cl s S P c i ys news Nx
/-- the turns of a comprehension whose one name is a cell -/
noncomputable def Rest1 (prog : Program) (w : World) (A : Around) (h₀ : Heap) (L : Addr) (m : PySem.Str → Option Value) (env : Env) (elt : Expr) (x : PySem.Str) (scope : Scope) (cl : List (PySem.Str × Addr)) (s : Shared) (S : List (Addr × Obj) → Prop) (P : Nat → Value → Prop)
    (Fin : List Value → List (Addr × Obj) → Prop) (c : Addr) : Nat → Nat → List Value → List (Addr × Obj) → Prop
  | 0, _, ys, news => Fin ys news
  | k + 1, i, ys, news => Turn1 prog w A h₀ L m env elt x scope cl s S P c i ys news (Rest1 prog w A h₀ L m env elt x scope cl s S P Fin c k (i + 1))
/-- what a turn with two names finds -/
inductive Turn2v (prog : Program) (w : World) (A : Around) (h₀ : Heap) (L : Addr) (m : PySem.Str → Option Value) (env : Env) (elt : Expr) (x x₂ : PySem.Str) (scope : Scope) (cl : List (PySem.Str × Addr)) (s : Shared) (S : List (Addr × Obj) → Prop) (c c₂ : Addr) (v : Value) (ys : List Value) (rest : List (Addr × Obj)) (Nx : List Value → List (Addr × Obj) → Prop) : Prop
  | mk (t : Addr) (ot : Obj) (v₁ v₂ : Value) (nt : Nat) : v = .ref t → (t, ot) ∈ rest → ot.cls = .type "list" → ot.data = .seq #[v₁, v₂] nt →
      (∀ I oI C oC D oc' oc₂' h tk (E' : Value → Shared → Prop), oc'.data = .cell (some v₁) → oc₂'.data = .cell (some v₂) → Fr h₀ L h m → News h₀ L h ((I, oI) :: (C, oC) :: (D, lst ys) :: (c₂, oc₂') :: (c, oc') :: rest) → Off3 I C D ((c₂, oc₂') :: (c, oc') :: rest) → ((@Ne Nat I C) ∧ (@Ne Nat I D) ∧ (@Ne Nat C D)) →
      wpAny (model prog w) A (eval elt (compEnvC scope ((x₂, c₂) :: (x, c) :: cl) C env)) (CompEnd h₀ L m { s with heap := h, toks := tk } I oI C oC D (lst ys) S (fun y news' => Nx (ys ++ [y]) news')) E' { s with heap := h, toks := tk }) → Turn2v prog w A h₀ L m env elt x x₂ scope cl s S c c₂ v ys rest Nx
inductive Turn2 (prog : Program) (w : World) (A : Around) (h₀ : Heap) (L : Addr) (m : PySem.Str → Option Value) (env : Env) (elt : Expr) (x x₂ : PySem.Str) (scope : Scope) (cl : List (PySem.Str × Addr)) (s : Shared) (S : List (Addr × Obj) → Prop) (P : Nat → Value → Prop) (c c₂ : Addr) (i : Nat) (ys : List Value) (news : List (Addr × Obj)) (Nx : List Value → List (Addr × Obj) → Prop) : Prop
  | mk (oc oc₂ : Obj) (mid rest : List (Addr × Obj)) : Out c oc news mid → Out c₂ oc₂ mid rest → (∃ v₀, oc.data = .cell v₀) → (∃ v₀, oc₂.data = .cell v₀) → S rest → (∀ v, P i v → Turn2v prog w A h₀ L m env elt x x₂ scope cl s S c c₂ v ys rest Nx) → Turn2 prog w A h₀ L m env elt x x₂ scope cl s S P c c₂ i ys news Nx
/-- the same with two names, each a cell, out of a list of lists -/
noncomputable def Rest2 (prog : Program) (w : World) (A : Around) (h₀ : Heap) (L : Addr) (m : PySem.Str → Option Value) (env : Env) (elt : Expr) (x x₂ : PySem.Str) (scope : Scope) (cl : List (PySem.Str × Addr)) (s : Shared) (S : List (Addr × Obj) → Prop) (P : Nat → Value → Prop)
    (Fin : List Value → List (Addr × Obj) → Prop) (c c₂ : Addr) : Nat → Nat → List Value → List (Addr × Obj) → Prop
  | 0, _, ys, news => Fin ys news
  | k + 1, i, ys, news => Turn2 prog w A h₀ L m env elt x x₂ scope cl s S P c c₂ i ys news (Rest2 prog w A h₀ L m env elt x x₂ scope cl s S P Fin c c₂ k (i + 1))
/-- what the loop of such a comprehension keeps -/
inductive BI (n : Nat) (s₂ : Shared) (h₀ : Heap) (L I C D : Addr) (m : PySem.Str → Option Value) (St : Nat → Heap → Prop) (S : List (Addr × Obj) → Prop) (Rs : Nat → Nat → List Value → List (Addr × Obj) → Prop) : Nat → Shared → Prop
  | mk (h' : Heap) (tk i : Nat) (ys : List Value) (m' : PySem.Str → Option Value) (news' : List (Addr × Obj)) : i ≤ n → ys.length = i → St i h' → Fr h₀ L h' m → h'.Ns C m' → News h₀ L h' ((D, lst ys) :: news') → Off3 I C D news' → S news' → Rs (n - i) i ys news' → BI n s₂ h₀ L I C D m St S Rs (n + 1 - i) { s₂ with heap := h', toks := tk }

theorem assign_lst {elts : List Expr} {k : Nat} {pos : Pos} {l : Addr} {items : Array Value} {Q : Unit → Shared → Prop} (hh : A.handled = none) (hl : s.heap.IsList l items) (hn : (assignEach elts env).length = items.size)
    (hstar : (assignEach elts env).findIdx? (·.1) = none) (h : ∀ h', Heap.ExtBut s.heap.objs.size s.heap h' → wpAny (model prog w) A (assignInOrder ((assignEach elts env).map (·.2)) items.toList) Q E { s with heap := h' }) :
    wpAny (model prog w) A (assign (.Tuple elts k pos) env (.ref l)) Q E s := by
  rw [assign_Tuple]
  refine wpAny_bind (wpAny_standAt ?_)
  unfold unpack
  rw [hn, hstar]
  exact wpAny_bind (wpAny_holding (kun_itemsOf hh hl h))

theorem block_1 {elt iter : Expr} {x : PySem.Str} {px : Pos} {scope : Scope} {cl : List (PySem.Str × Addr)} {pos : Pos} {s₂ : Shared} {I : Addr} {fp : List Addr} {n : Nat} {P : Nat → Value → Prop} {St : Nat → Heap → Prop} {S : List (Addr × Obj) → Prop} {news : List (Addr × Obj)}
    {Fin : List Value → List (Addr × Obj) → Prop} {RR : Value → Addr → Result → Shared → Prop}
    (W : Walks prog w A I fp [I] n P St) (hsz : n ≤ sizeLine) (hIo : ∀ i h, St i h → ∃ o, h.get? I = some o)
    (hSt : ∀ i h h' o nw, St i h → h.get? I = some o → h'.get? I = some o → (∀ b o, h₀.get? b = some o → h'.get? b = some o) → News h₀ L h' nw → S nw → St i h')
    (hcs : ∀ k, cellsFrom k scope.names cl = (x, k) :: cl) (hpc : ∀ h : Heap, pushCells h scope.names = h.push cellObj) (hkind : scope.kind = .function) (hx : scope.names.lookup x = some .cell) (hst : St 0 s₂.heap) (hfp : ∀ b ∈ fp, b < s₂.heap.objs.size)
    (F : Fr h₀ L s₂.heap m) (N : News h₀ L s₂.heap news) (hIL : L ≠ I) (hI₀ : h₀.get? I = none) (off : ∀ p ∈ news, p.1 ≠ I) (hS : ∀ r, (∀ p ∈ news, p ∈ r) → S r)
    (R : ∀ c, Off1 c news → Rest1 prog w A h₀ L m env elt x scope cl s₂ S P Fin c n 0 [] ((c, cellObj) :: news))
    (hRR : ∀ D C h tk m' ys news', Fr h₀ L h m → News h₀ L h ((D, lst ys) :: news') → Off1 D news' → h.Ns C m' → h₀.get? C = none → h₀.get? D = none → C ≠ L → D ≠ L → C ≠ D → (∀ p ∈ news', p.1 ≠ C) → Fin ys news' → RR (.ref D) C (.ok .next) { s₂ with heap := h, toks := tk }) :
    wpAny (model prog w) A (newList []) (fun acc s₃ => wpAny (model prog w) A (newFunctionEnv scope env.globals cl [] env.qual none .none (some env)) (fun cenv s₄ =>
      codeAny (model prog w) A (.compStart (.ListComp elt [⟨.Name x px, iter, [], 0⟩] scope pos) 0 (.ref I) acc { cenv with scope := relabel scope env }) (RR acc cenv.locals) s₄) E s₃) E s₂ := by
  refine wpAny_newObj_type (newEnv_lay ?_)
  dsimp only
  rw [hcs, hpc]
  generalize hH2 : s₂.heap.push { cls := .type "list", dict := none, data := .seq ([] : List Value).toArray } = H2
  have hC : H2.objs.size = s₂.heap.objs.size + 1 := by rw [← hH2, Heap.size_push]
  generalize hH3 : H2.push { cls := .type "dict", data := .dict #[] } = H3
  have hC3 : H3.objs.size = H2.objs.size + 1 := by rw [← hH3, Heap.size_push]
  have hn3 : H3.Ns H2.objs.size (fun _ => none) := by rw [← hH3]; exact Heap.Ns.new H2 (.type "dict")
  generalize hh1 : H3.push cellObj = h₁
  have up31 : ∀ b o, H3.get? b = some o → h₁.get? b = some o := fun b o e => hh1 ▸ Heap.get?_push_of_some _ e
  have hcell : h₁.get? (H2.objs.size + 1) = some cellObj := by rw [← hC3, ← hh1]; exact Heap.get?_push_size _ rfl
  have hDC : s₂.heap.objs.size ≠ H2.objs.size := by rw [hC]; exact Nat.ne_of_lt (Nat.lt_succ_self _)
  have below : ∀ b, b < s₂.heap.objs.size → b ≠ H2.objs.size ∧ b ≠ s₂.heap.objs.size := fun b hb => ⟨by rw [hC]; exact Nat.ne_of_lt (Nat.lt_succ_of_lt hb), Nat.ne_of_lt hb⟩
  have belowc : ∀ b, b < s₂.heap.objs.size → b ≠ H2.objs.size + 1 := fun b hb => by rw [hC]; exact Nat.ne_of_lt (Nat.lt_succ_of_lt (Nat.lt_succ_of_lt hb))
  have hDc : s₂.heap.objs.size ≠ H2.objs.size + 1 := by rw [hC]; exact Nat.ne_of_lt (Nat.lt_succ_of_lt (Nat.lt_succ_self _))
  have hCc : H2.objs.size ≠ H2.objs.size + 1 := Nat.ne_of_lt (Nat.lt_succ_self _)
  have hDf : s₂.heap.objs.size ∉ fp := fun hm => Nat.lt_irrefl _ (hfp _ hm)
  have hCf : H2.objs.size ∉ fp := fun hm => by have := hfp _ hm; rw [hC] at this; exact Nat.lt_irrefl _ (Nat.lt_of_succ_lt this)
  have hcf : H2.objs.size + 1 ∉ fp := fun hm => belowc _ (hfp _ hm) rfl
  have hIf : I ∈ fp := W.sub I (List.mem_singleton.mpr rfl)
  have hIlt : I < s₂.heap.objs.size := hfp I hIf
  have old : ∀ b o, s₂.heap.get? b = some o → h₁.get? b = some o := fun b o e => up31 b o (hH3 ▸ Heap.get?_push_of_some _ (hH2 ▸ Heap.get?_push_of_some _ e))
  have hacc : h₁.get? s₂.heap.objs.size = some (lst []) := up31 _ _ (hH3 ▸ Heap.get?_push_of_some _ (hH2 ▸ Heap.get?_push_size _ rfl))
  have hns₁ : h₁.Ns H2.objs.size (fun _ => none) := hn3.keeps up31
  have hst₁ : St 0 h₁ := W.frame _ _ _ hst fun b _ o e => old b o e
  have fresh : ∀ a, s₂.heap.objs.size ≤ a → s₂.heap.get? a = none := fun a ha => by
    cases e : s₂.heap.get? a with
    | none => rfl
    | some o' => exact absurd (Heap.lt_size e) (Nat.not_lt.mpr ha)
  have fresh₀ : ∀ a, s₂.heap.objs.size ≤ a → h₀.get? a = none := fun a ha => by
    cases e : h₀.get? a with
    | none => rfl
    | some o' => have := F.keep a o' e; rw [fresh a ha] at this; cases this
  have hD₀ : h₀.get? s₂.heap.objs.size = none := fresh₀ _ (Nat.le_refl _)
  have hC₀ : h₀.get? H2.objs.size = none := fresh₀ _ (by rw [hC]; exact Nat.le_succ _)
  have hc₀ : h₀.get? (H2.objs.size + 1) = none := fresh₀ _ (by rw [hC]; exact Nat.le_succ_of_le (Nat.le_succ _))
  have hLlt : L < s₂.heap.objs.size := F.ns.lt
  have hDL : s₂.heap.objs.size ≠ L := Ne.symm (below L hLlt).2
  have hCL : H2.objs.size ≠ L := Ne.symm (below L hLlt).1
  have hcL : H2.objs.size + 1 ≠ L := Ne.symm (belowc L hLlt)
  have hCI : I ≠ H2.objs.size := (below I hIlt).1
  have hcI : I ≠ H2.objs.size + 1 := belowc I hIlt
  have hDI : I ≠ s₂.heap.objs.size := (below I hIlt).2
  have off₀ : Off3 I H2.objs.size s₂.heap.objs.size ((H2.objs.size + 1, cellObj) :: news) := Off3.of fun p hp => by
    rcases List.mem_cons.mp hp with rfl | hp
    · exact ⟨Ne.symm hcI, Ne.symm hCc, Ne.symm hDc⟩
    · exact ⟨off p hp, (below _ (Heap.lt_size (N p hp).1)).1, (below _ (Heap.lt_size (N p hp).1)).2⟩
  have R₁ := R (H2.objs.size + 1) (Off1.all fun p hp => belowc _ (Heap.lt_size (N p hp).1))
  have loop : ∀ s₃ : Shared, s₃ = { s₂ with heap := h₁ } →
      codeAny (model prog w) A (.compLoop (.ListComp elt [⟨.Name x px, iter, [], 0⟩] scope pos) 0 (.ref I) (.ref s₂.heap.objs.size) (compEnvC scope ((x, H2.objs.size + 1) :: cl) H2.objs.size env))
        (RR (.ref s₂.heap.objs.size) H2.objs.size) s₃ := by
    rintro s₃ rfl
    refine codeAny_compLoop_tests
      (BI n s₂ h₀ L I H2.objs.size s₂.heap.objs.size m St S (Rest1 prog w A h₀ L m env elt x scope cl s₂ S P Fin (H2.objs.size + 1))) ?_ (n + 1)
      (.mk h₁ _ 0 [] _ ((H2.objs.size + 1, cellObj) :: news) (Nat.zero_le _) rfl hst₁ (F.keeps old) hns₁ (fun p hp => ?_) off₀ (hS _ (fun p hp => List.mem_cons_of_mem _ hp)) R₁)
    · intro k s' hB
      cases hB with
      | mk h' tk i ys m' news' hi hyl hst' F' hn' N' off' hS' R' =>
      by_cases hlt : i < n
      · obtain ⟨j, hj⟩ : ∃ j, n - i = j + 1 := ⟨n - i - 1, (Nat.sub_add_cancel (Nat.sub_pos_of_lt (by assumption))).symm⟩
        rw [hj] at R'
        refine W.item i _ _ _ hlt hst' fun v h₂ tk₂ hPv hst₂ hk₂ => ?_
        obtain ⟨oc, rest, hout, ⟨v₀, hv₀⟩, hSr, R''⟩ := R'
        have off3 := off'.mem
        have N₂ : News h₀ L h₂ ((s₂.heap.objs.size, lst ys) :: news') := news_but N' hk₂ fun p hp => by
          rcases List.mem_cons.mp hp with rfl | hp
          · exact Ne.symm hDI
          · exact (off3 p hp).1
        have F₂ := fr_but F' hk₂ hIL hI₀
        refine wpAny_assign_Name (wpAny_storeName_cell (c := H2.objs.size + 1) (v₀ := v₀) (by show (relabel scope env).kind = _; simp [relabel, hkind]) (lookup_relabel_cell hx) (by simp [compEnvC, List.lookup]) ⟨oc, (N₂ _ (List.mem_cons_of_mem _ hout.mem.1)).1, hv₀⟩ fun h₃ hc₃ hs₃ => ?_)
        refine wpAny_tests_nil ?_
        simp only [if_true]
        have old3 : ∀ b o, b ≠ H2.objs.size + 1 → h₂.get? b = some o → h₃.get? b = some o := fun b o hb e => hs₃.extBut b o hb e
        have hst₃ : St (i + 1) h₃ := W.frame _ _ _ hst₂ fun b hb o e => old3 b o (fun q => hcf (by rw [← q]; exact hb)) e
        obtain ⟨oI, heI⟩ := hIo _ _ hst₃
        have hn₃ : h₃.Ns H2.objs.size m' := (hn'.at' fun o e => hk₂ _ o (by simpa using Ne.symm hCI) e).sameBut hs₃ hCc
        obtain ⟨oC, heC, hoC⟩ := ns_obj hn₃
        have F₃ : Fr h₀ L h₃ m := F₂.change hs₃ hcL hc₀
        obtain ⟨oc', hec, hdc⟩ := hc₃
        have hro : ∀ p ∈ rest, p ∈ news' ∧ p.1 ≠ H2.objs.size + 1 := hout.mem.2
        have N₃ : News h₀ L h₃ ((I, oI) :: (H2.objs.size, oC) :: (s₂.heap.objs.size, lst ys) :: (H2.objs.size + 1, oc') :: rest) := fun p hp => by
          rcases List.mem_cons.mp hp with rfl | hp
          · exact ⟨heI, Ne.symm hIL, hI₀⟩
          · rcases List.mem_cons.mp hp with rfl | hp
            · exact ⟨heC, hCL, hC₀⟩
            · rcases List.mem_cons.mp hp with rfl | hp
              · exact ⟨old3 _ _ hDc (N₂ _ List.mem_cons_self).1, hDL, hD₀⟩
              · rcases List.mem_cons.mp hp with rfl | hp
                · exact ⟨hec, hcL, hc₀⟩
                · have z := N₂ p (List.mem_cons_of_mem _ (hro p hp).1)
                  exact ⟨old3 _ _ (hro p hp).2 z.1, z.2⟩
        have offn : Off3 I H2.objs.size s₂.heap.objs.size ((H2.objs.size + 1, oc') :: rest) := Off3.of fun p hp => by
          rcases List.mem_cons.mp hp with rfl | hp
          · exact ⟨Ne.symm hcI, Ne.symm hCc, Ne.symm hDc⟩
          · exact off3 p (hro p hp).1
        refine wpAny_mono (R'' v I oI H2.objs.size oC s₂.heap.objs.size oc' h₃ _ _ hPv hdc F₃ N₃ offn ⟨hCI, hDI, Ne.symm hDC⟩) (fun y s₄ h₄ => ?_) fun _ _ e => e
        obtain ⟨h₄, tk₄, news₄, rfl, F₄, N₄, off₄, hS₄, R₄⟩ := h₄
        have zI := (N₄ (I, oI) List.mem_cons_self).1
        have zC := (N₄ (H2.objs.size, oC) (List.mem_cons_of_mem _ List.mem_cons_self)).1
        have zD := (N₄ (s₂.heap.objs.size, lst ys) (List.mem_cons_of_mem _ (List.mem_cons_of_mem _ List.mem_cons_self))).1
        have N₄' : News h₀ L h₄ news₄ := fun p hp => N₄ p (List.mem_cons_of_mem _ (List.mem_cons_of_mem _ (List.mem_cons_of_mem _ hp)))
        have hst₄ : St (i + 1) h₄ := hSt _ _ _ _ _ hst₃ heI zI F₄.keep N₄' hS₄
        refine append_at (hsz := by show ys.toArray.size ≤ sizeLine; rw [List.size_toArray, hyl]; exact Nat.le_trans hi hsz) zD fun h₅ hs₅ hD₅ => ?_
        have off4 := off₄.mem
        refine ⟨n + 1 - (i + 1), Nat.sub_lt_sub_left (Nat.lt_succ_of_lt (by assumption)) (Nat.lt_succ_self i), .mk h₅ tk₄ (i + 1) (ys ++ [y]) _ news₄ hlt (by rw [List.length_append, List.length_singleton, hyl]) (W.frame _ _ _ hst₄ fun b hb o e => hs₅.extBut b o (fun q => hDf (q ▸ hb)) e) (F₄.change hs₅ hDL hD₀)
          ((hoC.ns zC).sameBut hs₅ (Ne.symm hDC)) (fun p hp => ?_) off₄ hS₄ ?_⟩
        · rcases List.mem_cons.mp hp with rfl | hp
          · exact ⟨hD₅.trans (congrArg some (lst_snoc ys y)), hDL, hD₀⟩
          · exact ⟨hs₅.extBut _ _ (off4 p hp).2.2 (N₄' p hp).1, (N₄' p hp).2⟩
        · rw [show n - (i + 1) = j from by rw [Nat.sub_add_eq, hj]; rfl]
          exact R₄
      · obtain rfl : i = n := Nat.le_antisymm hi (Nat.not_lt.mp hlt)
        rw [Nat.sub_self] at R'
        refine W.done _ _ _ hst' fun h₂ tk₂ hk₂ => ?_
        have off3 := off'.mem
        exact hRR _ _ h₂ tk₂ _ ys news' (fr_but F' hk₂ hIL hI₀) (news_but N' hk₂ fun p hp => by
          rcases List.mem_cons.mp hp with rfl | hp
          · exact Ne.symm hDI
          · exact (off3 p hp).1) off'.one (hn'.at' fun o e => hk₂ _ o (by simpa using Ne.symm hCI) e) hC₀ hD₀ hCL hDL (Ne.symm hDC) (fun p hp => (off3 p hp).2.1) R'
    · rcases List.mem_cons.mp hp with rfl | hp
      · exact ⟨hacc, hDL, hD₀⟩
      · rcases List.mem_cons.mp hp with rfl | hp
        · exact ⟨hcell, hcL, hc₀⟩
        · exact ⟨old _ _ (N p hp).1, (N p hp).2⟩
  exact codeAny_compStart_list (loop _ rfl) (W.self 0 _ _ _ hst₁ (loop _ rfl))

theorem block_2 {elt iter : Expr} {x x₂ : PySem.Str} {px px₂ tp : Pos} {tt} {scope : Scope} {cl : List (PySem.Str × Addr)} {pos : Pos} {s₂ : Shared} {I : Addr} {fp : List Addr} {n : Nat} {P : Nat → Value → Prop} {St : Nat → Heap → Prop} {S : List (Addr × Obj) → Prop} {news : List (Addr × Obj)}
    {Fin : List Value → List (Addr × Obj) → Prop} {RR : Value → Addr → Result → Shared → Prop}
    (W : Walks prog w A I fp [I] n P St) (hsz : n ≤ sizeLine) (hIo : ∀ i h, St i h → ∃ o, h.get? I = some o)
    (hSt : ∀ i h h' o nw, St i h → h.get? I = some o → h'.get? I = some o → (∀ b o, h₀.get? b = some o → h'.get? b = some o) → News h₀ L h' nw → S nw → St i h')
    (hcs : ∀ k, cellsFrom k scope.names cl = (x₂, k + 1) :: (x, k) :: cl) (hpc : ∀ h : Heap, pushCells h scope.names = (h.push cellObj).push cellObj) (hkind : scope.kind = .function) (hx : scope.names.lookup x = some .cell) (hx₂ : scope.names.lookup x₂ = some .cell) (hxx : x ≠ x₂) (hh : A.handled = none) (hLI : ∀ i h, St i h → ∃ l j, h.IsListIter I l j) (hst : St 0 s₂.heap) (hfp : ∀ b ∈ fp, b < s₂.heap.objs.size)
    (F : Fr h₀ L s₂.heap m) (N : News h₀ L s₂.heap news) (hIL : L ≠ I) (hI₀ : h₀.get? I = none) (off : ∀ p ∈ news, p.1 ≠ I) (hS : ∀ r, (∀ p ∈ news, p ∈ r) → S r)
    (R : ∀ c c₂, @Ne Nat c c₂ → Off1 c news → Off1 c₂ news → Rest2 prog w A h₀ L m env elt x x₂ scope cl s₂ S P Fin c c₂ n 0 [] ((c₂, cellObj) :: (c, cellObj) :: news))
    (hRR : ∀ D C h tk m' ys news', Fr h₀ L h m → News h₀ L h ((D, lst ys) :: news') → Off1 D news' → h.Ns C m' → h₀.get? C = none → h₀.get? D = none → C ≠ L → D ≠ L → C ≠ D → (∀ p ∈ news', p.1 ≠ C) → Fin ys news' → RR (.ref D) C (.ok .next) { s₂ with heap := h, toks := tk }) :
    wpAny (model prog w) A (newList []) (fun acc s₃ => wpAny (model prog w) A (newFunctionEnv scope env.globals cl [] env.qual none .none (some env)) (fun cenv s₄ =>
      codeAny (model prog w) A (.compStart (.ListComp elt [⟨.Tuple [.Name x px, .Name x₂ px₂] tt tp, iter, [], 0⟩] scope pos) 0 (.ref I) acc { cenv with scope := relabel scope env }) (RR acc cenv.locals) s₄) E s₃) E s₂ := by
  refine wpAny_newObj_type (newEnv_lay ?_)
  dsimp only
  rw [hcs, hpc]
  generalize hH2 : s₂.heap.push { cls := .type "list", dict := none, data := .seq ([] : List Value).toArray } = H2
  have hC : H2.objs.size = s₂.heap.objs.size + 1 := by rw [← hH2, Heap.size_push]
  generalize hH3 : H2.push { cls := .type "dict", data := .dict #[] } = H3
  have hC3 : H3.objs.size = H2.objs.size + 1 := by rw [← hH3, Heap.size_push]
  have hn3 : H3.Ns H2.objs.size (fun _ => none) := by rw [← hH3]; exact Heap.Ns.new H2 (.type "dict")
  generalize hH4 : H3.push cellObj = H4
  have hC4 : H4.objs.size = H2.objs.size + 1 + 1 := by rw [← hH4, Heap.size_push, hC3]
  generalize hh1 : H4.push cellObj = h₁
  have up34 : ∀ b o, H3.get? b = some o → H4.get? b = some o := fun b o e => hH4 ▸ Heap.get?_push_of_some _ e
  have up41 : ∀ b o, H4.get? b = some o → h₁.get? b = some o := fun b o e => hh1 ▸ Heap.get?_push_of_some _ e
  have up31 : ∀ b o, H3.get? b = some o → h₁.get? b = some o := fun b o e => up41 b o (up34 b o e)
  have hcell : h₁.get? (H2.objs.size + 1) = some cellObj := up41 _ _ (by rw [← hC3, ← hH4]; exact Heap.get?_push_size _ rfl)
  have hcell₂ : h₁.get? (H2.objs.size + 1 + 1) = some cellObj := by rw [← hC4, ← hh1]; exact Heap.get?_push_size _ rfl
  have hDC : s₂.heap.objs.size ≠ H2.objs.size := by rw [hC]; exact Nat.ne_of_lt (Nat.lt_succ_self _)
  have below : ∀ b, b < s₂.heap.objs.size → b ≠ H2.objs.size ∧ b ≠ s₂.heap.objs.size := fun b hb => ⟨by rw [hC]; exact Nat.ne_of_lt (Nat.lt_succ_of_lt hb), Nat.ne_of_lt hb⟩
  have belowc : ∀ b, b < s₂.heap.objs.size → b ≠ H2.objs.size + 1 := fun b hb => by rw [hC]; exact Nat.ne_of_lt (Nat.lt_succ_of_lt (Nat.lt_succ_of_lt hb))
  have hDc : s₂.heap.objs.size ≠ H2.objs.size + 1 := by rw [hC]; exact Nat.ne_of_lt (Nat.lt_succ_of_lt (Nat.lt_succ_self _))
  have hCc : H2.objs.size ≠ H2.objs.size + 1 := Nat.ne_of_lt (Nat.lt_succ_self _)
  have hDf : s₂.heap.objs.size ∉ fp := fun hm => Nat.lt_irrefl _ (hfp _ hm)
  have hCf : H2.objs.size ∉ fp := fun hm => by have := hfp _ hm; rw [hC] at this; exact Nat.lt_irrefl _ (Nat.lt_of_succ_lt this)
  have hcf : H2.objs.size + 1 ∉ fp := fun hm => belowc _ (hfp _ hm) rfl
  have hIf : I ∈ fp := W.sub I (List.mem_singleton.mpr rfl)
  have hIlt : I < s₂.heap.objs.size := hfp I hIf
  have old : ∀ b o, s₂.heap.get? b = some o → h₁.get? b = some o := fun b o e => up31 b o (hH3 ▸ Heap.get?_push_of_some _ (hH2 ▸ Heap.get?_push_of_some _ e))
  have hacc : h₁.get? s₂.heap.objs.size = some (lst []) := up31 _ _ (hH3 ▸ Heap.get?_push_of_some _ (hH2 ▸ Heap.get?_push_size _ rfl))
  have hns₁ : h₁.Ns H2.objs.size (fun _ => none) := hn3.keeps up31
  have hst₁ : St 0 h₁ := W.frame _ _ _ hst fun b _ o e => old b o e
  have fresh : ∀ a, s₂.heap.objs.size ≤ a → s₂.heap.get? a = none := fun a ha => by
    cases e : s₂.heap.get? a with
    | none => rfl
    | some o' => exact absurd (Heap.lt_size e) (Nat.not_lt.mpr ha)
  have fresh₀ : ∀ a, s₂.heap.objs.size ≤ a → h₀.get? a = none := fun a ha => by
    cases e : h₀.get? a with
    | none => rfl
    | some o' => have := F.keep a o' e; rw [fresh a ha] at this; cases this
  have hD₀ : h₀.get? s₂.heap.objs.size = none := fresh₀ _ (Nat.le_refl _)
  have hC₀ : h₀.get? H2.objs.size = none := fresh₀ _ (by rw [hC]; exact Nat.le_succ _)
  have hc₀ : h₀.get? (H2.objs.size + 1) = none := fresh₀ _ (by rw [hC]; exact Nat.le_succ_of_le (Nat.le_succ _))
  have hLlt : L < s₂.heap.objs.size := F.ns.lt
  have hDL : s₂.heap.objs.size ≠ L := Ne.symm (below L hLlt).2
  have hCL : H2.objs.size ≠ L := Ne.symm (below L hLlt).1
  have hcL : H2.objs.size + 1 ≠ L := Ne.symm (belowc L hLlt)
  have hCI : I ≠ H2.objs.size := (below I hIlt).1
  have hcI : I ≠ H2.objs.size + 1 := belowc I hIlt
  have hDI : I ≠ s₂.heap.objs.size := (below I hIlt).2
  have belowd : ∀ b, b < s₂.heap.objs.size → b ≠ H2.objs.size + 1 + 1 := fun b hb => by rw [hC]; exact Nat.ne_of_lt (Nat.lt_succ_of_lt (Nat.lt_succ_of_lt (Nat.lt_succ_of_lt hb)))
  have hDd : s₂.heap.objs.size ≠ H2.objs.size + 1 + 1 := by rw [hC]; exact Nat.ne_of_lt (Nat.lt_succ_of_lt (Nat.lt_succ_of_lt (Nat.lt_succ_self _)))
  have hCd : H2.objs.size ≠ H2.objs.size + 1 + 1 := Nat.ne_of_lt (Nat.lt_succ_of_lt (Nat.lt_succ_self _))
  have hcd : H2.objs.size + 1 ≠ H2.objs.size + 1 + 1 := Nat.ne_of_lt (Nat.lt_succ_self _)
  have hdf : H2.objs.size + 1 + 1 ∉ fp := fun hm => belowd _ (hfp _ hm) rfl
  have hd₀ : h₀.get? (H2.objs.size + 1 + 1) = none := fresh₀ _ (by rw [hC]; exact Nat.le_succ_of_le (Nat.le_succ_of_le (Nat.le_succ _)))
  have hdL : H2.objs.size + 1 + 1 ≠ L := Ne.symm (belowd L hLlt)
  have hdI : I ≠ H2.objs.size + 1 + 1 := belowd I hIlt
  have off₀ : Off3 I H2.objs.size s₂.heap.objs.size ((H2.objs.size + 1 + 1, cellObj) :: (H2.objs.size + 1, cellObj) :: news) := Off3.of fun p hp => by
    rcases List.mem_cons.mp hp with rfl | hp
    · exact ⟨Ne.symm hdI, Ne.symm hCd, Ne.symm hDd⟩
    · rcases List.mem_cons.mp hp with rfl | hp
      · exact ⟨Ne.symm hcI, Ne.symm hCc, Ne.symm hDc⟩
      · exact ⟨off p hp, (below _ (Heap.lt_size (N p hp).1)).1, (below _ (Heap.lt_size (N p hp).1)).2⟩
  have R₁ := R (H2.objs.size + 1) (H2.objs.size + 1 + 1) hcd (Off1.all fun p hp => belowc _ (Heap.lt_size (N p hp).1)) (Off1.all fun p hp => belowd _ (Heap.lt_size (N p hp).1))
  have loop : ∀ s₃ : Shared, s₃ = { s₂ with heap := h₁ } →
      codeAny (model prog w) A (.compLoop (.ListComp elt [⟨.Tuple [.Name x px, .Name x₂ px₂] tt tp, iter, [], 0⟩] scope pos) 0 (.ref I) (.ref s₂.heap.objs.size) (compEnvC scope ((x₂, H2.objs.size + 1 + 1) :: (x, H2.objs.size + 1) :: cl) H2.objs.size env))
        (RR (.ref s₂.heap.objs.size) H2.objs.size) s₃ := by
    rintro s₃ rfl
    refine LCp.codeAny_compLoop_pair
      (BI n s₂ h₀ L I H2.objs.size s₂.heap.objs.size m St S (Rest2 prog w A h₀ L m env elt x x₂ scope cl s₂ S P Fin (H2.objs.size + 1) (H2.objs.size + 1 + 1))) ?_ (n + 1)
      (.mk h₁ _ 0 [] _ ((H2.objs.size + 1 + 1, cellObj) :: (H2.objs.size + 1, cellObj) :: news) (Nat.zero_le _) rfl hst₁ (F.keeps old) hns₁ (fun p hp => ?_) off₀ (hS _ (fun p hp => List.mem_cons_of_mem _ (List.mem_cons_of_mem _ hp))) R₁)
    · intro k s' hB
      cases hB with
      | mk h' tk i ys m' news' hi hyl hst' F' hn' N' off' hS' R' =>
      by_cases hlt : i < n
      · obtain ⟨j, hj⟩ : ∃ j, n - i = j + 1 := ⟨n - i - 1, (Nat.sub_add_cancel (Nat.sub_pos_of_lt (by assumption))).symm⟩
        rw [hj] at R'
        refine W.item i _ _ _ hlt hst' fun v h₂ tk₂ hPv hst₂ hk₂ => ?_
        obtain ⟨oc, oc₂, mid, rest, hout, hout₂, ⟨v₀, hv₀⟩, ⟨v₀', hv₀'⟩, hSr, R''⟩ := R'
        have off3 := off'.mem
        have N₂ : News h₀ L h₂ ((s₂.heap.objs.size, lst ys) :: news') := news_but N' hk₂ fun p hp => by
          rcases List.mem_cons.mp hp with rfl | hp
          · exact Ne.symm hDI
          · exact (off3 p hp).1
        have F₂ := fr_but F' hk₂ hIL hI₀
        obtain ⟨t, ot, v₁, v₂, nt, rfl, hmt, hct, hdt, R''⟩ := R'' v hPv
        have hro : ∀ p ∈ rest, p ∈ news' ∧ p.1 ≠ H2.objs.size + 1 ∧ p.1 ≠ H2.objs.size + 1 + 1 := fun p hp => ⟨(hout.mem.2 p (hout₂.mem.2 p hp).1).1, (hout.mem.2 p (hout₂.mem.2 p hp).1).2, (hout₂.mem.2 p hp).2⟩
        have ht : h₂.IsList t #[v₁, v₂] := ⟨ot, (N₂ _ (List.mem_cons_of_mem _ (hro _ hmt).1)).1, hct, nt, hdt⟩
        obtain ⟨lI, jI, hLi⟩ := hLI _ _ hst₂
        refine wpAny_letOwnedTupleGo_listiter hLi ?_
        refine assign_lst hh ht rfl rfl fun h₅ he => ?_
        have he' : ∀ b o, h₂.get? b = some o → h₅.get? b = some o := fun b o e => he b o (Nat.ne_of_lt (Heap.lt_size e)) e
        have N₅ : News h₀ L h₅ ((s₂.heap.objs.size, lst ys) :: news') := N₂.grown he'
        have kl : (relabel scope env).kind = .function := by simp [relabel, hkind]
        refine assignInOrder_cons (wpAny_assign_Name (wpAny_storeName_cell (c := H2.objs.size + 1) (v₀ := v₀) kl (lookup_relabel_cell hx) (by show List.lookup x ((x₂, _) :: (x, _) :: cl) = _; rw [List.lookup_cons, beq_eq_false_iff_ne.mpr hxx, List.lookup_cons, beq_self_eq_true]) ⟨oc, (N₅ _ (List.mem_cons_of_mem _ hout.mem.1)).1, hv₀⟩ fun h₆ hc₆ hs₆ => ?_))
        have hoc₂ : h₆.get? (H2.objs.size + 1 + 1) = some oc₂ := hs₆.extBut _ _ (Ne.symm hcd) (N₅ _ (List.mem_cons_of_mem _ (hout.mem.2 _ hout₂.mem.1).1)).1
        refine assignInOrder_cons (wpAny_assign_Name (wpAny_storeName_cell (c := H2.objs.size + 1 + 1) (v₀ := v₀') kl (lookup_relabel_cell hx₂) (by show List.lookup x₂ ((x₂, _) :: (x, _) :: cl) = _; rw [List.lookup_cons, beq_self_eq_true]) ⟨oc₂, hoc₂, hv₀'⟩ fun h₃ hc₃ hs₃ => ?_))
        refine assignInOrder_nil ?_
        have old3 : ∀ b o, b ≠ H2.objs.size + 1 → b ≠ H2.objs.size + 1 + 1 → h₂.get? b = some o → h₃.get? b = some o := fun b o hb hb' e => hs₃.extBut b o hb' (hs₆.extBut b o hb (he' b o e))
        have hst₃ : St (i + 1) h₃ := W.frame _ _ _ hst₂ fun b hb o e => old3 b o (fun q => hcf (by rw [← q]; exact hb)) (fun q => hdf (by rw [← q]; exact hb)) e
        obtain ⟨oI, heI⟩ := hIo _ _ hst₃
        have hn₃ : h₃.Ns H2.objs.size m' := (((hn'.at' fun o e => hk₂ _ o (by simpa using Ne.symm hCI) e).at' fun o e => he' _ o e).sameBut hs₆ hCc).sameBut hs₃ hCd
        obtain ⟨oC, heC, hoC⟩ := ns_obj hn₃
        have F₃ : Fr h₀ L h₃ m := ((F₂.keeps he').change hs₆ hcL hc₀).change hs₃ hdL hd₀
        obtain ⟨oc', hec, hdc⟩ := (hc₆.sameBut hs₃ hcd)
        obtain ⟨oc₂', hec₂, hdc₂⟩ := hc₃
        have N₃ : News h₀ L h₃ ((I, oI) :: (H2.objs.size, oC) :: (s₂.heap.objs.size, lst ys) :: (H2.objs.size + 1 + 1, oc₂') :: (H2.objs.size + 1, oc') :: rest) := fun p hp => by
          rcases List.mem_cons.mp hp with rfl | hp
          · exact ⟨heI, Ne.symm hIL, hI₀⟩
          · rcases List.mem_cons.mp hp with rfl | hp
            · exact ⟨heC, hCL, hC₀⟩
            · rcases List.mem_cons.mp hp with rfl | hp
              · exact ⟨old3 _ _ hDc hDd (N₂ _ List.mem_cons_self).1, hDL, hD₀⟩
              · rcases List.mem_cons.mp hp with rfl | hp
                · exact ⟨hec₂, hdL, hd₀⟩
                · rcases List.mem_cons.mp hp with rfl | hp
                  · exact ⟨hec, hcL, hc₀⟩
                  · have z := N₂ p (List.mem_cons_of_mem _ (hro p hp).1)
                    exact ⟨old3 _ _ (hro p hp).2.1 (hro p hp).2.2 z.1, z.2⟩
        have offn : Off3 I H2.objs.size s₂.heap.objs.size ((H2.objs.size + 1 + 1, oc₂') :: (H2.objs.size + 1, oc') :: rest) := Off3.of fun p hp => by
          rcases List.mem_cons.mp hp with rfl | hp
          · exact ⟨Ne.symm hdI, Ne.symm hCd, Ne.symm hDd⟩
          · rcases List.mem_cons.mp hp with rfl | hp
            · exact ⟨Ne.symm hcI, Ne.symm hCc, Ne.symm hDc⟩
            · exact off3 p (hro p hp).1
        refine wpAny_mono (R'' I oI H2.objs.size oC s₂.heap.objs.size oc' oc₂' h₃ _ _ hdc hdc₂ F₃ N₃ offn ⟨hCI, hDI, Ne.symm hDC⟩) (fun y s₄ h₄ => ?_) fun _ _ e => e
        obtain ⟨h₄, tk₄, news₄, rfl, F₄, N₄, off₄, hS₄, R₄⟩ := h₄
        have zI := (N₄ (I, oI) List.mem_cons_self).1
        have zC := (N₄ (H2.objs.size, oC) (List.mem_cons_of_mem _ List.mem_cons_self)).1
        have zD := (N₄ (s₂.heap.objs.size, lst ys) (List.mem_cons_of_mem _ (List.mem_cons_of_mem _ List.mem_cons_self))).1
        have N₄' : News h₀ L h₄ news₄ := fun p hp => N₄ p (List.mem_cons_of_mem _ (List.mem_cons_of_mem _ (List.mem_cons_of_mem _ hp)))
        have hst₄ : St (i + 1) h₄ := hSt _ _ _ _ _ hst₃ heI zI F₄.keep N₄' hS₄
        refine append_at (hsz := by show ys.toArray.size ≤ sizeLine; rw [List.size_toArray, hyl]; exact Nat.le_trans hi hsz) zD fun h₅ hs₅ hD₅ => ?_
        have off4 := off₄.mem
        refine ⟨n + 1 - (i + 1), Nat.sub_lt_sub_left (Nat.lt_succ_of_lt (by assumption)) (Nat.lt_succ_self i), .mk h₅ tk₄ (i + 1) (ys ++ [y]) _ news₄ hlt (by rw [List.length_append, List.length_singleton, hyl]) (W.frame _ _ _ hst₄ fun b hb o e => hs₅.extBut b o (fun q => hDf (q ▸ hb)) e) (F₄.change hs₅ hDL hD₀)
          ((hoC.ns zC).sameBut hs₅ (Ne.symm hDC)) (fun p hp => ?_) off₄ hS₄ ?_⟩
        · rcases List.mem_cons.mp hp with rfl | hp
          · exact ⟨hD₅.trans (congrArg some (lst_snoc ys y)), hDL, hD₀⟩
          · exact ⟨hs₅.extBut _ _ (off4 p hp).2.2 (N₄' p hp).1, (N₄' p hp).2⟩
        · rw [show n - (i + 1) = j from by rw [Nat.sub_add_eq, hj]; rfl]
          exact R₄
      · obtain rfl : i = n := Nat.le_antisymm hi (Nat.not_lt.mp hlt)
        rw [Nat.sub_self] at R'
        refine W.done _ _ _ hst' fun h₂ tk₂ hk₂ => ?_
        have off3 := off'.mem
        exact hRR _ _ h₂ tk₂ _ ys news' (fr_but F' hk₂ hIL hI₀) (news_but N' hk₂ fun p hp => by
          rcases List.mem_cons.mp hp with rfl | hp
          · exact Ne.symm hDI
          · exact (off3 p hp).1) off'.one (hn'.at' fun o e => hk₂ _ o (by simpa using Ne.symm hCI) e) hC₀ hD₀ hCL hDL (Ne.symm hDC) (fun p hp => (off3 p hp).2.1) R'
    · rcases List.mem_cons.mp hp with rfl | hp
      · exact ⟨hacc, hDL, hD₀⟩
      · rcases List.mem_cons.mp hp with rfl | hp
        · exact ⟨hcell₂, hdL, hd₀⟩
        · rcases List.mem_cons.mp hp with rfl | hp
          · exact ⟨hcell, hcL, hc₀⟩
          · exact ⟨old _ _ (N p hp).1, (N p hp).2⟩
  exact codeAny_compStart_list (loop _ rfl) (W.self 0 _ _ _ hst₁ (loop _ rfl))

noncomputable def Src1 (prog : Program) (w : World) (A : Around) (h₀ : Heap) (L : Addr) (m : PySem.Str → Option Value) (env : Env) (elt : Expr) (x : PySem.Str) (scope : Scope) (cl : List (PySem.Str × Addr)) (Fin : Shared → List Value → List (Addr × Obj) → Prop) (xv : Value) (s₁ : Shared) : Prop :=
  ∃ r a b t u v n news, xv = .ref r ∧ A.handled = none ∧ Fr h₀ L s₁.heap m ∧ News h₀ L s₁.heap news ∧ IsRange s₁.heap r a b 1 t u v ∧ Builtin.Range.small a b 1 = true ∧ Builtin.Range.rangeSize a b 1 = ((n : Nat) : Int) ∧ n ≤ sizeLine ∧
    ∀ s₂ : Shared, (∃ h, s₂ = { s₁ with heap := h }) → ∀ c, Off1 c news → Rest1 prog w A h₀ L m env elt x scope cl s₂ (fun _ => True) (fun i v => ∃ t, v = .int (a + (i : Int)) t) (Fin s₂) c n 0 [] ((c, cellObj) :: news)
theorem Src1.intro {elt : Expr} {x : PySem.Str} {scope : Scope} {cl : List (PySem.Str × Addr)} {Fin : Shared → List Value → List (Addr × Obj) → Prop} {r : Addr} {a b : Int} {t u v : Tok} {n : Nat} {news : List (Addr × Obj)} {s₁ : Shared}
    (hh : A.handled = none) (F : Fr h₀ L s₁.heap m) (N : News h₀ L s₁.heap news) (hr : IsRange s₁.heap r a b 1 t u v) (hsm : Builtin.Range.small a b 1 = true) (hn : Builtin.Range.rangeSize a b 1 = ((n : Nat) : Int)) (hsz : n ≤ sizeLine)
    (h : ∀ g c, Off1 c news → Rest1 prog w A h₀ L m env elt x scope cl { s₁ with heap := g } (fun _ => True) (fun i v => ∃ t, v = .int (a + (i : Int)) t) (Fin { s₁ with heap := g }) c n 0 [] ((c, cellObj) :: news)) :
    Src1 prog w A h₀ L m env elt x scope cl Fin (.ref r) s₁ := ⟨r, a, b, t, u, v, n, news, rfl, hh, F, N, hr, hsm, hn, hsz, fun _ ⟨g, e⟩ c o => e ▸ h g c o⟩
noncomputable def Src2 (prog : Program) (w : World) (A : Around) (h₀ : Heap) (L : Addr) (m : PySem.Str → Option Value) (env : Env) (elt : Expr) (x x₂ : PySem.Str) (scope : Scope) (cl : List (PySem.Str × Addr)) (Fin : Shared → List Value → List (Addr × Obj) → Prop) (xv : Value) (s₁ : Shared) : Prop :=
  ∃ ax its news, xv = .ref ax ∧ A.handled = none ∧ Fr h₀ L s₁.heap m ∧ News h₀ L s₁.heap news ∧ SrcAt h₀ ax its news ∧ its.size ≤ sizeLine ∧
    ∀ s₂ : Shared, (∃ h, s₂ = { s₁ with heap := h }) → ∀ c c₂, @Ne Nat c c₂ → Off1 c news → Off1 c₂ news → Rest2 prog w A h₀ L m env elt x x₂ scope cl s₂ (SrcAt h₀ ax its) (fun i v => its[i]? = some v) (Fin s₂) c c₂ its.size 0 [] ((c₂, cellObj) :: (c, cellObj) :: news)
theorem Src2.intro {elt : Expr} {x x₂ : PySem.Str} {scope : Scope} {cl : List (PySem.Str × Addr)} {Fin : Shared → List Value → List (Addr × Obj) → Prop} {ax : Addr} {its : Array Value} {k : Nat} {news : List (Addr × Obj)} {s₁ : Shared}
    (hh : A.handled = none) (F : Fr h₀ L s₁.heap m) (N : News h₀ L s₁.heap news) (hm : (ax, ({ cls := .type "list", data := .seq its k } : Obj)) ∈ news) (hsz : its.size ≤ sizeLine)
    (h : ∀ g c c₂, @Ne Nat c c₂ → Off1 c news → Off1 c₂ news → Rest2 prog w A h₀ L m env elt x x₂ scope cl { s₁ with heap := g } (SrcAt h₀ ax its) (fun i v => its[i]? = some v) (Fin { s₁ with heap := g }) c c₂ its.size 0 [] ((c₂, cellObj) :: (c, cellObj) :: news)) :
    Src2 prog w A h₀ L m env elt x x₂ scope cl Fin (.ref ax) s₁ := ⟨ax, its, news, rfl, hh, F, N, .inr ⟨_, hm, rfl, _, rfl⟩, hsz, fun _ ⟨g, e⟩ c c₂ n o o' => e ▸ h g c c₂ n o o'⟩
theorem SrcAt.more {h₀ : Heap} {ax : Addr} {its : Array Value} {news r : List (Addr × Obj)} (x : SrcAt h₀ ax its news) (h : ∀ p ∈ news, p ∈ r) : SrcAt h₀ ax its r := by
  rcases x with x | ⟨o, hm, y⟩
  · exact .inl x
  · exact .inr ⟨o, h _ hm, y⟩
theorem ListComp_Q1 {elt iter : Expr} {x : PySem.Str} {px : Pos} {scope : Scope} {cl : List (PySem.Str × Addr)} {pos : Pos} {Q : Value → Shared → Prop} (F₀ : Fr h₀ L s.heap m)
    (hclos : closureFor scope env = pure cl) (hcs : ∀ k, cellsFrom k scope.names cl = (x, k) :: cl) (hpc : ∀ h : Heap, pushCells h scope.names = h.push cellObj) (hkind : scope.kind = .function)
    (hnames : ∀ y ∈ scope.names, y.2 = .local → scope.names.lookup y.1 = some .local) (hx : scope.names.lookup x = some .cell)
    (h : wpAny (model prog w) A (eval iter env) (Src1 prog w A h₀ L m env elt x scope cl (fun s₂ => FinE h₀ L m s₂ Q)) E s)
    (hs : ∀ x, foldedSetIterable iter env x = pure x := by intro _; rfl) :
    wpAny (model prog w) A (eval (.ListComp elt [⟨.Name x px, iter, [], 0⟩] scope pos) env) Q E s := by
  rw [eval_ListComp]
  refine wpAny_comprehension_free (use := none) rfl hs hclos hkind hnames (wpAny_mono h (fun xv s₁ h₁ => ?_) fun _ _ e => e)
  obtain ⟨r, a, b, t, u, v, n, news, rfl, hh, F, N, hr, hsm, hn, hsz, R⟩ := h₁
  refine wpAny_pyIter_range hr hsm ?_
  refine block_1 (range_walks hh a n) hsz (fun i h st => ⟨_, st⟩) range_st hcs hpc hkind hx (by show IsRangeIter _ _ _ _ _; rw [hn]; simpa using Heap.get?_push_size _ rfl) (fun b hb => ?_)
    (F.keeps fun _ _ e => Heap.get?_push_of_some _ e) (N.grown fun _ _ e => Heap.get?_push_of_some _ e) (Nat.ne_of_lt F.ns.lt) (next_is_new F) (fun p hp => Nat.ne_of_lt (Heap.lt_size (N p hp).1)) (fun _ _ => trivial) (R _ ⟨_, rfl⟩) ?_
  · rw [List.mem_singleton.mp hb]
    show s₁.heap.objs.size < (s₁.heap.push _).objs.size
    rw [Heap.size_push]; exact Nat.lt_succ_self _
  · intro D C h tk m' ys news' F' N' o1 hn hC₀ hD₀ hCL hDL hCD offC fin
    refine ⟨m', hn, fun h'' hs'' => fin D h'' tk (F'.change hs'' hCL hC₀) (fun p hp => ?_) o1⟩
    refine ⟨hs''.extBut _ _ ?_ (N' p hp).1, (N' p hp).2⟩
    rcases List.mem_cons.mp hp with rfl | hp
    · exact Ne.symm hCD
    · exact offC p hp
theorem ListComp_Q2 {elt iter : Expr} {x x₂ : PySem.Str} {px px₂ tp : Pos} {tt} {scope : Scope} {cl : List (PySem.Str × Addr)} {pos : Pos} {Q : Value → Shared → Prop} (F₀ : Fr h₀ L s.heap m)
    (hclos : closureFor scope env = pure cl) (hcs : ∀ k, cellsFrom k scope.names cl = (x₂, k + 1) :: (x, k) :: cl) (hpc : ∀ h : Heap, pushCells h scope.names = (h.push cellObj).push cellObj) (hkind : scope.kind = .function)
    (hnames : ∀ y ∈ scope.names, y.2 = .local → scope.names.lookup y.1 = some .local) (hx : scope.names.lookup x = some .cell) (hx₂ : scope.names.lookup x₂ = some .cell) (hxx : x ≠ x₂)
    (h : wpAny (model prog w) A (eval iter env) (Src2 prog w A h₀ L m env elt x x₂ scope cl (fun s₂ => FinE h₀ L m s₂ Q)) E s)
    (hs : ∀ x, foldedSetIterable iter env x = pure x := by intro _; rfl) :
    wpAny (model prog w) A (eval (.ListComp elt [⟨.Tuple [.Name x px, .Name x₂ px₂] tt tp, iter, [], 0⟩] scope pos) env) Q E s := by
  rw [eval_ListComp]
  refine wpAny_comprehension_free (use := none) rfl hs hclos hkind hnames (wpAny_mono h (fun xv s₁ h₁ => ?_) fun _ _ e => e)
  obtain ⟨ax, its, news, rfl, hh, F, N, S, hsz, R⟩ := h₁
  have hl := S.list F.keep N
  have hlt : ax < s₁.heap.objs.size := by obtain ⟨_, e, _⟩ := hl; exact Heap.lt_size e
  refine wpAny_pyIter_list hl ?_
  have up : ∀ b o, s₁.heap.get? b = some o → (s₁.heap.push { cls := .type "list_iterator", data := .fields #[.ref ax, .int 0 0] }).get? b = some o := fun b o e => Heap.get?_push_of_some _ e
  refine block_2 (Walks.list hh s₁.heap.objs.size ax (Nat.ne_of_lt hlt) its) hsz (fun i h st => by obtain ⟨o, e, _⟩ := st.1; exact ⟨o, e⟩) list_st hcs hpc hkind hx hx₂ hxx hh (fun i h st => ⟨_, _, st.1⟩) ⟨⟨_, Heap.get?_push_size _ rfl, rfl, rfl⟩, hl.push _⟩ (fun b hb => ?_)
    (F.keeps up) (N.grown up) (Nat.ne_of_lt F.ns.lt) (next_is_new F) (fun p hp => Nat.ne_of_lt (Heap.lt_size (N p hp).1)) (fun r hr => SrcAt.more S hr) (R _ ⟨_, rfl⟩) ?_
  · show b < (s₁.heap.push _).objs.size
    rw [Heap.size_push]
    rcases List.mem_cons.mp hb with rfl | hb
    · exact Nat.lt_succ_self _
    · rw [List.mem_singleton.mp hb]; exact Nat.lt_succ_of_lt hlt
  · intro D C h tk m' ys news' F' N' o1 hn hC₀ hD₀ hCL hDL hCD offC fin
    refine ⟨m', hn, fun h'' hs'' => fin D h'' tk (F'.change hs'' hCL hC₀) (fun p hp => ?_) o1⟩
    refine ⟨hs''.extBut _ _ ?_ (N' p hp).1, (N' p hp).2⟩
    rcases List.mem_cons.mp hp with rfl | hp
    · exact Ne.symm hCD
    · exact offC p hp
end
end Mine
end
/-! # LcRows -/
section
open PySem PySem.Spec PySem.Calls PySem.W PyProof.Rows PyProof.Rows.LCg PyProof.Rows.LCt
set_option Elab.async false
set_option maxRecDepth 100000
set_option maxHeartbeats 400000000
namespace Mine
section
variable {prog : Program} {w : World} {A : Around} {h₀ : Heap} {L : Addr} {m : PySem.Str → Option Value} {env : Env}
theorem off1_app {D : Addr} : ∀ {l r : List (Addr × Obj)}, Off1 D l → Off1 D r → Off1 D (l ++ r)
  | [], _, _, h => h
  | _ :: _, _, x, h => ⟨x.1, off1_app x.2 h⟩
theorem off1_left {D : Addr} : ∀ {l r : List (Addr × Obj)}, Off1 D (l ++ r) → Off1 D l
  | [], _, _ => trivial
  | _ :: _, _, x => ⟨x.1, off1_left x.2⟩
theorem off_of {c : Addr} : ∀ {l : List (Addr × Obj)}, Off1 c l → Off c l
  | [], _ => .nil
  | (_, _) :: _, x => .cons x.1 (off_of x.2)
/-- the rows that a comprehension has gathered, and where they lie -/
noncomputable def RowsG (base : List (Addr × Obj)) (M : Nat → List Int) : Nat → List Value → List (Addr × Obj) → Prop
  | 0, ys, acc => ys = [] ∧ acc = []
  | i + 1, ys, acc => ∃ ys' acc' D vs, ys = ys' ++ [.ref D] ∧ acc = (D, lst vs) :: acc' ∧ IntsAre vs (M i) ∧ Off1 D base ∧ RowsG base M i ys' acc'
/-- the end of a row: a new list of ints -/
noncomputable def RowEnd (h₀ : Heap) (L : Addr) (m : PySem.Str → Option Value) (s : Shared) (news : List (Addr × Obj)) (l : List Int) (y : Value) (s' : Shared) : Prop :=
  ∃ D' vs h' tk', y = .ref D' ∧ s' = { s with heap := h', toks := tk' } ∧ Fr h₀ L h' m ∧ News h₀ L h' ((D', lst vs) :: news) ∧ Off1 D' news ∧ IntsAre vs l
theorem rest1_rows {elt : Expr} {x : PySem.Str} {scope : Scope} {cl : List (PySem.Str × Addr)} {s : Shared} {P : Nat → Value → Prop} {Fin : List Value → List (Addr × Obj) → Prop} {c : Addr} {n : Nat} {base : List (Addr × Obj)} (M : Nat → List Int)
    (hcb : Off1 c base) (hf : ∀ ys acc oc', RowsG base M n ys acc → Fin ys ((c, oc') :: (base ++ acc)))
    (step : ∀ i, i < n → ∀ ys acc v I oI C oC D oc' h tk (E' : Value → Shared → Prop), P i v → oc'.data = .cell (some v) → Fr h₀ L h m → News h₀ L h ((I, oI) :: (C, oC) :: (D, lst ys) :: (c, oc') :: (base ++ acc)) →
      wpAny (model prog w) A (eval elt (compEnvC scope ((x, c) :: cl) C env)) (RowEnd h₀ L m s ((I, oI) :: (C, oC) :: (D, lst ys) :: (c, oc') :: (base ++ acc)) (M i)) E' { s with heap := h, toks := tk }) :
    Rest1 prog w A h₀ L m env elt x scope cl s (fun _ => True) P Fin c n 0 [] ((c, cellObj) :: base) := by
  have go : ∀ k i, i + k = n → ∀ ys acc oc v₀, oc.data = .cell v₀ → Off1 c (base ++ acc) → RowsG base M i ys acc → Rest1 prog w A h₀ L m env elt x scope cl s (fun _ => True) P Fin c k i ys ((c, oc) :: (base ++ acc)) := by
    intro k
    induction k with
    | zero =>
      intro i hi ys acc oc v₀ hoc hca hg
      obtain rfl : i = n := by omega
      exact hf ys acc oc hg
    | succ k ih =>
      intro i hi ys acc oc v₀ hoc hca hg
      refine ⟨oc, base ++ acc, .here (off_of hca), ⟨v₀, hoc⟩, trivial, fun v I oI C oC D oc' h tk E' hv hc F N off ne => ?_⟩
      refine wpAny_mono (step i (by omega) ys acc v I oI C oC D oc' h tk E' hv hc F N) (fun y s' hy => ?_) fun _ _ e => e
      obtain ⟨D', vs, h', tk', rfl, rfl, F', N', o1, hi'⟩ := hy
      have hb : Off1 D' base := off1_left o1.2.2.2.2
      have e2 : ∀ p ∈ base ++ (D', lst vs) :: acc, p = (D', lst vs) ∨ p ∈ base ++ acc := fun p hp => by
        rcases List.mem_append.mp hp with hp | hp
        · exact .inr (List.mem_append_left _ hp)
        · rcases List.mem_cons.mp hp with hp | hp
          · exact .inl hp
          · exact .inr (List.mem_append_right _ hp)
      refine ⟨h', tk', (c, oc') :: (base ++ (D', lst vs) :: acc), rfl, F', fun p hp => ?_, ?_, trivial, ih (i + 1) (by omega) _ _ _ _ hc ?_ ⟨ys, acc, D', vs, rfl, rfl, hi', hb, hg⟩⟩
      · rcases List.mem_cons.mp hp with rfl | hp
        · exact N' _ (List.mem_cons_of_mem _ List.mem_cons_self)
        · rcases List.mem_cons.mp hp with rfl | hp
          · exact N' _ (List.mem_cons_of_mem _ (List.mem_cons_of_mem _ List.mem_cons_self))
          · rcases List.mem_cons.mp hp with rfl | hp
            · exact N' _ (List.mem_cons_of_mem _ (List.mem_cons_of_mem _ (List.mem_cons_of_mem _ List.mem_cons_self)))
            · rcases List.mem_cons.mp hp with rfl | hp
              · exact N' _ (List.mem_cons_of_mem _ (List.mem_cons_of_mem _ (List.mem_cons_of_mem _ (List.mem_cons_of_mem _ List.mem_cons_self))))
              · rcases e2 p hp with rfl | hp
                · exact N' _ List.mem_cons_self
                · exact N' _ (List.mem_cons_of_mem _ (List.mem_cons_of_mem _ (List.mem_cons_of_mem _ (List.mem_cons_of_mem _ (List.mem_cons_of_mem _ hp)))))
      · refine Off3.of fun p hp => ?_
        rcases List.mem_cons.mp hp with rfl | hp
        · exact off.mem _ List.mem_cons_self
        · rcases e2 p hp with rfl | hp
          · exact ⟨Ne.symm o1.1, Ne.symm o1.2.1, Ne.symm o1.2.2.1⟩
          · exact off.mem p (List.mem_cons_of_mem _ hp)
      · refine Off1.all fun p hp => ?_
        rcases e2 p hp with rfl | hp
        · exact Ne.symm o1.2.2.2.1
        · exact off1_get hca hp
  have := go n 0 (by omega) [] [] cellObj none rfl (by rw [List.append_nil]; exact hcb) ⟨rfl, rfl⟩
  rw [List.append_nil] at this
  exact this
theorem rest2_rows {elt : Expr} {x x₂ : PySem.Str} {scope : Scope} {cl : List (PySem.Str × Addr)} {s : Shared} {ax : Addr} {its : Array Value} {Fin : List Value → List (Addr × Obj) → Prop} {c c₂ : Addr} {base : List (Addr × Obj)} (M : Nat → List Int)
    (hcc : @Ne Nat c c₂) (hcb : Off1 c base) (hcb₂ : Off1 c₂ base) (hS : SrcAt h₀ ax its base) (hf : ∀ ys acc oc' oc₂', RowsG base M its.size ys acc → Fin ys ((c₂, oc₂') :: (c, oc') :: (base ++ acc)))
    (step : ∀ i, i < its.size → ∀ v, its[i]? = some v → ∃ (t : Addr) (ot : Obj) (v₁ v₂ : Value) (nt : Nat), v = .ref t ∧ (t, ot) ∈ base ∧ ot.cls = .type "list" ∧ ot.data = .seq #[v₁, v₂] nt ∧ ∀ ys acc I oI C oC D oc' oc₂' h tk (E' : Value → Shared → Prop), oc'.data = .cell (some v₁) → oc₂'.data = .cell (some v₂) → Fr h₀ L h m → News h₀ L h ((I, oI) :: (C, oC) :: (D, lst ys) :: (c₂, oc₂') :: (c, oc') :: (base ++ acc)) →
      wpAny (model prog w) A (eval elt (compEnvC scope ((x₂, c₂) :: (x, c) :: cl) C env)) (RowEnd h₀ L m s ((I, oI) :: (C, oC) :: (D, lst ys) :: (c₂, oc₂') :: (c, oc') :: (base ++ acc)) (M i)) E' { s with heap := h, toks := tk }) :
    Rest2 prog w A h₀ L m env elt x x₂ scope cl s (SrcAt h₀ ax its) (fun i v => its[i]? = some v) Fin c c₂ its.size 0 [] ((c₂, cellObj) :: (c, cellObj) :: base) := by
  have go : ∀ k i, i + k = its.size → ∀ ys acc oc oc₂ v₀ v₀', oc.data = .cell v₀ → oc₂.data = .cell v₀' → Off1 c (base ++ acc) → Off1 c₂ (base ++ acc) → RowsG base M i ys acc → Rest2 prog w A h₀ L m env elt x x₂ scope cl s (SrcAt h₀ ax its) (fun i v => its[i]? = some v) Fin c c₂ k i ys ((c₂, oc₂) :: (c, oc) :: (base ++ acc)) := by
    intro k
    induction k with
    | zero =>
      intro i hi ys acc oc oc₂ v₀ v₀' hoc hoc₂ hca hca₂ hg
      obtain rfl : i = its.size := by omega
      exact hf ys acc oc oc₂ hg
    | succ k ih =>
      intro i hi ys acc oc oc₂ v₀ v₀' hoc hoc₂ hca hca₂ hg
      refine ⟨oc, oc₂, (c₂, oc₂) :: (base ++ acc), base ++ acc, .skip (Ne.symm hcc) (.here (off_of hca)), .here (off_of hca₂), ⟨v₀, hoc⟩, ⟨v₀', hoc₂⟩, SrcAt.more hS (fun p hp => List.mem_append_left _ hp), fun v hv => ?_⟩
      obtain ⟨t, ot, v₁, v₂, nt, rfl, hm, hct, hdt, st⟩ := step i (by omega) v hv
      refine ⟨t, ot, v₁, v₂, nt, rfl, List.mem_append_left _ hm, hct, hdt, fun I oI C oC D oc' oc₂' h tk E' hc hc₂ F N off ne => ?_⟩
      refine wpAny_mono (st ys acc I oI C oC D oc' oc₂' h tk E' hc hc₂ F N) (fun y s' hy => ?_) fun _ _ e => e
      obtain ⟨D', vs, h', tk', rfl, rfl, F', N', o1, hi'⟩ := hy
      have hb : Off1 D' base := off1_left o1.2.2.2.2.2
      have e2 : ∀ p ∈ base ++ (D', lst vs) :: acc, p = (D', lst vs) ∨ p ∈ base ++ acc := fun p hp => by
        rcases List.mem_append.mp hp with hp | hp
        · exact .inr (List.mem_append_left _ hp)
        · rcases List.mem_cons.mp hp with hp | hp
          · exact .inl hp
          · exact .inr (List.mem_append_right _ hp)
      refine ⟨h', tk', (c₂, oc₂') :: (c, oc') :: (base ++ (D', lst vs) :: acc), rfl, F', fun p hp => ?_, ?_, SrcAt.more hS (fun p hp => List.mem_cons_of_mem _ (List.mem_cons_of_mem _ (List.mem_append_left _ hp))), ih (i + 1) (by omega) _ _ _ _ _ _ hc hc₂ ?_ ?_ ⟨ys, acc, D', vs, rfl, rfl, hi', hb, hg⟩⟩
      · rcases List.mem_cons.mp hp with rfl | hp
        · exact N' _ (List.mem_cons_of_mem _ List.mem_cons_self)
        · rcases List.mem_cons.mp hp with rfl | hp
          · exact N' _ (List.mem_cons_of_mem _ (List.mem_cons_of_mem _ List.mem_cons_self))
          · rcases List.mem_cons.mp hp with rfl | hp
            · exact N' _ (List.mem_cons_of_mem _ (List.mem_cons_of_mem _ (List.mem_cons_of_mem _ List.mem_cons_self)))
            · rcases List.mem_cons.mp hp with rfl | hp
              · exact N' _ (List.mem_cons_of_mem _ (List.mem_cons_of_mem _ (List.mem_cons_of_mem _ (List.mem_cons_of_mem _ List.mem_cons_self))))
              · rcases List.mem_cons.mp hp with rfl | hp
                · exact N' _ (List.mem_cons_of_mem _ (List.mem_cons_of_mem _ (List.mem_cons_of_mem _ (List.mem_cons_of_mem _ (List.mem_cons_of_mem _ List.mem_cons_self)))))
                · rcases e2 p hp with rfl | hp
                  · exact N' _ List.mem_cons_self
                  · exact N' _ (List.mem_cons_of_mem _ (List.mem_cons_of_mem _ (List.mem_cons_of_mem _ (List.mem_cons_of_mem _ (List.mem_cons_of_mem _ (List.mem_cons_of_mem _ hp))))))
      · refine Off3.of fun p hp => ?_
        rcases List.mem_cons.mp hp with rfl | hp
        · exact off.mem _ List.mem_cons_self
        · rcases List.mem_cons.mp hp with rfl | hp
          · exact off.mem _ (List.mem_cons_of_mem _ List.mem_cons_self)
          · rcases e2 p hp with rfl | hp
            · exact ⟨Ne.symm o1.1, Ne.symm o1.2.1, Ne.symm o1.2.2.1⟩
            · exact off.mem p (List.mem_cons_of_mem _ (List.mem_cons_of_mem _ hp))
      · refine Off1.all fun p hp => ?_
        rcases e2 p hp with rfl | hp
        · exact Ne.symm o1.2.2.2.2.1
        · exact off1_get hca hp
      · refine Off1.all fun p hp => ?_
        rcases e2 p hp with rfl | hp
        · exact Ne.symm o1.2.2.2.1
        · exact off1_get hca₂ hp
  have := go its.size 0 (by omega) [] [] cellObj cellObj none none rfl rfl (by rw [List.append_nil]; exact hcb) (by rw [List.append_nil]; exact hcb₂) ⟨rfl, rfl⟩
  rw [List.append_nil] at this
  exact this
end
end Mine
end
/-! # LcRev -/
section
open PySem PySem.Spec PySem.Calls PySem.W PyProof.Rows PyProof.Rows.LCg PyProof.Rows.LCt
set_option Elab.async false
set_option maxRecDepth 100000
set_option maxHeartbeats 400000000
namespace Mine
section
variable {prog : Program} {w : World} {A : Around} {E : Value → Shared → Prop} {s : Shared} {env : Env} {h₀ : Heap} {body : List Stmt} {Q : Flow → Shared → Prop}
theorem letGo_rev {elts : List Expr} {x1} {pos : Pos} {I l : Addr} {i : Int} {v : Value} {Q : Unit → Shared → Prop} (hit : s.heap.IsRevIter I l i) (hQ : Q () s) :
    wpAny (model prog w) A (letOwnedTupleGo (.Tuple elts x1 pos) (.ref I) v) Q E s := by
  obtain ⟨o, ho, hc, hd⟩ := hit
  cases v with
  | ref T =>
    unfold letOwnedTupleGo
    refine wpAny_bind (wpAny_load ho ?_)
    rw [hc, hd]
    show wpAny _ A (if (["enumerate", "zip", "dict_itemiterator", "dict_reverseitemiterator", "odict_iterator", "itertools.zip_longest", "itertools.pairwise"].contains "list_reverseiterator" && _) = true then _ else _) Q E s
    rw [if_neg (by
      intro h
      rw [show (["enumerate", "zip", "dict_itemiterator", "dict_reverseitemiterator", "odict_iterator", "itertools.zip_longest", "itertools.pairwise"].contains "list_reverseiterator") = false from by decide, Bool.false_and] at h
      cases h)]
    exact wpAny_pure hQ
  | _ => unfold letOwnedTupleGo; exact wpAny_pure hQ
theorem ktu_rev {elts : List Expr} {k : Nat} {pos : Pos} {ax : Addr} {lo : Obj} {vs : List Value} {n : Nat} {m₀ : PySem.Str → Option Value} {news : List (Addr × Obj)}
    (hh : A.handled = none) (F : Fr h₀ env.locals s.heap m₀) (N : News h₀ env.locals s.heap news) (hm : (ax, lo) ∈ news) (hc : lo.cls = .type "list") (hd : lo.data = .seq vs.toArray n)
    (rest₀ : ∀ I : Addr, (∀ p ∈ news, p.1 < I) → ∀ g : Heap, ItemsRest prog w A E h₀ env (.Tuple elts k pos) body Q { s with heap := g } [(I, "list_reverseiterator")] [(ax, lo)] (vs.reverse.map .val) m₀ news) :
    wpAny (model prog w) A (call (.type "reversed") [.ref ax]) (fun xv s₁ => wpAny (model prog w) A (pyIter xv) (fun it s₂ => TurnsAt prog w A h₀ env (.Tuple elts k pos) body Q E it s₂) E s₁) E s := by
  have hax := N _ hm
  have hl : s.heap.IsList ax vs.toArray := ⟨lo, hax.1, hc, n, hd⟩
  refine krv_reversed F N hl fun I h' F' N' lt => ?_
  have hI := N' _ List.mem_cons_self
  have hit : h'.IsRevIter I ax ((vs.length : Int) - 1) := ⟨_, hI.1, rfl, rfl⟩
  have hne : ax ≠ I := Nat.ne_of_lt (lt _ hm)
  have N₂ : News h₀ env.locals h' news := fun p hp => N' p (List.mem_cons_of_mem _ hp)
  have hl' : h'.IsList ax vs.toArray := ⟨lo, (N₂ _ hm).1, hc, n, hd⟩
  refine wpAny_pyIter_revIter hit ?_
  refine ktu_core (s := { s with heap := h' }) (tk0 := s.toks) (keep := [(ax, lo)]) (KTurns.ofWalks (Walks.listRev hh I ax hne vs.toArray).bound fun i v s Q E st q => letGo_rev st.2.1 q) (xs := vs.reverse.map .val) (by simp) (fun i v h hp => ⟨.val v, ?_, rfl⟩) (fun i h st => ?_) (fun b hb => ?_) (fun b hb => by simpa using hb) (fun b hb => ?_) ?_ (fun p hp hI => ?_) ?_ F' N₂ (And.intro hm trivial) (rest₀ _ lt h')
  · have hp' : vs.toArray[vs.toArray.size - 1 - i]? = some v := hp.2
    have hi : i < vs.length := by simpa using hp.1
    rw [List.getElem?_map, List.getElem?_reverse hi]
    have e : vs[vs.length - 1 - i]? = some v := by simpa using hp'
    rw [e]; rfl
  · obtain ⟨it, hit, hic, _⟩ := st.2.1
    exact ⟨[(I, it)], ⟨⟨rfl, hic⟩, trivial⟩, fun p hp => by rw [List.mem_singleton.mp hp]; exact hit⟩
  · have hb' : b = I := by simpa using hb
    rw [hb']
    exact ⟨List.mem_cons_self .., hI.2.2⟩
  · have hb' : b = I ∨ b = ax := by simpa using hb
    rcases hb' with e | e
    · exact .inl (by simp [e])
    · exact .inr ⟨lo, by simp [e]⟩
  · intro hIm
    rcases List.mem_cons.mp hIm with e | hIm
    · exact hI.2.1 e.symm
    · exact hax.2.1 (List.mem_singleton.mp hIm).symm
  · exact absurd (lt p hp) ((List.mem_singleton.mp hI) ▸ Nat.lt_irrefl _)
  · refine ⟨Nat.zero_le _, ?_, hl'⟩
    have e : ((vs.toArray.size : Nat) : Int) - 1 - ((0 : Nat) : Int) = (vs.length : Int) - 1 := by simp
    rw [e]; exact hit
end
end Mine
end
/-! # Tabs -/
section
open PySem PySem.W PyProof.Rows PySem.Calls PySem.Spec
set_option Elab.async false
set_option maxRecDepth 100000
set_option maxHeartbeats 400000000
open PyProof.Rows.LCg PyProof.Rows.LCt
namespace Mine

noncomputable abbrev LedT (p1 p2 : Array Value) (c1 c2 : List (Addr × Obj)) : List (Addr × Obj) := (61, tabObj p1) :: (68, tabObj p2) :: (c1 ++ c2)
structure TabsOk (p1 p2 : Array Value) (c1 c2 : List (Addr × Obj)) : Prop where
  t1 : TabSt 61 45 4 (PySem.Str.ofString "_int2digits.<locals>.inner") p1 c1
  t2 : TabSt 68 60 4 (PySem.Str.ofString "_digits2int.<locals>.inner") p2 c2
  d1 : ∀ q ∈ c1, (@Ne Nat q.1 61) ∧ (@Ne Nat q.1 68) ∧ ∀ r ∈ c2, q.1 ≠ r.1
  d2 : ∀ q ∈ c2, (@Ne Nat q.1 61) ∧ (@Ne Nat q.1 68)
/-- the two tables after a call -/
noncomputable def TabsNow (p1 p2 : Array Value) (c1 c2 : List (Addr × Obj)) (h h' : Heap) : Prop :=
  ∃ p1' p2' c1' c2', TabsOk p1' p2' c1' c2' ∧ ∀ q ∈ LedT p1' p2' c1' c2', h'.get? q.1 = some q.2 ∧ (q.1 ∈ (LedT p1 p2 c1 c2).map (·.1) ∨ h.get? q.1 = none)
theorem tabs_fin {p1 p2 p1' p2' : Array Value} {c1 c2 c1' c2' all : List (Addr × Obj)} {h g h' : Heap} {L : Addr} (G : GSub h g ((LedT p1 p2 c1 c2).map (·.1))) (N : News g L h' all) (hs : ∀ q ∈ LedT p1' p2' c1' c2', q ∈ all) (T : TabsOk p1' p2' c1' c2') : TabsNow p1 p2 c1 c2 h h' :=
  ⟨p1', p2', c1', c2', T, fun q hq => ⟨(N q (hs q hq)).1, by
    by_cases hb : q.1 ∈ (LedT p1 p2 c1 c2).map (·.1)
    · exact .inl hb
    · exact .inr (new_of G N (hs q hq) hb)⟩⟩
theorem TabsOk.code {p1 p2 : Array Value} {c1 c2 : List (Addr × Obj)} (T : TabsOk p1 p2 c1 c2) : ∀ q ∈ LedT p1 p2 c1 c2, ∃ v, q.2.data = .fields v := by
  intro q hq
  rcases List.mem_cons.mp hq with rfl | hq
  · exact ⟨_, rfl⟩
  rcases List.mem_cons.mp hq with rfl | hq
  · exact ⟨_, rfl⟩
  rcases List.mem_append.mp hq with hq | hq
  · rcases T.t1 with ⟨_, rfl⟩ | ⟨c, oc, _, rfl, ⟨vs, t, hd, _⟩, _⟩
    · cases hq
    · rw [List.mem_singleton.mp hq]; exact ⟨_, hd⟩
  · rcases T.t2 with ⟨_, rfl⟩ | ⟨c, oc, _, rfl, ⟨vs, t, hd, _⟩, _⟩
    · cases hq
    · rw [List.mem_singleton.mp hq]; exact ⟨_, hd⟩
theorem seq_off {h₀ h : Heap} {L a b : Addr} {o o' : Obj} {all : List (Addr × Obj)} {xs v : Array Value} {n : Nat} (N : News h₀ L h all) (m : (a, o) ∈ all) (m' : (b, o') ∈ all) (hd : o.data = .seq xs n) (hd' : o'.data = .fields v) : a ≠ b := fun e => by
  have h1 := (N _ m).1
  have h2 := (N _ m').1
  dsimp only at h1 h2
  rw [e, h2] at h1
  rw [Option.some.inj h1, hd] at hd'; cases hd'
section
variable {w : World} {p : Program} {loose : List PySem.Str} {mean : ExcName → Option Value} {mg mb : PySem.Str → Option Value}
  {dp un : Nat} {gd : Option (List Code)} {cn : PySem.Str} {cs : Scope} {L a : Addr} {ccd : Value} {cl : List (PySem.Str × Addr)} {outer : List Env} {A₀ : Around} {base h₀ : Heap} {m : PySem.Str → Option Value} {s : Shared} {Q E : Value → Shared → Prop}
  {p1 p2 : Array Value} {c1 c2 : List (Addr × Obj)}
theorem use_i2d {x : Int} {n : Nat} {tx tn : Tok} (B : Below A₀ base outer h₀) (F : Fr h₀ L s.heap m) (N : News h₀ L s.heap (LedT p1 p2 c1 c2)) (X : (hd.heap_1 w.params).In h₀) (T : Top p loose mean mg mb h₀) (hk : cs.kind = .function)
    (hd : dp + 40 < recursionLimit) (hu : un + 8 * 40 < cLine) (hT : TabsOk p1 p2 c1 c2) (h0 : 0 ≤ x) (h1 : x < 4096) (h2 : 1 ≤ n) (h3 : n ≤ 3)
    (h : ∀ (r : Addr) (vs : List Value) (kk : Nat) (ds : List Int) (p1' : Array Value) (c1' : List (Addr × Obj)) (h' : Heap) (tk' : Nat), Fr h₀ L h' m → News h₀ L h' ((r, W.listOf vs.toArray kk) :: LedT p1' p2 c1' c2) → TabsOk p1' p2 c1' c2 → IntsAre vs ds → valD (2 ^ n) ds = x → DigOk (2 ^ n) ds → ds.length ≤ 12 → Q (.ref r) { s with heap := h', toks := tk' }) :
    wpAny (model (PySem.Challenge.rw_to0087_01).row.prog w) (ktrTop dp un gd cn cs L a ccd cl outer) (call (.ref 66) [.int x tx, .int (n : Int) tn]) Q E s := by
  have mem2 : ∀ q ∈ (68, tabObj p2) :: c2, q ∈ LedT p1 p2 c1 c2 := fun q hq => by
    rcases List.mem_cons.mp hq with rfl | hq
    · exact List.mem_cons_of_mem _ List.mem_cons_self
    · exact List.mem_cons_of_mem _ (List.mem_cons_of_mem _ (List.mem_append_right _ hq))
  refine Cm.useS (t_i2d w x n tx tn h0 h1 h2 h3 hT.t1) B F N X T hk hd hu (fun q hq => ?_) ((68, tabObj p2) :: c2) (fun q hq => ⟨mem2 q hq, fun hb => ?_⟩) fun v h' tk' F' N' hp => ?_
  · rcases List.mem_cons.mp hq with rfl | hq
    · exact List.mem_cons_self
    · exact List.mem_cons_of_mem _ (List.mem_cons_of_mem _ (List.mem_append_left _ hq))
  · obtain ⟨r, hr, e⟩ := List.mem_map.mp hb
    rcases List.mem_cons.mp hr with rfl | hr
    · rcases List.mem_cons.mp hq with rfl | hq
      · exact absurd (show (61 : Nat) = 68 from e) (by decide)
      · exact (hT.d2 q hq).1 e.symm
    · rcases List.mem_cons.mp hq with rfl | hq
      · exact (hT.d1 r hr).2.1 e
      · exact (hT.d1 r hr).2.2 q hq e
  · obtain ⟨r, vs, kk, ds, rfl, e1, e2, e3, e4, e5, e6, c', oc, q1, q2, q3, q4, q5⟩ := hp
    have N2 := N' [(r, W.listOf vs.toArray kk), (61, tabObj #[rawInt ((45 : Nat) : Int), rawInt ((4 : Nat) : Int), .ref c']), (c', oc)] (fun q hq => by
      simp only [List.mem_cons, List.not_mem_nil, or_false] at hq
      rcases hq with rfl | rfl | rfl
      · exact ⟨e1, .inr e2⟩
      · exact ⟨q1, .inl List.mem_cons_self⟩
      · refine ⟨q2, ?_⟩
        rcases q5 with rfl | q5
        · exact .inl (List.mem_cons_of_mem _ List.mem_cons_self)
        · exact .inr q5)
    refine h r vs kk ds _ [(c', oc)] h' tk' F' (fun q hq => N2 q ?_) ⟨.inr ⟨c', oc, rfl, rfl, q3, q4⟩, hT.t2, fun q hq => ?_, hT.d2⟩ e3 e4 e5 e6
    · simp only [List.mem_cons, List.mem_append, List.not_mem_nil, or_false] at hq ⊢
      rcases hq with hq | hq | hq | hq | hq <;> simp only [hq, true_or, or_true]
    · rw [List.mem_singleton.mp hq]
      rcases q5 with rfl | q5
      · exact hT.d1 _ List.mem_cons_self
      · have old : ∀ q ∈ LedT p1 p2 c1 c2, c' ≠ q.1 := fun q hq e => by
          have := (N q hq).1
          rw [← e, q5] at this; cases this
        exact ⟨Ne.symm q4, old _ (mem2 _ List.mem_cons_self), fun r hr => old _ (mem2 _ (List.mem_cons_of_mem _ hr))⟩
theorem use_d2i {D : Addr} {vs : List Value} {zs : List Int} {kk n : Nat} {tn : Tok} (B : Below A₀ base outer h₀) (F : Fr h₀ L s.heap m) (N : News h₀ L s.heap ((D, W.listOf vs.toArray kk) :: LedT p1 p2 c1 c2)) (X : (hd.heap_1 w.params).In h₀) (T : Top p loose mean mg mb h₀) (hk : cs.kind = .function)
    (hd : dp + 40 < recursionLimit) (hu : un + 8 * 40 < cLine) (hT : TabsOk p1 p2 c1 c2) (hvz : IntsAre vs zs) (hlen : zs.length ≤ 12) (hdg : DigOk (2 ^ n) zs) (h2 : 1 ≤ n) (h3 : n ≤ 3)
    (h : ∀ (t : Tok) (p2' : Array Value) (c2' : List (Addr × Obj)) (h' : Heap) (tk' : Nat), Fr h₀ L h' m → News h₀ L h' ((D, W.listOf vs.toArray kk) :: LedT p1 p2' c1 c2') → TabsOk p1 p2' c1 c2' → Q (.int (valD (2 ^ n) zs) t) { s with heap := h', toks := tk' }) :
    wpAny (model (PySem.Challenge.rw_to0087_01).row.prog w) (ktrTop dp un gd cn cs L a ccd cl outer) (call (.ref 73) [.ref D, .int (n : Int) tn]) Q E s := by
  have offD : ∀ q ∈ LedT p1 p2 c1 c2, D ≠ q.1 := fun q hq => by
    obtain ⟨v, hv⟩ := hT.code q hq
    exact seq_off N List.mem_cons_self (List.mem_cons_of_mem _ hq) rfl hv
  have mem1 : ∀ q ∈ (61, tabObj p1) :: c1, q ∈ LedT p1 p2 c1 c2 := fun q hq => by
    rcases List.mem_cons.mp hq with rfl | hq
    · exact List.mem_cons_self
    · exact List.mem_cons_of_mem _ (List.mem_cons_of_mem _ (List.mem_append_left _ hq))
  have mem2 : ∀ q ∈ (68, tabObj p2) :: c2, q ∈ LedT p1 p2 c1 c2 := fun q hq => by
    rcases List.mem_cons.mp hq with rfl | hq
    · exact List.mem_cons_of_mem _ List.mem_cons_self
    · exact List.mem_cons_of_mem _ (List.mem_cons_of_mem _ (List.mem_append_right _ hq))
  refine Cm.useS (t_d2i w D vs zs kk n tn hvz hlen hdg h2 h3 (Ne.symm (offD _ (mem2 _ List.mem_cons_self))) hT.t2) B F N X T hk hd hu (fun q hq => ?_) ((61, tabObj p1) :: c1) (fun q hq => ⟨List.mem_cons_of_mem _ (mem1 q hq), fun hb => ?_⟩) fun v h' tk' F' N' hp => ?_
  · rcases List.mem_cons.mp hq with rfl | hq
    · exact List.mem_cons_of_mem _ (mem2 _ List.mem_cons_self)
    rcases List.mem_cons.mp hq with rfl | hq
    · exact List.mem_cons_self
    · exact List.mem_cons_of_mem _ (mem2 _ (List.mem_cons_of_mem _ hq))
  · obtain ⟨r, hr, e⟩ := List.mem_map.mp hb
    rcases List.mem_cons.mp hr with rfl | hr
    · rcases List.mem_cons.mp hq with rfl | hq
      · exact absurd (show (68 : Nat) = 61 from e) (by decide)
      · exact (hT.d1 q hq).2.1 e.symm
    rcases List.mem_cons.mp hr with rfl | hr
    · exact offD q (mem1 q hq) e
    · rcases List.mem_cons.mp hq with rfl | hq
      · exact (hT.d2 r hr).1 e
      · exact (hT.d1 q hq).2.2 r hr e.symm
  · obtain ⟨⟨t, rfl⟩, e1, c', oc, q1, q2, q3, q4, q5⟩ := hp
    have N2 := N' [(D, W.listOf vs.toArray kk), (68, tabObj #[rawInt ((60 : Nat) : Int), rawInt ((4 : Nat) : Int), .ref c']), (c', oc)] (fun q hq => by
      simp only [List.mem_cons, List.not_mem_nil, or_false] at hq
      rcases hq with rfl | rfl | rfl
      · exact ⟨e1, .inl (List.mem_cons_of_mem _ List.mem_cons_self)⟩
      · exact ⟨q1, .inl List.mem_cons_self⟩
      · refine ⟨q2, ?_⟩
        rcases q5 with rfl | q5
        · exact .inl (List.mem_cons_of_mem _ (List.mem_cons_of_mem _ List.mem_cons_self))
        · exact .inr q5)
    refine h t _ [(c', oc)] h' tk' F' (fun q hq => N2 q ?_) ⟨hT.t1, .inr ⟨c', oc, rfl, rfl, q3, q4⟩, fun q hq => ?_, fun q hq => ?_⟩
    · simp only [List.mem_cons, List.mem_append, List.not_mem_nil, or_false] at hq ⊢
      rcases hq with hq | hq | hq | hq | hq <;> simp only [hq, true_or, or_true]
    · refine ⟨(hT.d1 q hq).1, (hT.d1 q hq).2.1, fun r hr => ?_⟩
      rw [List.mem_singleton.mp hr]
      rcases q5 with rfl | q5
      · exact (hT.d1 q hq).2.2 _ List.mem_cons_self
      · intro e
        have := (N q (List.mem_cons_of_mem _ (mem1 q (List.mem_cons_of_mem _ hq)))).1
        dsimp only at e
        rw [e, q5] at this; cases this
    · rw [List.mem_singleton.mp hq]
      refine ⟨?_, Ne.symm q4⟩
      rcases q5 with rfl | q5
      · exact (hT.d2 _ List.mem_cons_self).1
      · intro e
        have := (N _ (List.mem_cons_of_mem _ (mem1 _ List.mem_cons_self))).1
        dsimp only at e this
        rw [← e, q5] at this; cases this
end

section
variable {prog : Program} {w : World} {A : Around} {E : Value → Shared → Prop} {s : Shared} {env : Env} {h₀ : Heap} {body : List Stmt} {Q : Flow → Shared → Prop}
theorem letGo_revN {nm : PySem.Str} {pos : Pos} {it v : Value} {Q : Unit → Shared → Prop} (hQ : Q () s) :
    wpAny (model prog w) A (letOwnedTupleGo (.Name nm pos) it v) Q E s := by
  unfold letOwnedTupleGo; exact wpAny_pure hQ
theorem ktu_revN {nm : PySem.Str} {pos : Pos} {ax : Addr} {lo : Obj} {vs : List Value} {n : Nat} {m₀ : PySem.Str → Option Value} {news : List (Addr × Obj)}
    (hh : A.handled = none) (F : Fr h₀ env.locals s.heap m₀) (N : News h₀ env.locals s.heap news) (hm : (ax, lo) ∈ news) (hc : lo.cls = .type "list") (hd : lo.data = .seq vs.toArray n)
    (rest₀ : ∀ I : Addr, (∀ p ∈ news, p.1 < I) → ∀ g : Heap, ItemsRest prog w A E h₀ env (.Name nm pos) body Q { s with heap := g } [(I, "list_reverseiterator")] [(ax, lo)] (vs.reverse.map .val) m₀ news) :
    wpAny (model prog w) A (call (.type "reversed") [.ref ax]) (fun xv s₁ => wpAny (model prog w) A (pyIter xv) (fun it s₂ => TurnsAt prog w A h₀ env (.Name nm pos) body Q E it s₂) E s₁) E s := by
  have hax := N _ hm
  have hl : s.heap.IsList ax vs.toArray := ⟨lo, hax.1, hc, n, hd⟩
  refine krv_reversed F N hl fun I h' F' N' lt => ?_
  have hI := N' _ List.mem_cons_self
  have hit : h'.IsRevIter I ax ((vs.length : Int) - 1) := ⟨_, hI.1, rfl, rfl⟩
  have hne : ax ≠ I := Nat.ne_of_lt (lt _ hm)
  have N₂ : News h₀ env.locals h' news := fun p hp => N' p (List.mem_cons_of_mem _ hp)
  have hl' : h'.IsList ax vs.toArray := ⟨lo, (N₂ _ hm).1, hc, n, hd⟩
  refine wpAny_pyIter_revIter hit ?_
  refine ktu_core (s := { s with heap := h' }) (tk0 := s.toks) (keep := [(ax, lo)]) (KTurns.ofWalks (Walks.listRev hh I ax hne vs.toArray).bound fun i v s Q E st q => letGo_revN q) (xs := vs.reverse.map .val) (by simp) (fun i v h hp => ⟨.val v, ?_, rfl⟩) (fun i h st => ?_) (fun b hb => ?_) (fun b hb => by simpa using hb) (fun b hb => ?_) ?_ (fun p hp hI => ?_) ?_ F' N₂ (And.intro hm trivial) (rest₀ _ lt h')
  · have hp' : vs.toArray[vs.toArray.size - 1 - i]? = some v := hp.2
    have hi : i < vs.length := by simpa using hp.1
    rw [List.getElem?_map, List.getElem?_reverse hi]
    have e : vs[vs.length - 1 - i]? = some v := by simpa using hp'
    rw [e]; rfl
  · obtain ⟨it, hit, hic, _⟩ := st.2.1
    exact ⟨[(I, it)], ⟨⟨rfl, hic⟩, trivial⟩, fun p hp => by rw [List.mem_singleton.mp hp]; exact hit⟩
  · have hb' : b = I := by simpa using hb
    rw [hb']
    exact ⟨List.mem_cons_self .., hI.2.2⟩
  · have hb' : b = I ∨ b = ax := by simpa using hb
    rcases hb' with e | e
    · exact .inl (by simp [e])
    · exact .inr ⟨lo, by simp [e]⟩
  · intro hIm
    rcases List.mem_cons.mp hIm with e | hIm
    · exact hI.2.1 e.symm
    · exact hax.2.1 (List.mem_singleton.mp hIm).symm
  · exact absurd (lt p hp) ((List.mem_singleton.mp hI) ▸ Nat.lt_irrefl _)
  · refine ⟨Nat.zero_le _, ?_, hl'⟩
    have e : ((vs.toArray.size : Nat) : Int) - 1 - ((0 : Nat) : Int) = (vs.length : Int) - 1 := by simp
    rw [e]; exact hit
end
end Mine
end
/-! # Dmp -/
section
theorem Mine.reset_Dmp : True := by (w_top off); k_with_none; trivial
open PySem PySem.W PyProof.Rows PySem.Calls PySem.Spec
set_option Elab.async false
set_option maxRecDepth 100000
set_option maxHeartbeats 400000000
open PyProof.Rows.LCg PyProof.Rows.LCt
namespace Mine

theorem b_bits {b : Int} (h2 : 1 ≤ b) (h3 : b ≤ 4) : 1 ≤ Builtin.Int.intBits b ∧ Builtin.Int.intBits b ≤ 3 ∧ b ≤ 2 ^ Builtin.Int.intBits b := by
  have e : b = 1 ∨ b = 2 ∨ b = 3 ∨ b = 4 := by omega
  rcases e with rfl | rfl | rfl | rfl <;> decide +kernel

noncomputable abbrev nmS := PySem.Str.ofString
/-- what the loop over the digits keeps -/
inductive JQ (B b a : Int) (len : Nat) (m₀ : PySem.Str → Option Value) (Q : Addr) (rest : List (Addr × Obj)) (ts : List (Int × Tok)) : (PySem.Str → Option Value) → List (Addr × Obj) → Prop
  | mk (qv : List Value) (qs : List Int) (k : Nat) (rr : Int) (tr : Tok) (w1 w2 : Option Value) : IntsAre qv qs → DigOk B (ts.map (·.1)) → DigOk B qs → 0 ≤ rr → rr < b →
      (b * valD B qs.reverse + rr) * B ^ (ts.map (·.1)).length + valD B (ts.map (·.1)).reverse = a → qs.length + (ts.map (·.1)).length = len →
      JQ B b a len m₀ Q rest ts (fun y => if y = nmS "r" then some (.int rr tr) else if y = nmS "q_digit" then w1 else if y = nmS "a_digit" then w2 else m₀ y) ((Q, W.listOf qv.toArray k) :: rest)
theorem JQ.cast {B b a : Int} {len : Nat} {m₀ m m' : PySem.Str → Option Value} {Q : Addr} {rest n : List (Addr × Obj)} {ts : List (Int × Tok)} (e : m' = m) (h : JQ B b a len m₀ Q rest ts m n) : JQ B b a len m₀ Q rest ts m' n := e ▸ h
theorem ints_pairs {vs : List Value} {zs : List Int} (h : IntsAre vs zs) : ∃ ts : List (Int × Tok), vs = ts.map (fun q => .int q.1 q.2) ∧ zs = ts.map (·.1) := by
  induction h with
  | nil => exact ⟨[], rfl, rfl⟩
  | cons n t h ih => obtain ⟨ts, h1, h2⟩ := ih; exact ⟨(n, t) :: ts, by rw [h1]; rfl, by rw [h2]; rfl⟩
theorem mq_three {r q d : PySem.Str} (A B C A' B' C' : Option Value) (m₀ : PySem.Str → Option Value) : (fun y => if y = r then A else if y = q then B else if y = d then C else if y = r then A' else if y = q then B' else if y = d then C' else m₀ y) = fun y => if y = r then A else if y = q then B else if y = d then C else m₀ y := by
  funext y
  by_cases h1 : y = r
  · simp only [if_pos h1]
  by_cases h2 : y = q
  · simp only [if_neg h1, if_pos h2]
  by_cases h3 : y = d
  · simp only [if_neg h1, if_neg h2, if_pos h3]
  · simp only [if_neg h1, if_neg h2, if_neg h3]
theorem mq_start {r q d : PySem.Str} {A : Option Value} {m₀ : PySem.Str → Option Value} (h : m₀ r = A) : m₀ = fun y => if y = r then A else if y = q then m₀ q else if y = d then m₀ d else m₀ y := by
  funext y
  by_cases h1 : y = r
  · simp only [if_pos h1]; rw [h1, h]
  by_cases h2 : y = q
  · simp only [if_neg h1, if_pos h2]; rw [h2]
  by_cases h3 : y = d
  · simp only [if_neg h1, if_neg h2, if_pos h3]; rw [h3]
  · simp only [if_neg h1, if_neg h2, if_neg h3]
theorem jq_x {b rr d : Int} {n : Nat} (h3 : b ≤ 4) (hn2 : n ≤ 3) (hr0 : 0 ≤ rr) (hrb : rr < b) (hd0 : 0 ≤ d) (hd1 : d < 2 ^ n) : 0 ≤ rr * 2 ^ Int.toNat (n : Int) + d ∧ rr * 2 ^ Int.toNat (n : Int) + d < 4096 := by
  rw [Int.toNat_natCast]
  have hp : (0 : Int) < 2 ^ n := Int.pow_pos (by decide)
  have hq : (2 : Int) ^ n ≤ 8 := by
    have : 2 ^ n ≤ 2 ^ 3 := Nat.pow_le_pow_right (by decide) hn2
    exact_mod_cast this
  exact ⟨Int.add_nonneg (Int.mul_nonneg hr0 (Int.le_of_lt hp)) hd0, Int.lt_of_lt_of_le (Int.add_lt_add_of_le_of_lt (Int.mul_le_mul (Int.le_of_lt_add_one (Int.lt_of_lt_of_le hrb h3) : rr ≤ 3) hq (Int.le_of_lt hp) (by decide)) (Int.lt_of_lt_of_le hd1 hq)) (by decide)⟩
theorem jq_step {b rr d a : Int} {n : Nat} {zs qs : List Int} (h2 : 1 ≤ b) (hr0 : 0 ≤ rr) (hrb : rr < b) (hd0 : 0 ≤ d) (hd1 : d < 2 ^ n) (hv : (b * valD (2 ^ n) qs.reverse + rr) * (2 ^ n) ^ (d :: zs).length + valD (2 ^ n) (d :: zs).reverse = a) :
    0 ≤ (rr * 2 ^ Int.toNat (n : Int) + d).fmod b ∧ (rr * 2 ^ Int.toNat (n : Int) + d).fmod b < b ∧ 0 ≤ (rr * 2 ^ Int.toNat (n : Int) + d).fdiv b ∧ (rr * 2 ^ Int.toNat (n : Int) + d).fdiv b < 2 ^ n ∧
      (b * valD (2 ^ n) (qs ++ [(rr * 2 ^ Int.toNat (n : Int) + d).fdiv b]).reverse + (rr * 2 ^ Int.toNat (n : Int) + d).fmod b) * (2 ^ n) ^ zs.length + valD (2 ^ n) zs.reverse = a := by
  rw [Int.toNat_natCast]
  have hp : (0 : Int) < 2 ^ n := Int.pow_pos (by decide)
  generalize (2 : Int) ^ n = B at hp hd1 hv ⊢
  rw [Int.fdiv_eq_ediv_of_nonneg _ (by omega), Int.fmod_eq_emod_of_nonneg _ (by omega)]
  have hx0 : 0 ≤ rr * B + d := Int.add_nonneg (Int.mul_nonneg hr0 (Int.le_of_lt hp)) hd0
  have e1 := Int.emod_nonneg (rr * B + d) (show b ≠ 0 by omega)
  have e2 := Int.emod_lt_of_pos (rr * B + d) (show 0 < b by omega)
  have e3 := Int.mul_ediv_add_emod (rr * B + d) b
  have e4 : 0 ≤ (rr * B + d) / b := Int.ediv_nonneg hx0 (by omega)
  have e5 : (rr * B + d) / b < B := by
    refine Int.ediv_lt_of_lt_mul (by omega) ?_
    have : (rr + 1) * B ≤ b * B := Int.mul_le_mul_of_nonneg_right (by omega) (Int.le_of_lt hp)
    rw [Int.add_mul, Int.one_mul] at this
    rw [Int.mul_comm B b]; omega
  refine ⟨e1, e2, e4, e5, ?_⟩
  rw [List.reverse_append, List.reverse_singleton, List.singleton_append, valD, ← hv, List.length_cons, List.reverse_cons, valD_app, List.length_reverse, Int.pow_succ]
  simp only [valD, Int.mul_zero, Int.add_zero]
  have e6 : b * ((rr * B + d) / b + B * valD B qs.reverse) + (rr * B + d) % b = (b * valD B qs.reverse + rr) * B + d := by
    rw [Int.mul_add, ← Int.mul_assoc b B, Int.mul_comm b B, Int.mul_assoc B b, Int.add_mul, Int.mul_comm (b * valD B qs.reverse) B]
    omega
  rw [e6, Int.add_mul, Int.mul_assoc _ B, Int.mul_comm B (B ^ zs.length), Int.mul_comm d]
  omega

theorem newl_ne {h₀ h h' : Heap} {L r l : Addr} {o ol : Obj} {all : List (Addr × Obj)} (Y : NewL h h' [(r, o)]) (N : News h₀ L h all) (m : (l, ol) ∈ all) : r ≠ l := fun e => by
  have h1 := (Y _ List.mem_cons_self).2
  have h2 := (N _ m).1
  dsimp only at h1 h2
  rw [e, h2] at h1; cases h1
theorem jq_start {B b a : Int} {len : Nat} {m₀ : PySem.Str → Option Value} {Q : Addr} {rest : List (Addr × Obj)} {ts : List (Int × Tok)} {tr : Tok} (h : m₀ (nmS "r") = some (.int 0 tr)) (hz : DigOk B (ts.map (·.1))) (hb : 0 < b) (hv : valD B (ts.map (·.1)).reverse = a) (hl : (ts.map (·.1)).length = len) : JQ B b a len m₀ Q rest ts m₀ ((Q, W.listOf #[] 0) :: rest) :=
  JQ.cast (mq_start h) (.mk [] [] 0 0 tr _ _ .nil hz (fun d hd => nomatch hd) (Int.le_refl 0) hb (by rw [← hv]; simp [valD]) (by rw [← hl]; simp))
theorem jq_end {h₀ h' : Heap} {L Q I rt : Addr} {m' m₀ : PySem.Str → Option Value} {gs : Array GenState} {dr : Drawn} {os : OsState} {R : Flow → Shared → Prop} {tk k len : Nat} {B b a rr q : Int} {oI ot oQ : Obj} {rest : List (Addr × Obj)} {keep : Addr × Obj} {ts : List (Int × Tok)} {qv : List Value} {d : Int} {qs : List Int} {t1 tr : Tok} {w1 w2 : Option Value}
    (hend : ∀ h' tk' m' n', Fr h₀ L h' m' → News h₀ L h' ((I, oI) :: n') → (∀ p ∈ n', p.1 ≠ I) → SubL [keep] n' → JQ B b a len m₀ Q rest ts m' n' → R .next ⟨h', gs, dr, tk', os⟩)
    (F : Fr h₀ L h' m') (N : News h₀ L h' ((rt, ot) :: (I, oI) :: (Q, W.listOf (qv.toArray.push (.int q t1)) k) :: rest)) (hlt : ∀ p ∈ (Q, oQ) :: rest, @LT.lt Nat _ p.1 I) (hkeep : keep ∈ rest)
    (hm : m' = fun y => if y = nmS "r" then some (.int rr tr) else if y = nmS "q_digit" then w1 else if y = nmS "a_digit" then w2 else m₀ y) (hq : IntsAre qv qs) (hz : DigOk B (d :: ts.map (·.1))) (hqd : DigOk B qs) (q0 : 0 ≤ q) (q1 : q < B) (r0 : 0 ≤ rr) (r1 : rr < b)
    (hval : (b * valD B (qs ++ [q]).reverse + rr) * B ^ (ts.map (·.1)).length + valD B (ts.map (·.1)).reverse = a) (hlen : qs.length + (d :: ts.map (·.1)).length = len) :
    R .next ⟨h', gs, dr, tk, os⟩ := by
  rw [List.push_toArray] at N
  refine hend h' tk m' _ F (fun p hp => N p (List.mem_cons_of_mem _ hp)) (fun p hp => ?_) ⟨List.mem_cons_of_mem _ hkeep, trivial⟩ (JQ.cast hm (.mk _ (qs ++ [q]) k rr tr w1 w2 (IntsAre.append hq (.cons q t1 .nil)) (fun d hd => hz d (List.mem_cons_of_mem _ hd)) (fun d hd => ?_) r0 r1 hval (by rw [List.length_append, List.length_singleton, ← hlen, List.length_cons]; omega)))
  · rcases List.mem_cons.mp hp with rfl | hp
    · exact Nat.ne_of_lt (hlt (Q, oQ) List.mem_cons_self)
    · exact Nat.ne_of_lt (hlt _ (List.mem_cons_of_mem _ hp))
  · rcases List.mem_append.mp hd with hd | hd
    · exact hqd d hd
    · rw [List.mem_singleton.mp hd]; exact ⟨q0, q1⟩
theorem jq_fin {B b a rr : Int} {qs : List Int} (h2 : 1 ≤ b) (r0 : 0 ≤ rr) (r1 : rr < b) (hval : (b * valD B qs.reverse + rr) * B ^ ([] : List Int).length + valD B ([] : List Int).reverse = a) : valD B qs.reverse = a.fdiv b ∧ rr = a.fmod b := by
  have e : b * valD B qs.reverse + rr = a := by simpa [valD] using hval
  rw [Int.fdiv_eq_ediv_of_nonneg _ (by omega), Int.fmod_eq_emod_of_nonneg _ (by omega), ← e]
  rw [Int.mul_add_ediv_left _ _ (by omega), Int.ediv_eq_zero_of_lt r0 r1, Int.mul_add_emod_self_left, Int.emod_eq_of_lt r0 r1]
  exact ⟨by omega, rfl⟩
noncomputable abbrev DivPost (a b : Int) (p1 p2 : Array Value) (c1 c2 : List (Addr × Obj)) (h : Heap) (rv : Value) (h' : Heap) : Prop :=
  (∃ r t1 t2, rv = .ref r ∧ h'.get? r = some { cls := .type "tuple", data := .seq #[.int (a.fdiv b) t1, .int (a.fmod b) t2] } ∧ (r ∈ (LedT p1 p2 c1 c2).map (·.1) ∨ h.get? r = none)) ∧ TabsNow p1 p2 c1 c2 h h'
theorem div_post {a b x y : Int} {p1 p2 p1' p2' : Array Value} {c1 c2 c1' c2' all : List (Addr × Obj)} {h g h' : Heap} {L r : Addr} {t1 t2 : Tok} (G : GSub h g ((LedT p1 p2 c1 c2).map (·.1))) (N : News g L h' all) (m : (r, { cls := .type "tuple", data := .seq #[.int x t1, .int y t2] }) ∈ all) (hs : ∀ q ∈ LedT p1' p2' c1' c2', q ∈ all) (T : TabsOk p1' p2' c1' c2') (hx : x = a.fdiv b) (hy : y = a.fmod b) : DivPost a b p1 p2 c1 c2 h (.ref r) h' := by
  subst hx hy
  refine ⟨⟨r, t1, t2, rfl, (N _ m).1, ?_⟩, tabs_fin G N hs T⟩
  by_cases hr : r ∈ (LedT p1 p2 c1 c2).map (·.1)
  · exact .inl hr
  · exact .inr (new_of G N m hr)

theorem ints_rev {vs : List Value} {zs : List Int} (h : IntsAre vs zs) : IntsAre vs.reverse zs.reverse := by
  induction h with
  | nil => exact .nil
  | cons n t h ih => rw [List.reverse_cons, List.reverse_cons]; exact IntsAre.append ih (.cons n t .nil)
theorem allLt_mem {D : Addr} : ∀ {l : List (Addr × Obj)}, AllLt D l → ∀ p ∈ l, @LT.lt Nat _ p.1 D
  | [], _, _, h => nomatch h
  | _ :: _, x, p, h => by
    rcases List.mem_cons.mp h with rfl | h
    · exact x.1
    · exact allLt_mem x.2 p h

theorem drop2 {α : Type} {a b q : α} {l : List α} (h : q ∈ a :: l) : q ∈ a :: b :: l := by
  rcases List.mem_cons.mp h with rfl | h
  · exact List.mem_cons_self
  · exact List.mem_cons_of_mem _ (List.mem_cons_of_mem _ h)
section
local macro_rules | `(tactic| k_lt $h:ident) => `(tactic| (have kl9 := allLt_of $h; (replace $h := allLt_of $h; simp only [AllLt, and_true] at $h:ident)))
theorem t_dmp (w : World) {p : Program} {loose : List PySem.Str} {mean : ExcName → Option Value} {mg mb : PySem.Str → Option Value} (a b : Int) (ta tb : Tok) (h0 : 0 ≤ a) (h1 : a < 4096) (h2 : 1 ≤ b) (h3 : b ≤ 4) {p1 p2 : Array Value} {c1 c2 : List (Addr × Obj)} (hT : TabsOk p1 p2 c1 c2) :
    Cm w p loose mean mg mb PySem.Challenge.rw_to0087_01 80 60 [.int a ta, .int b tb] (LedT p1 p2 c1 c2) (fun h rv h' => DivPost a b p1 p2 c1 c2 h rv h') := by
  k_with_none
  k_with "k_all" => with_reducible assumption
  k_with "binaryOp LShift int int" => (k_here; k_dflt (refine lshift_int_small (by omega) (by omega) (by omega) ?_))
  k_with "exec For Name Call cons nil" => (k_here; (rename Fr _ _ _ _ => lF'); (with_unfolding_all refine' For_turns lF' ?_; k_whole))
  k_with "call type:reversed" => (k_here; k_dflt (refine ktu_revN (by rfl) (by k_asm) (by k_asm) (by k_mem) (by rfl) (by rfl) ?_); intro I' l1 g'; (try k_lt l1))
  k_with "ItemsRest" => (k_here; refine halt ?_)
  k_with "call builtin:list.append" => (k_here; (with_reducible show wpAny _ _ (call (Value.builtin _) [Value.ref _, _]) _ _ _); k_dflt (refine' append_K ?k1 ?k2 ?k3 ?_ ?z; (case k1 => k_asm); (case k2 => k_asm); (case k3 => k_upd); (case z => exact Nat.le_trans (m := 64) (by (try simp only [Array.size_push, List.size_toArray]); omega) (by decide)); k_whole); intro h' F' N'; (try k_sweep))
  k_with "call builtin:list.reverse" => (k_here; (with_reducible show wpAny _ _ (call (Value.builtin _) [Value.ref _]) _ _ _); k_dflt (refine' kl_reverse ?F ?N ?e ?U ?z ?_; (case F => k_asm); (case N => k_asm); (case e => exact rfl); (case U => k_upd); (case z => exact Nat.le_trans (m := 64) (by (try simp only [List.toList_toArray]); omega) (by decide))); intro h' F' N'; (try dsimp only [List.nil_append, List.cons_append] at N'))
  k_with "call ref" => (k_here; refine halt ?_)
  k_dflt (refine' Cm.enter (binds := [(nmS "a", .int a ta), (nmS "b", .int b tb)]) ?ho ?hcd ?hr ?hb ?hloc ?c2 ?c3 ?c4 ?c5 ?h); all_goals (try k_fill)
  case ho => k_is
  case hcd => k_is
  case hr => decide
  case hb => exact fun s => BindsTo.of_eq rfl
  case hloc => exact locs rfl
  case c2 => exact rfl
  case c3 => exact rfl
  case c4 => exact rfl
  case c5 => decide
  intro dp un gd outer A₀ base g sh h' L' tk gs dr os R hdp hun G' B' X' T' hret F' N'
  (try dsimp only)
  obtain ⟨hn1, hn2, hn3⟩ := b_bits h2 h3
  w_strict k_steps
  unfold Halt
  refine use_i2d (by k_asm) (by k_asm) (by k_asm) (by k_asm) (by k_asm) rfl (by (try dsimp only); omega) (by (try dsimp only); omega) hT h0 h1 hn1 hn2 ?_
  intro r vs kk ds p1' c1' h9 tk9 F9 N9 hT9 hi hv hd9 hl
  simp only [LedT] at N9
  obtain ⟨ts, e1, e2⟩ := ints_pairs (ints_rev hi)
  (try dsimp only)
  w_strict k_steps
  unfold Halt
  have hne9 := fun (p : Addr × Obj) (hp : p ∈ _) => Nat.ne_of_lt (allLt_mem (l := (r, W.listOf vs.toArray kk) :: (61, tabObj p1') :: (68, tabObj p2) :: (c1' ++ c2)) (by with_reducible assumption) p hp)
  have hz9 : DigOk (2 ^ Builtin.Int.intBits b) (ts.map (·.1)) := fun d hd => hd9 d (List.mem_reverse.mp (e2 ▸ hd))
  refine items_i1 (fun q : Int × Tok => .val (.int q.1 q.2)) (fun q _ => .int q.1 q.2) (fun _ => JQ (2 ^ Builtin.Int.intBits b) b a ds.length _ _ _) ts L' rfl (by rw [e1, List.map_map]; rfl) is_val (jq_start rfl hz9 (Int.lt_of_lt_of_le Int.zero_lt_one h2) ?jv ?jl) ?step ?done
  case jv => rw [← e2, List.reverse_reverse]; exact hv
  case jl => rw [← e2, List.length_reverse]
  case step =>
    intro x1 ts1 m1 n1 hJ
    cases hJ with
    | mk qv qs k rr tr w1 w2 hqv hzd hqd hr0 hrb hval hlen =>
    intro _ h1' gs1 dr1 tk1 os1 oI1 R1 cI1 hend1 F1 N1
    obtain ⟨hd0, hd1⟩ := hzd _ List.mem_cons_self
    obtain ⟨hx0, hx1⟩ := jq_x h3 hn2 hr0 hrb hd0 hd1
    obtain ⟨q1, q2, q3, q4, q5⟩ := jq_step h2 hr0 hrb hd0 hd1 hval
    w_strict k_steps
    unfold Halt
    refine Cl.use (t_d2n w _ b _ _ _ _ hx0 hx1 h2 h3 (by omega) (by omega)) (by k_asm) (by k_asm) (by k_asm) (by k_asm) (by k_asm) rfl (by (try dsimp only); omega) (by (try dsimp only); omega) trivial ?_
    intro v8 h8 tk8 I8 F8 N8 hp8
    clear I8
    obtain ⟨rt, t1, t2, rfl, hN8⟩ := hp8
    have hrl : @Ne Nat rt _ := newl_ne (ol := W.listOf qv.toArray k) hN8 (by k_asm) (by k_mem)
    have N8 := hN8.news (by k_asm) N8
    clear hN8
    (try simp only [List.cons_append, List.nil_append] at N8)
    have hql := hqv.length
    have hqv' : Halt (IntsAre qv qs) := hqv
    (try dsimp only)
    have hlen2 : qs.length + ts1.length + 1 = ds.length := by rw [← hlen, List.map_cons, List.length_cons, List.length_map]; omega
    w_strict k_steps
    exact jq_end hend1 (by k_asm) (by k_asm) (fun p hp => allLt_mem (by with_reducible assumption) p hp) (by k_mem) (mq_three _ _ _ _ _ _ _) hqv' hzd hqd q3 q4 q1 q2 q5 hlen
  case done =>
    intro m1 n1 hJ
    cases hJ with
    | mk qv qs k rr tr w1 w2 hqv hzd hqd hr0 hrb hval hlen =>
    intro h1' tk1 F1 N1
    have hql := hqv.length
    have hqv' : Halt (IntsAre qv qs) := hqv
    obtain ⟨f1, f2⟩ := jq_fin h2 hr0 hrb hval
    have hlen : qs.length = ds.length := hlen
    (try dsimp only)
    w_strict k_steps
    unfold Halt
    rename News _ _ _ _ => N7
    refine use_d2i (by k_asm) (by k_asm) (fun q hq => N7 q (drop2 hq)) (by k_asm) (by k_asm) rfl (by (try dsimp only); omega) (by (try dsimp only); omega) hT9 (ints_rev hqv') (by rw [List.length_reverse]; omega) (fun d hd => hqd d (List.mem_reverse.mp hd)) hn1 hn2 ?_
    intro t7 p2' c2' h7 tk7 F7 N7 hT7
    simp only [LedT] at N7
    (try dsimp only)
    w_strict k_steps
    (try dsimp only)
    (try w_strict k_steps)
    exact hret _ _ _ _ _ _ (by k_asm) (by k_asm) (div_post G' (by k_asm) (by k_mem) (fun q hq => List.mem_cons_of_mem _ (List.mem_cons_of_mem _ hq)) hT7 f1 f2)
end
end Mine
end
/-! # Div -/
section
theorem Mine.reset_Div : True := by (w_top off); k_with_none; trivial
open PySem PySem.W PyProof.Rows PySem.Calls PySem.Spec
set_option Elab.async false
set_option maxRecDepth 100000
set_option maxHeartbeats 400000000
open PyProof.Rows.LCg PyProof.Rows.LCt
namespace Mine

theorem use_div {w : World} {p : Program} {loose : List PySem.Str} {mean : ExcName → Option Value} {mg mb : PySem.Str → Option Value}
  {dp un : Nat} {gd : Option (List Code)} {cn : PySem.Str} {cs : Scope} {L a₁ : Addr} {ccd : Value} {cl : List (PySem.Str × Addr)} {outer : List Env} {A₀ : Around} {base h₀ : Heap} {m : PySem.Str → Option Value} {s : Shared} {Q E : Value → Shared → Prop}
  {p1 p2 : Array Value} {c1 c2 all : List (Addr × Obj)} {f : Addr} {room : Nat} {a b : Int} {args : List Value}
    (C : Cm w p loose mean mg mb PySem.Challenge.rw_to0087_01 f room args (LedT p1 p2 c1 c2) (fun h rv h' => DivPost a b p1 p2 c1 c2 h rv h'))
    (B : Below A₀ base outer h₀) (F : Fr h₀ L s.heap m) (N : News h₀ L s.heap all) (X : (hd.heap_1 w.params).In h₀) (T : Top p loose mean mg mb h₀) (hk : cs.kind = .function)
    (hd : dp + room < recursionLimit) (hu : un + 8 * room < cLine) (hs : ∀ q ∈ LedT p1 p2 c1 c2, q ∈ all) (others : List (Addr × Obj)) (ho : ∀ q ∈ others, q ∈ all ∧ ∀ r ∈ LedT p1 p2 c1 c2, r.1 ≠ q.1)
    (h : ∀ (r : Addr) (t1 t2 : Tok) (p1' p2' : Array Value) (c1' c2' : List (Addr × Obj)) (h' : Heap) (tk' : Nat), Fr h₀ L h' m → News h₀ L h' ((r, { cls := .type "tuple", data := .seq #[.int (a.fdiv b) t1, .int (a.fmod b) t2] }) :: (others ++ LedT p1' p2' c1' c2')) → TabsOk p1' p2' c1' c2' → (∀ q ∈ others, ∀ r ∈ LedT p1' p2' c1' c2', r.1 ≠ q.1) → Q (.ref r) { s with heap := h', toks := tk' }) :
    wpAny (model (PySem.Challenge.rw_to0087_01).row.prog w) (ktrTop dp un gd cn cs L a₁ ccd cl outer) (call (.ref f) args) Q E s := by
  refine Cm.useS C B F N X T hk hd hu hs others (fun q hq => ⟨(ho q hq).1, fun hb => ?_⟩) fun v h' tk' F' N' hp => ?_
  · obtain ⟨r, hr, e⟩ := List.mem_map.mp hb
    exact (ho q hq).2 r hr e
  · obtain ⟨⟨r, t1, t2, rfl, e1, e2⟩, p1', p2', c1', c2', T', hT'⟩ := hp
    have N2 := N' ((r, { cls := .type "tuple", data := .seq #[.int (a.fdiv b) t1, .int (a.fmod b) t2] }) :: LedT p1' p2' c1' c2') (fun q hq => by
      rcases List.mem_cons.mp hq with rfl | hq
      · exact ⟨e1, e2⟩
      · exact hT' q hq)
    refine h r t1 t2 p1' p2' c1' c2' h' tk' F' (fun q hq => N2 q ?_) T' (fun q hq x hx e => ?_)
    rotate_left
    · rcases (hT' x hx).2 with hb | hn
      · obtain ⟨y, hy, e2⟩ := List.mem_map.mp hb
        exact (ho q hq).2 y hy (e2.trans e)
      · have := (N q (ho q hq).1).1
        rw [← e, hn] at this; cases this
    rcases List.mem_cons.mp hq with rfl | hq
    · exact List.mem_cons_self
    · rcases List.mem_append.mp hq with hq | hq
      · exact List.mem_append_right _ hq
      · exact List.mem_append_left _ (List.mem_cons_of_mem _ hq)
theorem div_same {a b x y : Int} {p1 p2 p1' p2' : Array Value} {c1 c2 c1' c2' all : List (Addr × Obj)} {h g h' : Heap} {L r : Addr} {t1 t2 : Tok} (G : GSub h g ((LedT p1 p2 c1 c2).map (·.1)))
    (N : News g L h' all) (m : (r, { cls := .type "tuple", data := .seq #[.int x t1, .int y t2] }) ∈ all) (T : TabsOk p1' p2' c1' c2') (hs : ∀ q ∈ LedT p1' p2' c1' c2', q ∈ all) (hx : x = a.fdiv b ∧ y = a.fmod b) : DivPost a b p1 p2 c1 c2 h (.ref r) h' :=
  div_post G N m hs T hx.1 hx.2
theorem neg_div {a b : Int} (h : a < 0) (h2 : 1 ≤ b) : -((-a - 1).fdiv b) - 1 = a.fdiv b ∧ b + (-((-a - 1).fmod b) - 1) = a.fmod b := by
  have hx : 0 ≤ -a - 1 := by omega
  rw [Int.fdiv_eq_ediv_of_nonneg _ (by omega), Int.fmod_eq_emod_of_nonneg _ (by omega), Int.fdiv_eq_ediv_of_nonneg _ (by omega), Int.fmod_eq_emod_of_nonneg _ (by omega)]
  have e1 := Int.mul_ediv_add_emod (-a - 1) b
  have e2 := Int.emod_nonneg (-a - 1) (show b ≠ 0 by omega)
  have e3 := Int.emod_lt_of_pos (-a - 1) (show 0 < b by omega)
  have e4 := Int.mul_ediv_add_emod a b
  have e5 := Int.emod_nonneg a (show b ≠ 0 by omega)
  have e6 := Int.emod_lt_of_pos a (show 0 < b by omega)
  generalize (-a - 1) / b = q at *
  generalize (-a - 1) % b = r at *
  generalize a / b = q' at *
  generalize a % b = r' at *
  have e7 : b * (q + q' + 1) = b - 1 - r - r' := by rw [Int.mul_add, Int.mul_add]; omega
  have e8 : q + q' + 1 = 0 := by
    by_cases hc : q + q' + 1 = 0
    · exact hc
    · exfalso
      rcases Int.lt_or_gt_of_ne hc with hc | hc
      · have : b * (q + q' + 1) ≤ b * (-1) := Int.mul_le_mul_of_nonneg_left (by omega) (by omega)
        omega
      · have : b * 1 ≤ b * (q + q' + 1) := Int.mul_le_mul_of_nonneg_left (by omega) (by omega)
        omega
  rw [e8, Int.mul_zero] at e7
  constructor <;> omega

theorem neg_div' {a b : Int} (h : a < 0) (h2 : 1 ≤ b) : Builtin.bitNot ((-a - 1).fdiv b) = a.fdiv b ∧ b + Builtin.bitNot ((-a - 1).fmod b) = a.fmod b := by
  have h3 := neg_div h h2
  have e : ∀ x : Int, Builtin.bitNot x = -x - 1 := fun x => rfl
  rw [e, e]; exact h3
section
theorem t_divn (w : World) {p : Program} {loose : List PySem.Str} {mean : ExcName → Option Value} {mg mb : PySem.Str → Option Value} (a b : Int) (ta tb : Tok) (h0 : 0 ≤ a) (h1 : a < 4096) (h2 : 1 ≤ b) (h3 : b ≤ 4) {p1 p2 : Array Value} {c1 c2 : List (Addr × Obj)} (hT : TabsOk p1 p2 c1 c2) :
    Cm w p loose mean mg mb PySem.Challenge.rw_to0087_01 87 70 [.int a ta, .int b tb] (LedT p1 p2 c1 c2) (fun h rv h' => DivPost a b p1 p2 c1 c2 h rv h') := by
  k_with_none
  k_with "call ref" => (k_here; refine halt ?_)
  unfold Cm
  k_fill
  intros
  rename_i hret
  refine wpAny_call ?_
  w_strict (k_dflt (refine' enterM ?k1 ?k2 ?k3 ?k4 ?k5 ?kA ?kF ?kK ?k6 ?k7 ?k8 ?k9 ?kB ?_ ?c2 ?c3 ?c4 ?c5; (case kA => exact rfl); (case kF => exact rfl); (case kK => assumption); (case k1 => k_asm); (case k2 => k_asm); (case k3 => k_asm); (case k4 => k_asm); (case k5 => k_asm); (case k6 => k_is); (case k7 => k_is); (case k8 => ktr_room); (case k9 => exact BindsTo.of_eq rfl); (case c5 => decide); (case kB => exact locs rfl); (case c2 => exact rfl); (case c3 => exact rfl); (case c4 => exact rfl); k_whole; intro g' L' h' F' N' B' X' T' G'; (try dsimp only); (try k_fold)))
  w_strict k_steps
  any_goals (exfalso; omega)
  unfold Halt
  refine use_div (t_dmp w a b _ _ h0 h1 h2 h3 hT) (by k_asm) (by k_asm) (by k_asm) (by k_asm) (by k_asm) rfl (by (try dsimp only); omega) (by (try dsimp only); omega) (fun q hq => hq) [] (fun q hq => nomatch hq) ?_
  intro r t1 t2 p1' p2' c1' c2' h9 tk9 F9 N9 hT9 _
  w_strict k_steps
  (try dsimp only)
  (try w_strict k_steps)
  refine backM_ (by k_asm) (by k_asm) G' (fun kE => hret _ _ _ kE ?_)
  exact div_same G' N9 List.mem_cons_self hT9 (fun q hq => List.mem_cons_of_mem _ hq) ⟨rfl, rfl⟩
theorem t_divg (w : World) {p : Program} {loose : List PySem.Str} {mean : ExcName → Option Value} {mg mb : PySem.Str → Option Value} (a b : Int) (ta tb : Tok) (h0 : a < 0) (h1 : -4096 < a) (h2 : 1 ≤ b) (h3 : b ≤ 4) {p1 p2 : Array Value} {c1 c2 : List (Addr × Obj)} (hT : TabsOk p1 p2 c1 c2) :
    Cm w p loose mean mg mb PySem.Challenge.rw_to0087_01 87 80 [.int a ta, .int b tb] (LedT p1 p2 c1 c2) (fun h rv h' => DivPost a b p1 p2 c1 c2 h rv h') := by
  k_with_none
  k_with "call ref" => (k_here; refine halt ?_)
  unfold Cm
  k_fill
  intros
  rename_i hret
  refine wpAny_call ?_
  w_strict (k_dflt (refine' enterM ?k1 ?k2 ?k3 ?k4 ?k5 ?kA ?kF ?kK ?k6 ?k7 ?k8 ?k9 ?kB ?_ ?c2 ?c3 ?c4 ?c5; (case kA => exact rfl); (case kF => exact rfl); (case kK => assumption); (case k1 => k_asm); (case k2 => k_asm); (case k3 => k_asm); (case k4 => k_asm); (case k5 => k_asm); (case k6 => k_is); (case k7 => k_is); (case k8 => ktr_room); (case k9 => exact BindsTo.of_eq rfl); (case c5 => decide); (case kB => exact locs rfl); (case c2 => exact rfl); (case c3 => exact rfl); (case c4 => exact rfl); k_whole; intro g' L' h' F' N' B' X' T' G'; (try dsimp only); (try k_fold)))
  w_strict k_steps
  any_goals (exfalso; omega)
  unfold Halt
  refine use_div (t_divn w (-a - 1) b _ _ (by omega) (by omega) h2 h3 hT) (by k_asm) (by k_asm) (by k_asm) (by k_asm) (by k_asm) rfl (by (try dsimp only); omega) (by (try dsimp only); omega) (fun q hq => hq) [] (fun q hq => nomatch hq) ?_
  intro r t1 t2 p1' p2' c1' c2' h9 tk9 F9 N9 hT9 _
  simp only [LedT, List.nil_append] at N9
  w_strict k_steps
  (try dsimp only)
  (try w_strict k_steps)
  refine backM_ (by k_asm) (by k_asm) G' (fun kE => hret _ _ _ kE ?_)
  exact div_same G' (by with_reducible assumption) (by k_mem) hT9 (fun q hq => List.mem_cons_of_mem _ (List.mem_cons_of_mem _ hq)) (neg_div' h0 h2)
end

theorem t_div (w : World) {p : Program} {loose : List PySem.Str} {mean : ExcName → Option Value} {mg mb : PySem.Str → Option Value} (a b : Int) (ta tb : Tok) (h0 : -4096 < a) (h1 : a < 4096) (h2 : 1 ≤ b) (h3 : b ≤ 4) {p1 p2 : Array Value} {c1 c2 : List (Addr × Obj)} (hT : TabsOk p1 p2 c1 c2) :
    Cm w p loose mean mg mb PySem.Challenge.rw_to0087_01 87 80 [.int a ta, .int b tb] (LedT p1 p2 c1 c2) (fun h rv h' => DivPost a b p1 p2 c1 c2 h rv h') := by
  by_cases h : a < 0
  · exact t_divg w a b ta tb h h0 h2 h3 hT
  · intro dp un gd cn cs a₁ ccd cl outer A₀ base h₀ L m s Q E B F X N T hk hd hu k
    exact t_divn w a b ta tb (by omega) h1 h2 h3 hT dp un gd cn cs a₁ ccd cl outer A₀ base h₀ L m s Q E B F X N T hk (by omega) (by omega) k
end Mine
end
/-! # LcPT -/
section
open PySem PySem.Spec PySem.Calls PySem.W PyProof.Rows PyProof.Rows.LCg PyProof.Rows.LCt
set_option Elab.async false
set_option maxRecDepth 100000
set_option maxHeartbeats 400000000
namespace Mine
section
variable {prog : Program} {w : World} {A : Around} {E : Value → Shared → Prop} {s : Shared} {h₀ : Heap} {L : Addr} {m : PySem.Str → Option Value} {env : Env}
/-- one turn of a comprehension over pairs, with a test; the ledger stays -/
noncomputable def TurnPT (prog : Program) (w : World) (A : Around) (h₀ : Heap) (L : Addr) (m : PySem.Str → Option Value) (env : Env) (ct elt : Expr) (x x₂ : PySem.Str) (scope : Scope) (cl : List (PySem.Str × Addr)) (s : Shared) (news : List (Addr × Obj)) (G : Nat → List Value → Prop) (i : Nat) (ys : List Value) (v : Value) : Prop :=
  ∃ (t : Addr) (ot : Obj) (v₁ v₂ : Value) (nt : Nat), v = .ref t ∧ (t, ot) ∈ news ∧ ot.cls = .type "tuple" ∧ ot.data = .seq #[v₁, v₂] nt ∧
    ∀ I oI C oC D m₂ h tk (E' : Value → Shared → Prop), NsObj oC m₂ → m₂ x = some v₁ → m₂ x₂ = some v₂ → Fr h₀ L h m → News h₀ L h ((I, oI) :: (C, oC) :: (D, lst ys) :: news) → Off3 I C D news → ((@Ne Nat I C) ∧ (@Ne Nat I D) ∧ (@Ne Nat C D)) →
      wpAny (model prog w) A (isTrue ct (compEnvC scope cl C env) (eval ct (compEnvC scope cl C env))) (fun ok s' => if ok = true then
        wpAny (model prog w) A (eval elt (compEnvC scope cl C env)) (CompEnd h₀ L m { s with heap := h, toks := tk } I oI C oC D (lst ys) (fun _ => True) (fun y news' => news' = news ∧ G (i + 1) (ys ++ [y]))) E' s'
        else CompEnd h₀ L m { s with heap := h, toks := tk } I oI C oC D (lst ys) (fun _ => True) (fun _ news' => news' = news ∧ G (i + 1) ys) Value.none s') E' { s with heap := h, toks := tk }
theorem block_PT {ct elt iter : Expr} {x x₂ : PySem.Str} {px px₂ tp : Pos} {kk : Nat} {scope : Scope} {cl : List (PySem.Str × Addr)} {pos : Pos} {s₂ : Shared} {I ax : Addr} {its : Array Value} {ka : Nat} {news : List (Addr × Obj)} {G : Nat → List Value → Prop} {RR : Value → Addr → Result → Shared → Prop}
    (hh : A.handled = none) (hne : ax ≠ I) (hsz : its.size ≤ sizeLine) (hit : s₂.heap.IsListIter I ax 0) (hm : (ax, ({ cls := .type "list", data := .seq its ka } : Obj)) ∈ news)
    (hcell : ∀ y ∈ scope.names, y.2 ≠ .cell) (hkind : scope.kind = .function) (hx : scope.names.lookup x = some .local) (hx₂ : scope.names.lookup x₂ = some .local) (hxx : ¬ x = x₂)
    (F : Fr h₀ L s₂.heap m) (N : News h₀ L s₂.heap news) (hIL : L ≠ I) (hI₀ : h₀.get? I = none) (off : ∀ p ∈ news, p.1 ≠ I)
    (h0 : G 0 []) (hlen : ∀ i ys, G i ys → ys.length ≤ i) (step : ∀ i ys v, G i ys → its[i]? = some v → TurnPT prog w A h₀ L m env ct elt x x₂ scope cl s₂ news G i ys v)
    (hRR : ∀ D C h tk m' ys, Fr h₀ L h m → News h₀ L h ((D, lst ys) :: news) → Off1 D news → h.Ns C m' → h₀.get? C = none → h₀.get? D = none → C ≠ L → D ≠ L → C ≠ D → (∀ p ∈ news, p.1 ≠ C) → G its.size ys → RR (.ref D) C (.ok .next) { s₂ with heap := h, toks := tk }) :
    wpAny (model prog w) A (newList []) (fun acc s₃ => wpAny (model prog w) A (newFunctionEnv scope env.globals cl [] env.qual none .none (some env)) (fun cenv s₄ =>
      codeAny (model prog w) A (.compStart (.ListComp elt [⟨.Tuple [.Name x px, .Name x₂ px₂] kk tp, iter, [ct], 0⟩] scope pos) 0 (.ref I) acc { cenv with scope := relabel scope env }) (RR acc cenv.locals) s₄) E s₃) E s₂ := by
  have W : Walks prog w A I [I, ax] [I] its.size (fun i v => its[i]? = some v) (fun i h => h.IsListIter I ax i ∧ h.IsList ax its) := Walks.list hh I ax hne its
  refine wpAny_newObj_type (wpAny_newFunctionEnv hcell (by intro y hy; simp at hy) (fun h₁ hns₁ hsb₁ => ?_) hkind)
  dsimp only at hns₁ hsb₁ ⊢
  generalize hH2 : s₂.heap.push { cls := .type "list", dict := none, data := .seq ([] : List Value).toArray } = H2 at hns₁ hsb₁ ⊢
  have hC : H2.objs.size = s₂.heap.objs.size + 1 := by rw [← hH2, Heap.size_push]
  have hDC : s₂.heap.objs.size ≠ H2.objs.size := by rw [hC]; exact Nat.ne_of_lt (Nat.lt_succ_self _)
  have below : ∀ b, b < s₂.heap.objs.size → b ≠ H2.objs.size ∧ b ≠ s₂.heap.objs.size := fun b hb => ⟨by rw [hC]; exact Nat.ne_of_lt (Nat.lt_succ_of_lt hb), Nat.ne_of_lt hb⟩
  have hIlt : I < s₂.heap.objs.size := by obtain ⟨_, e, _⟩ := hit; exact Heap.lt_size e
  have hal : s₂.heap.IsList ax its := ⟨_, (N _ hm).1, rfl, _, rfl⟩
  have hax : ax < s₂.heap.objs.size := Heap.lt_size (N _ hm).1
  have old : ∀ b o, s₂.heap.get? b = some o → h₁.get? b = some o := fun b o e => hsb₁.extBut b o (below b (Heap.lt_size e)).1 (Heap.get?_push_of_some _ (hH2 ▸ Heap.get?_push_of_some _ e))
  have hacc : h₁.get? s₂.heap.objs.size = some (lst []) := hsb₁.extBut _ _ hDC (Heap.get?_push_of_some _ (hH2 ▸ Heap.get?_push_size _ rfl))
  have hst₁ : h₁.IsListIter I ax 0 ∧ h₁.IsList ax its := W.frame 0 s₂.heap h₁ ⟨hit, hal⟩ fun b _ o e => old b o e
  have fresh : ∀ a, s₂.heap.objs.size ≤ a → s₂.heap.get? a = none := fun a ha => by
    cases e : s₂.heap.get? a with
    | none => rfl
    | some o' => exact absurd (Heap.lt_size e) (Nat.not_lt.mpr ha)
  have fresh₀ : ∀ a, s₂.heap.objs.size ≤ a → h₀.get? a = none := fun a ha => by
    cases e : h₀.get? a with
    | none => rfl
    | some o' => have := F.keep a o' e; rw [fresh a ha] at this; cases this
  have hD₀ : h₀.get? s₂.heap.objs.size = none := fresh₀ _ (Nat.le_refl _)
  have hC₀ : h₀.get? H2.objs.size = none := fresh₀ _ (by rw [hC]; exact Nat.le_succ _)
  have hLlt : L < s₂.heap.objs.size := F.ns.lt
  have hDL : s₂.heap.objs.size ≠ L := Ne.symm (below L hLlt).2
  have hCL : H2.objs.size ≠ L := Ne.symm (below L hLlt).1
  have hCI : I ≠ H2.objs.size := (below I hIlt).1
  have hDI : I ≠ s₂.heap.objs.size := (below I hIlt).2
  have off' : Off3 I H2.objs.size s₂.heap.objs.size news := Off3.of fun p hp => ⟨off p hp, (below _ (Heap.lt_size (N p hp).1)).1, (below _ (Heap.lt_size (N p hp).1)).2⟩
  have off3 := off'.mem
  have axne : ax ≠ H2.objs.size ∧ ax ≠ s₂.heap.objs.size := below ax hax
  have loop : ∀ s₃ : Shared, s₃ = { s₂ with heap := h₁, toks := s₂.toks + ([] : List (PySem.Str × Value)).length } →
      codeAny (model prog w) A (.compLoop (.ListComp elt [⟨.Tuple [.Name x px, .Name x₂ px₂] kk tp, iter, [ct], 0⟩] scope pos) 0 (.ref I) (.ref s₂.heap.objs.size) (compEnvC scope cl H2.objs.size env))
        (RR (.ref s₂.heap.objs.size) H2.objs.size) s₃ := by
    rintro s₃ rfl
    refine kct_loop
      (fun k s' => ∃ h' tk i ys m', s' = { s₂ with heap := h', toks := tk } ∧ i ≤ its.size ∧ k = its.size + 1 - i ∧ h'.IsListIter I ax i ∧ Fr h₀ L h' m ∧ h'.Ns H2.objs.size m' ∧
        News h₀ L h' ((s₂.heap.objs.size, lst ys) :: news) ∧ G i ys) ?_ (its.size + 1)
      ⟨h₁, _, 0, [], _, rfl, Nat.zero_le _, rfl, hst₁.1, F.keeps old, hns₁, fun p hp => ?_, h0⟩
    · rintro k s' ⟨h', tk, i, ys, m', rfl, hi, rfl, hit', F', hn', N', hG⟩
      have hl' : h'.IsList ax its := ⟨_, (N' _ (List.mem_cons_of_mem _ hm)).1, rfl, _, rfl⟩
      by_cases hlt : i < its.size
      · refine W.item i _ _ _ hlt ⟨hit', hl'⟩ fun v h₂ tk₂ hPv hst₂ hk₂ => ?_
        have up₂ : ∀ c o, c ≠ I → h'.get? c = some o → h₂.get? c = some o := fun c o hc e => hk₂ c o (by simpa using hc) e
        have hP := step i ys v hG hPv
        obtain ⟨t, ot, v₁, v₂, nt, rfl, hmt, hct, hdt, R⟩ := hP
        have hT : h₂.IsTuple t #[v₁, v₂] := ⟨ot, up₂ _ _ (off3 _ hmt).1 (N' _ (List.mem_cons_of_mem _ hmt)).1, hct, nt, hdt⟩
        refine wpAny_letOwnedTupleGo_listiter hst₂.1 ?_
        refine kcp_assign (env := compEnvC scope cl H2.objs.size env) hh hT (lookup_relabel_local hx) (lookup_relabel_local hx₂) (by simp [compEnvC, relabel, hkind]) (hn'.at' fun o e => up₂ _ o (Ne.symm hCI) e) fun h₄ tk₄ hn₄ hs₄ => ?_
        have up : ∀ c o, c ≠ I → c ≠ H2.objs.size → h'.get? c = some o → h₄.get? c = some o := fun c o h1 h2 e => hs₄ c o h2 (up₂ c o h1 e)
        have hI₄ : h₄.IsListIter I ax (i + 1) := by
          obtain ⟨o, e, r⟩ := hst₂.1
          exact ⟨o, hs₄ _ _ hCI e, r⟩
        obtain ⟨oI, heI, hoI⟩ : ∃ oI : Obj, h₄.get? I = some oI ∧ ∀ h : Heap, h.get? I = some oI → h.IsListIter I ax (i + 1) := by
          obtain ⟨o, e, r⟩ := hI₄
          exact ⟨o, e, fun h eh => ⟨o, eh, r⟩⟩
        obtain ⟨oC, heC, hoC⟩ := ns_obj hn₄
        have F₄ : Fr h₀ L h₄ m := ⟨F'.ns.at' fun o e => up _ o hIL (Ne.symm hCL) e, fun c o e => up c o (fun q => by rw [q, hI₀] at e; cases e) (fun q => by rw [q, hC₀] at e; cases e) (F'.keep c o e), F'.above⟩
        have N₄ : News h₀ L h₄ ((I, oI) :: (H2.objs.size, oC) :: (s₂.heap.objs.size, lst ys) :: news) := fun q hq => by
          rcases List.mem_cons.mp hq with rfl | hq
          · exact ⟨heI, Ne.symm hIL, hI₀⟩
          · rcases List.mem_cons.mp hq with rfl | hq
            · exact ⟨heC, hCL, hC₀⟩
            · have z := N' q hq
              refine ⟨up _ _ ?_ ?_ z.1, z.2⟩
              · rcases List.mem_cons.mp hq with rfl | hq
                · exact Ne.symm hDI
                · exact (off3 q hq).1
              · rcases List.mem_cons.mp hq with rfl | hq
                · exact hDC
                · exact (off3 q hq).2.1
        have fin : ∀ (ys' : List Value) (h₅ : Heap) (tk₅ : Nat), Fr h₀ L h₅ m → News h₀ L h₅ ((I, oI) :: (H2.objs.size, oC) :: (s₂.heap.objs.size, lst ys') :: news) → G (i + 1) ys' →
            ∃ q', q' < its.size + 1 - i ∧ (∃ h' tk i ys m', ({ s₂ with heap := h₅, toks := tk₅ } : Shared) = { s₂ with heap := h', toks := tk } ∧ i ≤ its.size ∧ q' = its.size + 1 - i ∧ h'.IsListIter I ax i ∧ Fr h₀ L h' m ∧ h'.Ns H2.objs.size m' ∧
              News h₀ L h' ((s₂.heap.objs.size, lst ys) :: news) ∧ G i ys) := by
          intro ys' h₅ tk₅ F₅ N₅ hG'
          have zI := (N₅ (I, oI) List.mem_cons_self).1
          have zC := (N₅ (H2.objs.size, oC) (List.mem_cons_of_mem _ List.mem_cons_self)).1
          exact ⟨its.size + 1 - (i + 1), by omega, h₅, tk₅, i + 1, ys', _, rfl, hlt, rfl, hoI h₅ zI, F₅, hoC.ns zC, fun q hq => N₅ q (List.mem_cons_of_mem _ (List.mem_cons_of_mem _ hq)), hG'⟩
        refine wpAny_mono (R I oI H2.objs.size oC s₂.heap.objs.size _ h₄ _ _ hoC (by simp [hxx]) (by simp) F₄ N₄ off' ⟨hCI, hDI, Ne.symm hDC⟩) (fun okb s₅ h₅ => ?_) fun _ _ e => e
        cases okb with
        | false =>
          simp only [Bool.false_eq_true, if_false] at h₅ ⊢
          obtain ⟨h₅, tk₅, news₅, rfl, F₅, N₅, off₅, _, rfl, R₅⟩ := h₅
          exact fin ys h₅ tk₅ F₅ N₅ R₅
        | true =>
          simp only [if_true] at h₅ ⊢
          refine wpAny_mono h₅ (fun y s₆ h₆ => ?_) fun _ _ e => e
          obtain ⟨h₇, tk₇, news₅, rfl, F₅, N₅, off₅, _, rfl, R₅⟩ := h₆
          have zI := (N₅ (I, oI) List.mem_cons_self).1
          have zC := (N₅ (H2.objs.size, oC) (List.mem_cons_of_mem _ List.mem_cons_self)).1
          have zD := (N₅ (s₂.heap.objs.size, lst ys) (List.mem_cons_of_mem _ (List.mem_cons_of_mem _ List.mem_cons_self))).1
          have N₅' : News h₀ L h₇ news₅ := fun q hq => N₅ q (List.mem_cons_of_mem _ (List.mem_cons_of_mem _ (List.mem_cons_of_mem _ hq)))
          refine append_at (hsz := by show ys.toArray.size ≤ sizeLine; rw [List.size_toArray]; exact Nat.le_trans (hlen i ys hG) (Nat.le_trans hi hsz)) zD fun h₆ hs₆ hD₆ => ?_
          refine fin (ys ++ [y]) h₆ _ (F₅.change hs₆ hDL hD₀) (fun q hq => ?_) R₅
          rcases List.mem_cons.mp hq with rfl | hq
          · exact ⟨hs₆.extBut I oI hDI zI, Ne.symm hIL, hI₀⟩
          rcases List.mem_cons.mp hq with rfl | hq
          · exact ⟨hs₆.extBut _ oC (Ne.symm hDC) zC, hCL, hC₀⟩
          rcases List.mem_cons.mp hq with rfl | hq
          · exact ⟨hD₆.trans (congrArg some (lst_snoc ys y)), hDL, hD₀⟩
          · exact ⟨hs₆.extBut _ _ (off3 q hq).2.2 (N₅' q hq).1, (N₅' q hq).2⟩
      · have hin : i = its.size := Nat.le_antisymm hi (Nat.not_lt.mp hlt)
        subst hin
        refine W.done _ _ _ ⟨hit', hl'⟩ fun h₂ tk₂ hk₂ => ?_
        exact hRR _ _ h₂ tk₂ _ ys (fr_but F' hk₂ hIL hI₀) (news_but N' hk₂ fun p hp => by
          rcases List.mem_cons.mp hp with rfl | hp
          · exact Ne.symm hDI
          · exact (off3 p hp).1) off'.one (hn'.at' fun o e => hk₂ _ o (by simpa using Ne.symm hCI) e) hC₀ hD₀ hCL hDL (Ne.symm hDC) (fun p hp => (off3 p hp).2.1) hG
    · rcases List.mem_cons.mp hp with rfl | hp
      · exact ⟨hacc, hDL, hD₀⟩
      · exact ⟨old _ _ (N p hp).1, (N p hp).2⟩
  exact codeAny_compStart_list (loop _ rfl) (W.self 0 _ _ _ hst₁ (loop _ rfl))
noncomputable def SrcPT (prog : Program) (w : World) (A : Around) (h₀ : Heap) (L : Addr) (m : PySem.Str → Option Value) (env : Env) (ct elt : Expr) (x x₂ : PySem.Str) (scope : Scope) (cl : List (PySem.Str × Addr)) (Fin : Shared → List Value → List (Addr × Obj) → Prop) (xv : Value) (s₁ : Shared) : Prop :=
  ∃ (ax : Addr) (its : Array Value) (ka : Nat) (news : List (Addr × Obj)) (G : Nat → List Value → Prop), xv = .ref ax ∧ A.handled = none ∧ Fr h₀ L s₁.heap m ∧ News h₀ L s₁.heap news ∧ (ax, ({ cls := .type "list", data := .seq its ka } : Obj)) ∈ news ∧ its.size ≤ sizeLine ∧ G 0 [] ∧ (∀ i ys, G i ys → ys.length ≤ i) ∧
    ∀ g : Heap, (∀ i ys v, G i ys → its[i]? = some v → TurnPT prog w A h₀ L m env ct elt x x₂ scope cl { s₁ with heap := g } news G i ys v) ∧ ∀ ys, G its.size ys → Fin { s₁ with heap := g } ys news
theorem ListComp_PT {ct elt iter : Expr} {x x₂ : PySem.Str} {px px₂ tp : Pos} {kk : Nat} {scope : Scope} {cl : List (PySem.Str × Addr)} {pos : Pos} {Q : Value → Shared → Prop} (_F₀ : Fr h₀ L s.heap m)
    (hclos : closureFor scope env = pure cl) (hcell : ∀ y ∈ scope.names, y.2 ≠ .cell) (hkind : scope.kind = .function)
    (hnames : ∀ y ∈ scope.names, y.2 = .local → scope.names.lookup y.1 = some .local) (hx : scope.names.lookup x = some .local) (hx₂ : scope.names.lookup x₂ = some .local) (hxx : ¬ x = x₂)
    (h : wpAny (model prog w) A (eval iter env) (SrcPT prog w A h₀ L m env ct elt x x₂ scope cl (fun s₂ => FinE h₀ L m s₂ Q)) E s)
    (hs : ∀ x, foldedSetIterable iter env x = pure x := by intro _; rfl) :
    wpAny (model prog w) A (eval (.ListComp elt [⟨.Tuple [.Name x px, .Name x₂ px₂] kk tp, iter, [ct], 0⟩] scope pos) env) Q E s := by
  rw [eval_ListComp]
  refine wpAny_comprehension_free (use := none) rfl hs hclos hkind hnames (wpAny_mono h (fun xv s₁ h₁ => ?_) fun _ _ e => e)
  obtain ⟨ax, its, ka, news, G, rfl, hh, F, N, hm, hsz, h0, hlen, R⟩ := h₁
  have hl : s₁.heap.IsList ax its := ⟨_, (N _ hm).1, rfl, _, rfl⟩
  have hlt : ax < s₁.heap.objs.size := Heap.lt_size (N _ hm).1
  refine wpAny_pyIter_list hl ?_
  have up : ∀ b o, s₁.heap.get? b = some o → (s₁.heap.push { cls := .type "list_iterator", data := .fields #[.ref ax, .int 0 0] }).get? b = some o := fun b o e => Heap.get?_push_of_some _ e
  refine block_PT hh (Nat.ne_of_lt hlt) hsz ⟨_, Heap.get?_push_size _ rfl, rfl, rfl⟩ hm hcell hkind hx hx₂ hxx (F.keeps up) (N.grown up) (Nat.ne_of_lt F.ns.lt) (next_is_new F) (fun p hp => Nat.ne_of_lt (Heap.lt_size (N p hp).1)) h0 hlen (R _).1 ?_
  intro D C h' tk m' ys F' N' o1 hn hC₀ hD₀ hCL hDL hCD offC fin
  refine ⟨m', hn, fun h'' hs'' => (R s₁.heap).2 ys fin D h'' tk (F'.change hs'' hCL hC₀) (fun p hp => ?_) o1⟩
  refine ⟨hs''.extBut _ _ ?_ (N' p hp).1, (N' p hp).2⟩
  rcases List.mem_cons.mp hp with rfl | hp
  · exact Ne.symm hCD
  · exact offC p hp
theorem Assign_PT {ct elt iter : Expr} {x x₂ y : PySem.Str} {px px₂ tp py : Pos} {kk : Nat} {scope : Scope} {cl : List (PySem.Str × Addr)} {pos spos : Pos} {Q : Flow → Shared → Prop} (_F₀ : Fr h₀ L s.heap m) (hLe : env.locals = L)
    (hsw : swapsWith (.ListComp elt [⟨.Tuple [.Name x px, .Name x₂ px₂] kk tp, iter, [ct], 0⟩] scope pos) (some (.Name y py)) spos.line env = pure true)
    (hclos : closureFor scope env = pure cl) (hcell : ∀ z ∈ scope.names, z.2 ≠ .cell) (hkind : scope.kind = .function)
    (hnames : ∀ z ∈ scope.names, z.2 = .local → scope.names.lookup z.1 = some .local) (hx : scope.names.lookup x = some .local) (hx₂ : scope.names.lookup x₂ = some .local) (hxx : ¬ x = x₂)
    (hy : env.kindOf y = some .local) (hp : (env.scope.kind == .class || (env.scope.kind == .module && env.locals != env.globals)) = false)
    (h : wpAny (model prog w) A (eval iter env) (SrcPT prog w A h₀ L m env ct elt x x₂ scope cl (fun s₂ => FinA h₀ L m s₂ y Q)) E s)
    (hs : ∀ x, foldedSetIterable iter env x = pure x := by intro _; rfl) :
    wpAny (model prog w) A (exec (.Assign [.Name y py] (.ListComp elt [⟨.Tuple [.Name x px, .Name x₂ px₂] kk tp, iter, [ct], 0⟩] scope pos) spos) env) Q E s := by
  subst hLe
  rw [exec_Assign_Name_used _ _ _ _ hsw]
  refine wpAny_bind (wpAny_standAt (wpAny_bind ?_))
  show wpAny _ A (do let _ ← comprehension (.ListComp elt [⟨.Tuple [.Name x px, .Name x₂ px₂] kk tp, iter, [ct], 0⟩] scope pos) scope env _ (newList []) false (eval iter env) (some (assign (.Name y py) env))) _ _ s
  refine wpAny_bind (wpAny_mono (wpAny_comprehension_free (use := some (assign (.Name y py) env)) (Q := fun _ s' => Q .next s') rfl hs hclos hkind hnames
    (wpAny_mono h (fun xv s₁ h₁ => ?_) fun _ _ e => e)) (fun _ s' hq => wpAny_pure (wpAny_pure hq)) fun _ _ e => e)
  obtain ⟨ax, its, ka, news, G, rfl, hh, F, N, hm, hsz, h0, hlen, R⟩ := h₁
  have hl : s₁.heap.IsList ax its := ⟨_, (N _ hm).1, rfl, _, rfl⟩
  have hlt : ax < s₁.heap.objs.size := Heap.lt_size (N _ hm).1
  refine wpAny_pyIter_list hl ?_
  have up : ∀ b o, s₁.heap.get? b = some o → (s₁.heap.push { cls := .type "list_iterator", data := .fields #[.ref ax, .int 0 0] }).get? b = some o := fun b o e => Heap.get?_push_of_some _ e
  refine block_PT hh (Nat.ne_of_lt hlt) hsz ⟨_, Heap.get?_push_size _ rfl, rfl, rfl⟩ hm hcell hkind hx hx₂ hxx (F.keeps up) (N.grown up) (Nat.ne_of_lt F.ns.lt) (next_is_new F) (fun p hp => Nat.ne_of_lt (Heap.lt_size (N p hp).1)) h0 hlen (R _).1 ?_
  intro D C h' tk m' ys F' N' o1 hn hC₀ hD₀ hCL hDL hCD offC fin
  show wpAny _ A (assign (.Name y py) env (.ref D)) _ _ _
  refine wpAny_assign_Name (wpAny_storeName_local hy F'.ns (fun h₂ hn₂ hs₂ => ?_) hp)
  have hL₀ : h₀.get? env.locals = none := Heap.get?_none_of_le F'.above
  have F₂ : Fr h₀ env.locals h₂ (fun z => if z = y then some (.ref D) else m z) := ⟨hn₂, fun b o e => hs₂.extBut b o (fun q => by rw [q, hL₀] at e; cases e) (F'.keep b o e), F'.above⟩
  refine ⟨m', hn.sameBut hs₂ hCL, fun h'' hs'' => (R s₁.heap).2 ys fin D h'' _ (F₂.change hs'' hCL hC₀) (fun p hp => ?_) o1⟩
  have z : h₂.get? p.1 = some p.2 := hs₂.extBut _ _ (N' p hp).2.1 (N' p hp).1
  refine ⟨hs''.extBut _ _ ?_ z, (N' p hp).2⟩
  rcases List.mem_cons.mp hp with rfl | hp
  · exact Ne.symm hCD
  · exact offC p hp
/-- a for over a text's signs, whatever the target's name is -/
theorem iter_strTurns {nm : PySem.Str} {pos : Pos} {body : List Stmt} {Q : Flow → Shared → Prop} {tx : PySem.Str} {t : Tok} {m₀ : PySem.Str → Option Value} {news : List (Addr × Obj)}
    (hh : A.handled = none) (F : Fr h₀ env.locals s.heap m₀) (N : News h₀ env.locals s.heap news)
    (rest₀ : ∀ (I : Addr) (T : String), T = "str_iterator" ∨ T = "str_ascii_iterator" → (∀ p ∈ news, p.1 < I) → ItemsRest prog w A E h₀ env (.Name nm pos) body Q s [(I, T)] [] (tx.cps.toList.map fun c => .tok fun t => .str ⟨#[c]⟩ t) m₀ news) :
    wpAny (model prog w) A (pyIter (.str tx t)) (fun it s₂ => TurnsAt prog w A h₀ env (.Name nm pos) body Q E it s₂) E s := by
  have go : ∀ (T : String) (o : Obj), (T = "str_iterator" ∨ T = "str_ascii_iterator") → Walks prog w A s.heap.objs.size [s.heap.objs.size] [s.heap.objs.size] tx.cps.size (SignAt tx) (fun i h => h.IsStrIter s.heap.objs.size T tx t i) →
      (s.heap.push o).IsStrIter s.heap.objs.size T tx t 0 → TurnsAt prog w A h₀ env (.Name nm pos) body Q E (.ref s.heap.objs.size) { s with heap := s.heap.push o } := by
    intro T o hT W hst
    refine ktu_core (tk0 := s.toks) (keep := []) (KTurns.ofWalks W fun i v s Q E st q => (by unfold letOwnedTupleGo; exact wpAny_pure q)) (xs := tx.cps.toList.map fun c => .tok fun t => .str ⟨#[c]⟩ t) (by simp) (fun i v h hp => ?_) (fun i h st => ?_) (fun b hb => ?_) (fun b hb => by simpa using hb) (fun b hb => ?_) ?_ (fun p hp hI => ?_) hst (F.push _) (fun p hp => ⟨Heap.get?_push_of_some _ (N p hp).1, (N p hp).2⟩) trivial (rest₀ _ T hT fun p hp => Heap.lt_size (N p hp).1)
    · obtain ⟨c, u, hc, rfl⟩ := hp
      refine ⟨.tok fun t => .str ⟨#[c]⟩ t, ?_, ⟨u, rfl⟩⟩
      rw [List.getElem?_map, Array.getElem?_toList, hc]; rfl
    · obtain ⟨it, hit, hic, hid⟩ := st
      exact ⟨[(s.heap.objs.size, it)], ⟨⟨rfl, hic⟩, trivial⟩, fun p hp => by rw [List.mem_singleton.mp hp]; exact hit⟩
    · have hb' : b = s.heap.objs.size := by simpa using hb
      rw [hb']
      exact ⟨List.mem_cons_self .., next_is_new F⟩
    · exact .inl (by simpa using hb)
    · intro hI
      exact absurd F.ns.lt ((List.mem_singleton.mp hI) ▸ Nat.lt_irrefl _)
    · exact absurd (Heap.lt_size (N p hp).1) ((List.mem_singleton.mp hI) ▸ Nat.lt_irrefl _)
  cases ha : tx.cps.all (· < 128)
  · exact wpAny_pyIter_wide ha (go "str_iterator" _ (.inl rfl) (Walks.strWide hh _ tx t) ⟨_, Heap.get?_push_size _ rfl, rfl, rfl⟩)
  · exact wpAny_pyIter_ascii ha (go "str_ascii_iterator" _ (.inr rfl) (Walks.strAscii hh _ tx t) ⟨_, Heap.get?_push_size _ rfl, rfl, rfl⟩)
end
end Mine
end
/-! # Tget -/
section
theorem Mine.reset_Tget : True := by (w_top off); k_with_none; trivial
open PySem PySem.W PyProof.Rows
set_option Elab.async false
set_option maxRecDepth 100000
set_option maxHeartbeats 400000000
open PyProof.Rows.LCg PyProof.Rows.LCt
namespace Mine

section
variable {prog : Program} {w : World} {A : Around} {h₀ : Heap} {L : Addr} {m : PySem.Str → Option Value} {env : Env}
theorem end_same {h₀ : Heap} {L I C D : Addr} {m : PySem.Str → Option Value} {s₁ : Shared} {oI oC oD : Obj} {S : List (Addr × Obj) → Prop} {rest : Value → List (Addr × Obj) → Prop} {y : Value} {h' : Heap} {tk : Nat} {news' : List (Addr × Obj)}
    (F : Fr h₀ L h' m) (N : News h₀ L h' ((I, oI) :: (C, oC) :: (D, oD) :: news')) (off : Off3 I C D news') (hS : S news') (r : rest y news') : CompEnd h₀ L m s₁ I oI C oC D oD S rest y { s₁ with heap := h', toks := tk } := ⟨h', tk, news', rfl, F, N, off, hS, r⟩
/-- what stands under a name, keys by small letters -/
noncomputable def getsP (κ : PySem.Str) (l : List (PySem.Str × Value)) : List Value := (l.filter fun q => q.1 == κ).map (·.2)
theorem off1_mem {D : Addr} : ∀ {l : List (Addr × Obj)}, Off1 D l → ∀ p ∈ l, @Ne Nat p.1 D
  | [], _, _, h => nomatch h
  | _ :: _, x, p, h => by
    rcases List.mem_cons.mp h with rfl | h
    · exact x.1
    · exact off1_mem x.2 p h
theorem fresh_of {s₀ g h' : Heap} {L' r : Addr} {o : Obj} {led news : List (Addr × Obj)} (G : GSub s₀ g (led.map (·.1))) (N : News g L' h' ((r, o) :: news)) (hs : ∀ q ∈ led, q ∈ news) (o1 : Off1 r news) : s₀.get? r = none := by
  cases e : s₀.get? r with
  | none => rfl
  | some o' =>
    have hr : r ∉ led.map (·.1) := fun hm => by
      obtain ⟨q, hq, rfl⟩ := List.mem_map.mp hm
      exact off1_mem o1 q (hs q hq) rfl
    have := G r o' e hr
    rw [(N _ (List.Mem.head _)).2.2] at this; cases this
theorem getsP_snoc (κ : PySem.Str) (l : List (PySem.Str × Value)) (k : PySem.Str) (v : Value) : getsP κ (l ++ [(k, v)]) = if k == κ then getsP κ l ++ [v] else getsP κ l := by
  unfold getsP
  rw [List.filter_append, List.map_append]
  cases e : k == κ with
  | true => simp [e]
  | false => simp [e]
theorem apart_nc {acc : List (Addr × Obj)} (x : NC acc) (c : Addr) : ApartOr c acc := by
  induction acc with
  | nil => trivial
  | cons p l ih => exact ⟨.inr (x p List.mem_cons_self), ih fun q hq => x q (List.mem_cons_of_mem _ hq)⟩
inductive UpdC (c : Addr) (o : Obj) : List (Addr × Obj) → (Obj → List (Addr × Obj)) → Prop
  | head {r : List (Addr × Obj)} : ApartOr c r → UpdC c o ((c, o) :: r) (fun o' => (c, o') :: r)
  | tail {p : Addr × Obj} {r : List (Addr × Obj)} {g : Obj → List (Addr × Obj)} : (p.1 ≠ c ∨ ∀ v, p.2.data ≠ .cell v) → UpdC c o r g → UpdC c o (p :: r) (fun o' => p :: g o')
theorem nc_seq {o : Obj} {xs : Array Value} {n : Nat} (h : o.data = .seq xs n) : ∀ v, o.data ≠ .cell v := fun v e => by rw [h] at e; cases e
theorem nc_fields {o : Obj} {xs : Array Value} (h : o.data = .fields xs) : ∀ v, o.data ≠ .cell v := fun v e => by rw [h] at e; cases e
theorem UpdC.split {c : Addr} {o : Obj} {news : List (Addr × Obj)} {g : Obj → List (Addr × Obj)} (h : UpdC c o news g) : ∃ own rest, news = own ++ (c, o) :: rest ∧ (∀ o', g o' = own ++ (c, o') :: rest) ∧ ApartOr c own ∧ ApartOr c rest := by
  induction h with
  | head a => exact ⟨[], _, rfl, fun _ => rfl, trivial, a⟩
  | tail a _ ih => obtain ⟨own, rest, rfl, hg, h1, h2⟩ := ih; exact ⟨_ :: own, rest, rfl, fun o' => by simp [hg], ⟨a, h1⟩, h2⟩
theorem st_cellC {M : Model} {A : Around} {E : Value → Shared → Prop} {s : Shared} {name : PySem.Str} {scope : Scope} {L a : Addr} {cd : Value} {h₀ : Heap} {m : PySem.Str → Option Value} {x : PySem.Str} {c : Addr} {o : Obj} {v₀ : Option Value} {v : Value} {news : List (Addr × Obj)} {g : Obj → List (Addr × Obj)} {Q : Unit → Shared → Prop} (F : Fr h₀ L s.heap m) (N : News h₀ L s.heap news)
    (hc : (cellsFrom (L + 1) scope.names []).lookup x = some c) (U : UpdC c o news g) (hd : o.data = .cell v₀)
    (h : ∀ h' o', Fr h₀ L h' m → News h₀ L h' (g o') → o'.data = .cell (some v) → Q () { s with heap := h' })
    (hk : scope.kind = .function) (hl : (envOfC name scope L a cd).kindOf x = some .cell) :
    wpAny M A (storeName (envOfC name scope L a cd) x v) Q E s := by
  obtain ⟨own, rest, rfl, hg, h1, h2⟩ := U.split
  exact stCNk F N hc hd h1 h2 (fun h' o' F' N' d' => h h' o' F' (hg o' ▸ N') d') hk hl

theorem nc_page {w : World} {l x d : Addr} {hh : Tok} {ys : List Value} {acc : List (Addr × Obj)} (h : NC acc) : NC ((l, lst ys) :: (x, instObj 295 d) :: (d, PgD w l hh) :: acc) :=
  cons_all (fun v e => nomatch e) (cons_all (fun v e => nomatch e) (cons_all (fun v e => nomatch e) h))
theorem mem_drop {α : Type} {x : α} {l : List α} (n : Nat) (h : x ∈ l.drop n) : x ∈ l := List.mem_of_mem_drop h
/-- a page's headers, keys by small letters -/
noncomputable abbrev HdV (qs : List Hd) : List (PySem.Str × Value) := qs.map fun q => (Txt.lower q.2.1, .str q.2.2 q.1.2.2)
theorem gets_in {κ : PySem.Str} {qs : List Hd} {i : Nat} {q : Hd} {ys : List Value} (h : ys = getsP κ ((HdV qs).take i)) (hq : qs[i]? = some q) (e : (Txt.lower q.2.1 == κ) = true) : ys ++ [.str q.2.2 q.1.2.2] = getsP κ ((HdV qs).take (i + 1)) := by
  have h2 : (HdV qs)[i]? = some (Txt.lower q.2.1, .str q.2.2 q.1.2.2) := by rw [List.getElem?_map, hq]; rfl
  rw [List.take_add_one, h2, h]
  exact ((getsP_snoc _ _ _ _).trans (if_pos e)).symm
theorem gets_out {κ : PySem.Str} {qs : List Hd} {i : Nat} {q : Hd} {ys : List Value} (h : ys = getsP κ ((HdV qs).take i)) (hq : qs[i]? = some q) (e : (Txt.lower q.2.1 == κ) = false) : ys = getsP κ ((HdV qs).take (i + 1)) := by
  have h2 : (HdV qs)[i]? = some (Txt.lower q.2.1, .str q.2.2 q.1.2.2) := by rw [List.getElem?_map, hq]; rfl
  rw [List.take_add_one, h2, h]
  exact ((getsP_snoc _ _ _ _).trans (if_neg (by rw [e]; exact Bool.false_ne_true))).symm
theorem hd_at {qs : List Hd} {i : Nat} {v : Value} (h : (HdL qs).toArray[i]? = some v) : ∃ q, qs[i]? = some q ∧ v = .ref q.1.1 := by
  rw [List.getElem?_toArray, List.getElem?_map] at h
  obtain ⟨q, hq, e⟩ := Option.map_eq_some_iff.mp h
  exact ⟨q, hq, e.symm⟩
end
section
theorem t_get (w : World) {p : Program} {loose : List PySem.Str} {mean : ExcName → Option Value} {mg mb : PySem.Str → Option Value} (l x d : Addr) (hh : Tok) (qs : List Hd) (acc : List (Addr × Obj)) (hin : HdIn qs acc) (hc : NC acc) (hn : qs.length ≤ 8) (hkl : ∀ q ∈ qs, q.2.1.length = 1) (tk : Tok) (κ : PySem.Str) (hκ : κ.length = 1) (hk : clean (cdN w.params) (Txt.lower κ).cps = true) (hk3 : (Txt.lower κ).cps.size < 3) :
    Cm w p loose mean mg mb PySem.Challenge.rw_to0087_01 234 12 [.ref x, .str κ tk] ((l, lst (HdL qs)) :: (x, instObj 295 d) :: (d, PgD w l hh) :: acc) (fun h rv h' => (∀ q ∈ (l, lst (HdL qs)) :: (x, instObj 295 d) :: (d, PgD w l hh) :: acc, h'.get? q.1 = some q.2) ∧ ∃ r, rv = .ref r ∧ NewL h h' [(r, lst (getsP (Txt.lower κ) (HdV qs)))]) := by
  k_with_none
  k_with "k_room" => ktr_room
  k_with "eval ListComp" => (k_here; k_dflt (refine LCt.ListComp_T (F₀ := by k_asm) (by with_unfolding_all rfl) (by decide) (by rfl) (by decide) (by rfl) ?_))
  k_with "getMethod ref" => (k_here; k_dflt (first | refine getMethod_161 (by assumption) (by exact Fr.keep (by assumption)) ?_ | refine getMethod_166 (by assumption) (by exact Fr.keep (by assumption)) ?_))
  k_with "call builtin:re.Pattern.search" => (k_here; k_dflt (first | refine search_161 (by assumption) (by exact Fr.keep (by assumption)) (by assumption) (by omega) ?_ | refine search_166 (by assumption) (by exact Fr.keep (by assumption)) (by assumption) (by omega) ?_))
  k_with "storeName" => (k_here; k_dflt (refine' st_cellC ?zF ?zN ?zc (UpdC.head (apart_nc (nc_page hc) _)) ?zd ?_ ?za ?zb; (case za => rfl); (case zb => rfl); (case zF => k_asm); (case zN => k_asm); (case zc => rfl); (case zd => k_asm)); intro h'_z o'_z F'_z N'_z d'_z; (try dsimp only at N'_z))
  k_with "CompSrcT" => (k_here; refine halt ?_)
  k_dflt (refine' Cm.enterC1 (binds := [(PySem.Str.ofString "self", .ref x), (PySem.Str.ofString "name", .str κ tk)]) (m₀ := fun y => if y = PySem.Str.ofString "self" then some (.ref x) else none) (v1 := some (.str κ tk)) ?ho ?hcd ?hr ?hb ?hkd ?hnd ?c2 ?c3 ?c4 ?hcf ?hm ?hcm ?h)
  all_goals (try k_fill)
  case ho => k_is
  case hcd => k_is
  case hr => decide
  case hb => exact fun s => BindsTo.of_eq rfl
  case hkd => exact rfl
  case hnd => decide +kernel
  case c2 => exact rfl
  case c3 => exact rfl
  case c4 => exact rfl
  case hcf => exact fun _ => rfl
  case hm => exact fun _ => rfl
  case hcm => exact fun _ => rfl
  case h =>
  intro dp un gd outer A₀ base g' sh h₁ L' tk9 gs dr os R o1 hdp hun l1 G' B' X' T' hback d1 F' N'
  w_strict k_steps
  unfold Halt
  k_dflt (refine LCt.CompSrcT.ledger (by rfl) (by k_asm) (by k_asm) (by k_mem) (by rw [List.size_toArray, List.length_map]; exact Nat.le_trans hn (by decide)) ?_)
  intro g9
  try dsimp only
  refine restT_il (fun i ys => ys = getsP (Txt.lower κ) ((HdV qs).take i)) (Or.inr ⟨_, by k_mem, rfl, _, rfl⟩) rfl ?rf ?rs
  case rs =>
    intro i7 hi7 ys7 hG7 v7 hv7 I7 oI7 C7 oC7 D7 m7 h7 gs7 dr7 tk7 os7 E7 R7 R70 hC7 hx7 F7 N7 off7 ne7 hin7 hout7
    obtain ⟨q7, hq7, rfl⟩ := hd_at hv7
    have hq8 := List.mem_of_getElem? hq7
    have hl7 := hkl q7 hq8
    have N8 := news_dup N7 (mem_drop 7 (hin q7 hq8))
    w_strict k_steps
    · exact hin7 _ _ _ (by k_asm) (news_tl (by k_asm)) (gets_in hG7 hq7 (by assumption))
    · exact hout7 _ _ (by k_asm) (news_tl (by k_asm)) (gets_out hG7 hq7 (by assumption))
  case rf =>
    intro ys7 hG7
    rw [List.size_toArray, List.length_map, ← List.length_map (as := qs) (f := fun q : Hd => (Txt.lower q.2.1, Value.str q.2.2 q.1.2.2)), List.take_length] at hG7
    subst hG7
    unfold LCg.FinE
    intro D7 h7 tk7 F7 N7 o17
    (try dsimp only)
    w_strict k_steps
    exact hback _ _ _ _ _ _ (by k_asm) (by k_asm) ⟨fun q hq => (N7 q (mem_drop 2 hq)).1, _, rfl, fun q hq => by rw [List.mem_singleton.mp hq]; exact ⟨(N7 _ List.mem_cons_self).1, fresh_of G' N7 (fun q hq => .tail _ hq) o17⟩⟩
end
end Mine
end
/-! # IndR -/
section
open PySem PySem.Spec PySem.Calls PySem.W PyProof.Rows PyProof.Rows.LCg PyProof.Rows.LCt
set_option Elab.async false
set_option maxRecDepth 100000
set_option maxHeartbeats 400000000
namespace Mine
/-- the rows that lie in a ledger, told by their places -/
noncomputable def RowsF (M : Nat → List Int) (n : Nat) (ys : List Value) (acc : List (Addr × Obj)) : Prop := ys.length = n ∧ ∀ i, i < n → ∃ a vs, ys[i]? = some (.ref a) ∧ (a, lst vs) ∈ acc ∧ IntsAre vs (M i)
noncomputable def Seqs (acc : List (Addr × Obj)) : Prop := ∀ q ∈ acc, (q.2.cls = .type "list" ∨ q.2.cls = .type "tuple") ∧ ∃ xs n, q.2.data = .seq xs n
theorem rowsG_f {base : List (Addr × Obj)} {M : Nat → List Int} : ∀ {n : Nat} {ys : List Value} {acc : List (Addr × Obj)}, RowsG base M n ys acc → RowsF M n ys acc
  | 0, _, _, ⟨rfl, rfl⟩ => ⟨rfl, fun i h => absurd h (Nat.not_lt_zero i)⟩
  | n + 1, _, _, ⟨ys', acc', D, vs, rfl, rfl, hi, _, g⟩ => by
    obtain ⟨hl, h⟩ := rowsG_f g
    refine ⟨by rw [List.length_append, hl]; rfl, fun i hlt => ?_⟩
    by_cases e : i = n
    · subst e
      exact ⟨D, vs, by rw [List.getElem?_append_right (Nat.le_of_eq hl), hl, Nat.sub_self]; rfl, List.mem_cons_self, hi⟩
    · obtain ⟨a, vs', e1, e2, e3⟩ := h i (by omega)
      exact ⟨a, vs', by rw [List.getElem?_append_left (by omega)]; exact e1, List.mem_cons_of_mem _ e2, e3⟩
theorem rowsG_seq {base : List (Addr × Obj)} {M : Nat → List Int} : ∀ {n : Nat} {ys : List Value} {acc : List (Addr × Obj)}, RowsG base M n ys acc → Seqs acc
  | 0, _, _, ⟨rfl, rfl⟩ => fun _ h => nomatch h
  | _ + 1, _, _, ⟨_, _, _, _, rfl, rfl, _, _, g⟩ => fun q hq => by
    rcases List.mem_cons.mp hq with rfl | hq
    · exact ⟨.inl rfl, _, _, rfl⟩
    · exact rowsG_seq g q hq
theorem rowsG_off {base : List (Addr × Obj)} {M : Nat → List Int} : ∀ {n : Nat} {ys : List Value} {acc : List (Addr × Obj)}, RowsG base M n ys acc → ∀ q ∈ acc, ∀ p ∈ base, p.1 ≠ q.1
  | 0, _, _, ⟨rfl, rfl⟩ => fun _ h => nomatch h
  | _ + 1, _, _, ⟨_, _, _, _, rfl, rfl, _, ho, g⟩ => fun q hq p hp => by
    rcases List.mem_cons.mp hq with rfl | hq
    · exact off1_get (a := p.1) (o := p.2) ho hp
    · exact rowsG_off g q hq p hp
/-- the same, the places and lists told by functions -/
noncomputable def RowsA (M : Nat → List Int) (n : Nat) (a : Nat → Addr) (vs : Nat → List Value) (ys : List Value) (acc : List (Addr × Obj)) : Prop := ys.length = n ∧ ∀ i, i < n → ys[i]? = some (.ref (a i)) ∧ (a i, lst (vs i)) ∈ acc ∧ IntsAre (vs i) (M i)
theorem rowsF_fn {M : Nat → List Int} {n : Nat} {ys : List Value} {acc : List (Addr × Obj)} (h : RowsF M n ys acc) : ∃ a vs, RowsA M n a vs ys acc := by
  have h' : ∀ i, ∃ a vs, i < n → ys[i]? = some (.ref a) ∧ (a, lst vs) ∈ acc ∧ IntsAre vs (M i) := fun i => by
    by_cases hi : i < n
    · obtain ⟨a, vs, x⟩ := h.2 i hi
      exact ⟨a, vs, fun _ => x⟩
    · exact ⟨0, [], fun x => absurd x hi⟩
  exact ⟨fun i => Classical.choose (h' i), fun i => Classical.choose (Classical.choose_spec (h' i)), h.1, fun i hi => Classical.choose_spec (Classical.choose_spec (h' i)) hi⟩
/-- the token of an int in a list -/
noncomputable def tokAt (vs : List Value) (j : Nat) : Tok := match vs[j]? with | some (.int _ t) => t | _ => 0
theorem ints_nth {vs : List Value} {zs : List Int} (h : IntsAre vs zs) : ∀ k, k < zs.length → ∃ t, vs[k]? = some (.int (zs.getD k 0) t) := by
  induction h with
  | nil => intro k hk; cases hk
  | cons y t r ih =>
    intro k hk
    cases k with
    | zero => exact ⟨t, rfl⟩
    | succ k => obtain ⟨t', e⟩ := ih k (Nat.lt_of_succ_lt_succ hk); exact ⟨t', by simpa using e⟩
theorem ints_tok {vs : List Value} {ns : List Int} (h : IntsAre vs ns) {j : Nat} (hj : j < ns.length) {z : Int} (hz : z.toNat = j) : vs[z.toNat]? = some (.int (ns.getD j 0) (tokAt vs j)) := by
  obtain ⟨t, e⟩ := ints_nth h j hj
  rw [hz]
  unfold tokAt
  rw [e]
section
variable {prog : Program} {w : World} {A : Around} {h₀ : Heap} {L : Addr} {m : PySem.Str → Option Value} {env : Env}
theorem rest1_il {elt : Expr} {x : PySem.Str} {scope : Scope} {cl : List (PySem.Str × Addr)} {s : Shared} {P : Nat → Value → Prop} {Fin : List Value → List (Addr × Obj) → Prop} {c : Addr} {n : Nat} {base : List (Addr × Obj)} (M : Nat → List Int)
    (hcb : Off1 c base) (hf : ∀ ys acc oc' a vs, RowsA M n a vs ys acc → Seqs acc → (∀ q ∈ acc, ∀ p ∈ base, p.1 ≠ q.1) → Fin ys ((c, oc') :: (base ++ acc)))
    (step : ∀ i, i < n → ∀ v, P i v → ∀ (ys : List Value) (acc : List (Addr × Obj)) (I : Addr) (oI : Obj) (C : Addr) (oC : Obj) (D : Addr) (oc' : Obj) (h : Heap) (gs : Array GenState) (dr : Drawn) (tk : Nat) (os : OsState) (E' R : Value → Shared → Prop), oc'.data = .cell (some v) →
      (∀ D' vs h' tk', Fr h₀ L h' m → News h₀ L h' ((D', lst vs) :: (I, oI) :: (C, oC) :: (D, lst ys) :: (c, oc') :: (base ++ acc)) → Off1 D' ((I, oI) :: (C, oC) :: (D, lst ys) :: (c, oc') :: (base ++ acc)) → IntsAre vs (M i) → R (.ref D') ⟨h', gs, dr, tk', os⟩) →
      Fr h₀ L h m → News h₀ L h ((I, oI) :: (C, oC) :: (D, lst ys) :: (c, oc') :: (base ++ acc)) →
      wpAny (model prog w) A (eval elt (compEnvC scope ((x, c) :: cl) C env)) R E' ⟨h, gs, dr, tk, os⟩) :
    Rest1 prog w A h₀ L m env elt x scope cl s (fun _ => True) P Fin c n 0 [] ((c, cellObj) :: base) :=
  rest1_rows M hcb (fun ys acc oc' g => let ⟨a, vs, x⟩ := rowsF_fn (rowsG_f g); hf ys acc oc' a vs x (rowsG_seq g) (rowsG_off g)) fun i hi ys acc v I oI C oC D oc' h tk E' hv hc F N =>
    step i hi v hv ys acc I oI C oC D oc' h s.gens s.drawn tk s.os E' _ hc (fun D' vs h' tk' F' N' o hi' => ⟨D', vs, h', tk', rfl, rfl, F', N', o, hi'⟩) F N
theorem rest2_il {elt : Expr} {x x₂ : PySem.Str} {scope : Scope} {cl : List (PySem.Str × Addr)} {s : Shared} {ax : Addr} {its : Array Value} {Fin : List Value → List (Addr × Obj) → Prop} {c c₂ : Addr} {base : List (Addr × Obj)} (M : Nat → List Int) (P : Nat → Value → Value → Prop)
    (hcc : @Ne Nat c c₂) (hcb : Off1 c base) (hcb₂ : Off1 c₂ base) (hS : SrcAt h₀ ax its base) (hf : ∀ ys acc oc' oc₂' a vs, RowsA M its.size a vs ys acc → Seqs acc → (∀ q ∈ acc, ∀ p ∈ base, p.1 ≠ q.1) → Fin ys ((c₂, oc₂') :: (c, oc') :: (base ++ acc)))
    (item : ∀ i v, its[i]? = some v → ∃ (t : Addr) (ot : Obj) (v₁ v₂ : Value) (nt : Nat), v = .ref t ∧ (t, ot) ∈ base ∧ ot.cls = .type "list" ∧ ot.data = .seq #[v₁, v₂] nt ∧ P i v₁ v₂)
    (step : ∀ i, i < its.size → ∀ v₁ v₂, P i v₁ v₂ → ∀ (ys : List Value) (acc : List (Addr × Obj)) (I : Addr) (oI : Obj) (C : Addr) (oC : Obj) (D : Addr) (oc' oc₂' : Obj) (h : Heap) (gs : Array GenState) (dr : Drawn) (tk : Nat) (os : OsState) (E' R : Value → Shared → Prop), oc'.data = .cell (some v₁) → oc₂'.data = .cell (some v₂) →
      (∀ D' vs h' tk', Fr h₀ L h' m → News h₀ L h' ((D', lst vs) :: (I, oI) :: (C, oC) :: (D, lst ys) :: (c₂, oc₂') :: (c, oc') :: (base ++ acc)) → Off1 D' ((I, oI) :: (C, oC) :: (D, lst ys) :: (c₂, oc₂') :: (c, oc') :: (base ++ acc)) → IntsAre vs (M i) → R (.ref D') ⟨h', gs, dr, tk', os⟩) →
      Fr h₀ L h m → News h₀ L h ((I, oI) :: (C, oC) :: (D, lst ys) :: (c₂, oc₂') :: (c, oc') :: (base ++ acc)) →
      wpAny (model prog w) A (eval elt (compEnvC scope ((x₂, c₂) :: (x, c) :: cl) C env)) R E' ⟨h, gs, dr, tk, os⟩) :
    Rest2 prog w A h₀ L m env elt x x₂ scope cl s (SrcAt h₀ ax its) (fun i v => its[i]? = some v) Fin c c₂ its.size 0 [] ((c₂, cellObj) :: (c, cellObj) :: base) :=
  rest2_rows M hcc hcb hcb₂ hS (fun ys acc oc' oc₂' g => let ⟨a, vs, x⟩ := rowsF_fn (rowsG_f g); hf ys acc oc' oc₂' a vs x (rowsG_seq g) (rowsG_off g)) fun i hi v hv => by
    obtain ⟨t, ot, v₁, v₂, nt, e, hm, hct, hdt, hp⟩ := item i v hv
    exact ⟨t, ot, v₁, v₂, nt, e, hm, hct, hdt, fun ys acc I oI C oC D oc' oc₂' h tk E' hc hc₂ F N =>
      step i hi v₁ v₂ hp ys acc I oI C oC D oc' oc₂' h s.gens s.drawn tk s.os E' _ hc hc₂ (fun D' vs h' tk' F' N' o hi' => ⟨D', vs, h', tk', rfl, rfl, F', N', o, hi'⟩) F N⟩
end
end Mine
end
/-! # TwS -/
section
theorem Mine.reset_TwS : True := by (w_top off); k_with_none; trivial
open PySem PySem.W PyProof.Rows PySem.Calls PySem.Spec
set_option Elab.async false
set_option maxRecDepth 100000
set_option maxHeartbeats 400000000
open PyProof.Rows.LCg PyProof.Rows.LCt
namespace Mine
/-! the weights' arithmetic, over any matrix -/
noncomputable def outG (R : Nat → Nat → Int) (k : Nat) : Int := ((List.range k).map (R k)).sum
noncomputable def stepG (R : Nat → Nat → Int) (k i j : Nat) : Int := R i j * outG R k + R i k * R k j
noncomputable def intoG (R : Nat → Nat → Int) (k : Nat) : List Int := (List.range k).map fun i => R i k
noncomputable def struckG : (Nat → Nat → Int) → Nat → List (Int × List Int)
  | _, 0 => []
  | R, q + 1 => (outG R (q + 1), intoG R (q + 1)) :: struckG (stepG R (q + 1)) q
noncomputable def wstep (W : List Int) (p : Int × List Int) : List Int := W.map (· * p.1) ++ [((List.range W.length).map fun i => W.getD i 0 * p.2.getD i 0).sum]
noncomputable def weightsG (R : Nat → Nat → Int) : List Int := (struckG R 3).reverse.foldl wstep [1]
noncomputable def bnd : Nat → Int
  | 3 => 2
  | 2 => 16
  | 1 => 1024
  | _ => 4194304
noncomputable def BOk (q : Nat) (R : Nat → Nat → Int) : Prop := ∀ i j, 0 ≤ R i j ∧ R i j ≤ bnd q
theorem outG_le {R : Nat → Nat → Int} {B : Int} (h : ∀ i j, 0 ≤ R i j ∧ R i j ≤ B) {k : Nat} (hk : k ≤ 3) : 0 ≤ outG R k ∧ outG R k ≤ 3 * B := by
  have a := h k 0; have b := h k 1; have c := h k 2
  obtain rfl | rfl | rfl | rfl : k = 0 ∨ k = 1 ∨ k = 2 ∨ k = 3 := lt4 (Nat.lt_succ_of_le hk)
  · show 0 ≤ (0 : Int) ∧ (0 : Int) ≤ 3 * B
    omega
  · show 0 ≤ R 1 0 + 0 ∧ R 1 0 + 0 ≤ 3 * B
    omega
  · show 0 ≤ R 2 0 + (R 2 1 + 0) ∧ R 2 0 + (R 2 1 + 0) ≤ 3 * B
    omega
  · show 0 ≤ R 3 0 + (R 3 1 + (R 3 2 + 0)) ∧ R 3 0 + (R 3 1 + (R 3 2 + 0)) ≤ 3 * B
    omega
theorem stepG_ok {R : Nat → Nat → Int} {q : Nat} (hq : q < 3) (h : BOk (q + 1) R) : BOk q (stepG R (q + 1)) := by
  intro i j
  have ho := outG_le h (k := q + 1) hq
  have a := h i j; have b := h i (q + 1); have c := h (q + 1) j
  have hB : 0 ≤ bnd (q + 1) := Int.le_trans a.1 a.2
  have e1 : R i j * outG R (q + 1) ≤ bnd (q + 1) * (3 * bnd (q + 1)) := Int.mul_le_mul a.2 ho.2 ho.1 hB
  have e2 : R i (q + 1) * R (q + 1) j ≤ bnd (q + 1) * bnd (q + 1) := Int.mul_le_mul b.2 c.2 c.1 hB
  have e3 : 0 ≤ R i j * outG R (q + 1) := Int.mul_nonneg a.1 ho.1
  have e4 : 0 ≤ R i (q + 1) * R (q + 1) j := Int.mul_nonneg b.1 c.1
  have e5 : bnd (q + 1) * (3 * bnd (q + 1)) + bnd (q + 1) * bnd (q + 1) ≤ bnd q := by
    obtain rfl | rfl | rfl : q = 0 ∨ q = 1 ∨ q = 2 := lt3 hq
    all_goals (unfold bnd; decide)
  unfold stepG
  omega
theorem bnd_bits {x : Int} {q : Nat} (h0 : 0 ≤ x) (h : x ≤ 3 * bnd q) : Builtin.Int.intBits x ≤ 64 := PySem.intBits_le_64 (by omega) (by
  have : bnd q ≤ 4194304 := by
    unfold bnd; split <;> decide
  omega)
theorem out_bits {R : Nat → Nat → Int} {q k : Nat} (h : BOk q R) (hk : k ≤ 3) : Builtin.Int.intBits (outG R k) ≤ 64 := bnd_bits (outG_le h hk).1 (outG_le h hk).2
theorem bits_at {R : Nat → Nat → Int} {q : Nat} (h : BOk q R) (i j : Nat) : Builtin.Int.intBits (R i j) ≤ 64 := bnd_bits (q := q) (h i j).1 (by have := h i j; omega)
/-- the struck places tell numbers of 64 bits -/
noncomputable def StBits (l : List (Int × List Int)) : Prop := ∀ p ∈ l, Builtin.Int.intBits p.1 ≤ 64 ∧ ∀ i, Builtin.Int.intBits (p.2.getD i 0) ≤ 64
theorem struck_bits : ∀ {q : Nat} {R : Nat → Nat → Int}, q ≤ 3 → BOk q R → StBits (struckG R q)
  | 0, _, _, _ => fun _ h => nomatch h
  | q + 1, R, hq, h => fun p hp => by
    rcases List.mem_cons.mp hp with rfl | hp
    · refine ⟨out_bits h hq, fun i => ?_⟩
      show Builtin.Int.intBits ((intoG R (q + 1)).getD i 0) ≤ 64
      unfold intoG
      rw [List.getD_eq_getElem?_getD, List.getElem?_map]
      cases e : (List.range (q + 1))[i]? with
      | none => exact (by decide : Builtin.Int.intBits 0 ≤ 64)
      | some j => exact bits_at h _ _
    · exact struck_bits (Nat.le_of_succ_le hq) (stepG_ok hq h) p hp
theorem fresh_ne {s₀ g : Heap} {as : List Addr} {r : Addr} (G : GSub s₀ g as) (hn : g.get? r = none) (hr : ∀ a ∈ as, @Ne Nat a r) : s₀.get? r = none := by
  cases e : s₀.get? r with
  | none => rfl
  | some o' =>
    have := G r o' e (fun hm => hr r hm rfl)
    rw [hn] at this; cases this
theorem post_of {h h' g : Heap} {L r : Addr} {news : List (Addr × Obj)} {vs : Array Value} {k : Nat} {as : List Addr} {l : List Int} (N : News g L h' news) (G : GSub h g as) (hm : (r, W.listOf vs k) ∈ news) (hr : ∀ a ∈ as, @Ne Nat a r) (hi : IntsAre vs.toList l) :
    ∃ r' vs' k', Value.ref r = .ref r' ∧ NewL h h' [(r', W.listOf vs' k')] ∧ IntsAre vs'.toList l := ⟨r, vs, k, rfl, fun q hq => by
  rw [List.mem_singleton.mp hq]
  exact ⟨N.get hm, fresh_ne G (N _ hm).2.2 hr⟩, hi⟩

theorem sub_led {prog : Program} {w : World} {A : Around} {E : Value → Shared → Prop} {s : Shared} {value slice : Expr} {h₀ : Heap} {L a : Addr} {news : List (Addr × Obj)} {l : List Value} {v : Value} {k : Int} {n : Nat} {u : Tok} {Q : Value → Shared → Prop} (N : News h₀ L s.heap news) (hm : (a, ({ cls := .type "list", data := .seq l.toArray n } : Obj)) ∈ news)
    (hx : l[k.toNat]? = some v) (h0 : 0 ≤ k) (hfit : k < 2 ^ 63) (h : Q v s)
    (hs : subscripted slice false (.ref a) (.int k u) = operate [.ref a, .int k u] (getItem (.ref a) (.int k u))) :
    wpAny (model prog w) A (subscriptTail value slice (.ref a) (.int k u)) Q E s := item_listR ⟨_, (N _ hm).1, rfl, _, rfl⟩ h0 hfit (by simpa using hx) h hs
noncomputable abbrev RdW := Addr × PySem.Str × PySem.Str × Tok × Tok
noncomputable abbrev RoadW (q : RdW) : Obj := W.listOf #[.str q.2.1 q.2.2.2.1, .str q.2.2.1 q.2.2.2.2] 2
/-- a struck place: what goes out and comes in, the tuple, the list -/
noncomputable abbrev Sk := (Int × List Int) × Addr × Addr × Tok × List Value
noncomputable abbrev TupW (q : Sk) : Obj := { cls := .type "tuple", data := .seq #[.int q.1.1 q.2.2.2.1, .ref q.2.2.1] }
noncomputable def StIn (l : List Sk) (acc : List (Addr × Obj)) : Prop := ∀ q ∈ l, (q.2.1, TupW q) ∈ acc ∧ (q.2.2.1, lst q.2.2.2.2) ∈ acc ∧ IntsAre q.2.2.2.2 q.1.2
noncomputable abbrev SkL (l : List Sk) : List Value := l.map fun q => .ref q.2.1
noncomputable abbrev nw := PySem.Str.ofString
noncomputable def MR (R : Nat → Nat → Int) (c i : Nat) : List Int := (List.range c).map (R i)
/-- a countdown to one -/
noncomputable def DownN : List (Nat × Tok) → Prop
  | [] => True
  | x :: r => x.1 = r.length + 1 ∧ DownN r
theorem ints_range {ys : List Value} {j : Nat} {f : Nat → Int} {x : Int} {t : Tok} (h : IntsAre ys ((List.range j).map f)) (e : x = f j) : IntsAre (ys ++ [.int x t]) ((List.range (j + 1)).map f) := by
  subst e
  rw [List.range_succ, List.map_append]
  exact IntsAre.append h (.cons _ _ .nil)
theorem sgn_at {j : Nat} {c : PySem.Str} (hj : j < 4) (h : ([⟨#[97]⟩, ⟨#[98]⟩, ⟨#[99]⟩, ⟨#[100]⟩] : List PySem.Str)[j]? = some c) : c = ⟨#[97 + j]⟩ := by
  obtain rfl | rfl | rfl | rfl : j = 0 ∨ j = 1 ∨ j = 2 ∨ j = 3 := lt4 hj
  all_goals (cases h; rfl)
theorem news_d23 {g h : Heap} {L : Addr} {a b c : Addr × Obj} {l : List (Addr × Obj)} (N : News g L h (a :: b :: c :: l)) : News g L h (a :: l) := fun q hq => by
  rcases List.mem_cons.mp hq with rfl | hq
  · exact N _ List.mem_cons_self
  · exact N q (List.mem_cons_of_mem _ (List.mem_cons_of_mem _ (List.mem_cons_of_mem _ hq)))
theorem seqs_app {a b : List (Addr × Obj)} (x : Seqs a) (y : Seqs b) : Seqs (a ++ b) := fun q hq => (List.mem_append.mp hq).elim (x q) (y q)
theorem apart_seqs {acc : List (Addr × Obj)} (x : Seqs acc) (c : Addr) : ApartOr c acc := by
  induction acc with
  | nil => trivial
  | cons p l ih =>
    refine ⟨.inr fun v e => ?_, ih fun q hq => x q (List.mem_cons_of_mem _ hq)⟩
    obtain ⟨_, xs, n, h⟩ := x p List.mem_cons_self
    rw [h] at e; cases e
theorem map_at {α : Type} {f : α → Value} {rs : List α} {i : Nat} {v : Value} (h : (rs.map f).toArray[i]? = some v) : ∃ q, rs[i]? = some q ∧ v = f q := by
  rw [List.getElem?_toArray, List.getElem?_map] at h
  obtain ⟨q, hq, e⟩ := Option.map_eq_some_iff.mp h
  exact ⟨q, hq, e.symm⟩
/-- what the striking out keeps -/
inductive JW (goal : List (Int × List Int)) (L : Addr) (o4 o5 : Obj) (tup lr : Addr × Obj) (I : Addr) (l : List (Nat × Tok)) : (PySem.Str → Option Value) → List (Addr × Obj) → Prop
  | mk (R : Nat → Nat → Int) (ys : List Value) (aR : Nat → Addr) (vR : Nat → List Value) (DR : Addr) (st : List Sk) (S : Addr) (kS : Nat) (acc : List (Addr × Obj)) (m : PySem.Str → Option Value) (o1 o2 o3 : Obj) (v2 v3 : Option Value) : DownN l → l.length ≤ 3 → BOk l.length R → RowsA (MR R (l.length + 1)) (l.length + 1) aR vR ys acc → StIn st acc → st.map (·.1) ++ struckG R l.length = goal → Seqs acc → tup ∈ acc → lr ∈ acc → (DR, lst ys) ∈ acc → (∀ q ∈ acc, q.1 ≠ S) → L + 1 + 1 + 1 + 1 + 1 < S → L + 1 + 1 + 1 + 1 + 1 < I → m (nw "struck") = some (.ref S) → o1.data = .cell (some (.ref DR)) → o2.data = .cell v2 → o3.data = .cell v3 →
    JW goal L o4 o5 tup lr I l m ((S, W.listOf (SkL st).toArray kS) :: (L + 1 + 1 + 1 + 1 + 1, o5) :: (L + 1 + 1 + 1 + 1, o4) :: (L + 1 + 1 + 1, o3) :: (L + 1 + 1, o2) :: (L + 1, o1) :: acc)
theorem rowsA_ref {M : Nat → List Int} {n : Nat} {a : Nat → Addr} {vs : Nat → List Value} {ys : List Value} {acc : List (Addr × Obj)} (h : RowsA M n a vs ys acc) {i : Nat} (hi : i < n) {z : Int} (hz : z.toNat = i) : ys[z.toNat]? = some (.ref (a i)) := by rw [hz]; exact (h.2 i hi).1
theorem fit63 {k : Nat} (h : k ≤ 3) : (k : Int) < 2 ^ 63 := by omega
theorem news_dup2 {g h : Heap} {L : Addr} {n : List (Addr × Obj)} {p q : Addr × Obj} (N : News g L h n) (hp : p ∈ n) (hq : q ∈ n) : News g L h (q :: p :: n) := fun r hr => by
  rcases List.mem_cons.mp hr with rfl | hr
  · exact N _ hq
  rcases List.mem_cons.mp hr with rfl | hr
  · exact N _ hp
  · exact N r hr
theorem mem_6 {α : Type} {x a b c d e f g : α} {l : List α} (h : x ∈ l) : x ∈ a :: b :: c :: d :: e :: f :: g :: l := List.mem_cons_of_mem _ (List.mem_cons_of_mem _ (List.mem_cons_of_mem _ (List.mem_cons_of_mem _ (List.mem_cons_of_mem _ (List.mem_cons_of_mem _ (List.mem_cons_of_mem _ h))))))
theorem mr_take (R : Nat → Nat → Int) (k i : Nat) : (MR R (k + 1) i).take ((k : Int)).toNat = (List.range k).map (R i) := by
  unfold MR
  rw [Int.toNat_natCast, List.range_succ, List.map_append, List.take_append_of_le_length (by simp), List.take_of_length_le (by simp)]
theorem mr_len (R : Nat → Nat → Int) (k : Nat) : ((List.range k).map (R k)).length = k := by rw [List.length_map, List.length_range]
theorem mr_size {R : Nat → Nat → Int} {c i : Nat} {vs : List Value} (h : IntsAre vs (MR R c i)) (hc : c ≤ 4) : vs.toArray.size ≤ sizeLine := by
  rw [List.size_toArray, h.length]
  unfold MR
  rw [List.length_map, List.length_range]
  exact Nat.le_trans hc (by decide)
theorem lt_of_all {D a : Addr} {o : Obj} {l : List (Addr × Obj)} (h : ∀ p ∈ l, p.1 < D) (m : (a, o) ∈ l) : @LT.lt Nat _ a D := h _ m
theorem cell_s1 {L S : Nat} (h : L + 1 + 1 + 1 + 1 + 1 < S) : L + 1 ≠ S := by omega
theorem cell_s2 {L S : Nat} (h : L + 1 + 1 + 1 + 1 + 1 < S) : L + 1 + 1 ≠ S := by omega
theorem cell_s3 {L S : Nat} (h : L + 1 + 1 + 1 + 1 + 1 < S) : L + 1 + 1 + 1 ≠ S := by omega
theorem cell_s4 {L S : Nat} (h : L + 1 + 1 + 1 + 1 + 1 < S) : L + 1 + 1 + 1 + 1 ≠ S := by omega
theorem ne_it {g h : Heap} {L a b : Addr} {o o' : Obj} {all : List (Addr × Obj)} (N : News g L h all) (ha : (a, o) ∈ all) (hb : (b, o') ∈ all) (hc : o.cls = .type "tuple_iterator") (hc' : o'.cls = .type "list") : @Ne Nat a b := ne_cls N ha hb (by rw [hc, hc']; decide)
theorem rng_small {k : Nat} (h : k ≤ 3) : Builtin.Range.small 0 (k : Int) 1 = true := by
  obtain rfl | rfl | rfl | rfl : k = 0 ∨ k = 1 ∨ k = 2 ∨ k = 3 := lt4 (Nat.lt_succ_of_le h)
  all_goals decide
theorem rng_size {k : Nat} (h : k ≤ 3) : Builtin.Range.rangeSize 0 (k : Int) 1 = ((k : Nat) : Int) := by
  obtain rfl | rfl | rfl | rfl : k = 0 ∨ k = 1 ∨ k = 2 ∨ k = 3 := lt4 (Nat.lt_succ_of_le h)
  all_goals decide
theorem zt (i : Nat) : (0 + (i : Int)).toNat = i := z_nat i
theorem z0 (i : Nat) : 0 ≤ 0 + (i : Int) := by rw [Int.zero_add]; exact Int.natCast_nonneg i
theorem zfit {i k : Nat} (h : i < k) (hk : k ≤ 3) : 0 + (i : Int) < 2 ^ 63 := by omega
theorem mr_get {R : Nat → Nat → Int} {c i j : Nat} {vs : List Value} (h : IntsAre vs (MR R c i)) (hj : j < c) {z : Int} (hz : z.toNat = j) : vs[z.toNat]? = some (.int (R i j) (tokAt vs j)) := by
  have e := ints_tok h (j := j) (by unfold MR; simpa using hj) hz
  rw [e]
  unfold MR
  simp [List.getD_eq_getElem?_getD, hj]
theorem struckG_len : ∀ (q : Nat) (R : Nat → Nat → Int), (struckG R q).length = q
  | 0, _ => rfl
  | q + 1, R => by rw [struckG, List.length_cons, struckG_len q]
theorem st_size {st : List Sk} {R R₀ : Nat → Nat → Int} {q : Nat} (h : st.map (·.1) ++ struckG R q = struckG R₀ 3) : (SkL st).toArray.size ≤ sizeLine := by
  have e := congrArg List.length h
  rw [List.length_append, List.length_map, struckG_len, struckG_len] at e
  rw [List.size_toArray, List.length_map]
  exact Nat.le_trans (show st.length ≤ 3 by omega) (by decide)
theorem news_d2 {g h : Heap} {L : Addr} {a b : Addr × Obj} {l : List (Addr × Obj)} (N : News g L h (a :: b :: l)) : News g L h (a :: l) := fun q hq => by
  rcases List.mem_cons.mp hq with rfl | hq
  · exact N _ List.mem_cons_self
  · exact N q (List.mem_cons_of_mem _ (List.mem_cons_of_mem _ hq))
theorem off_seqs {g h : Heap} {L I : Addr} {oI : Obj} {all acc : List (Addr × Obj)} (N : News g L h all) (hI : (I, oI) ∈ all) (hc : oI.cls = .type "tuple_iterator") (hs : ∀ p ∈ acc, p ∈ all) (hq : Seqs acc) : ∀ p ∈ acc, p.1 ≠ I := fun p hp => Ne.symm (ne_cls N hI (hs p hp) (by
  rw [hc]
  rcases (hq p hp).1 with e | e <;> rw [e] <;> decide))
theorem jw_next {g h' : Heap} {L I S D7 T D6 D5 ak DR : Addr} {m' : PySem.Str → Option Value} {goal : List (Int × List Int)} {o1 o2 o3 o4 o5 oI x5 xk xD : Obj} {tup lr : Addr × Obj} {k : Nat} {r : List (Nat × Tok)} {R : Nat → Nat → Int} {ys7 ys6 : List Value} {aR7 : Nat → Addr} {vR7 : Nat → List Value} {st : List Sk} {kS : Nat} {acc acc7 : List (Addr × Obj)} {v2 v3 : Option Value} {t' : Tok} {gs : Array GenState} {dr : Drawn} {tk : Nat} {os : OsState} {Rr : Flow → Shared → Prop}
    (hend : ∀ h' tk' m' n', Fr g L h' m' → News g L h' ((I, oI) :: n') → (∀ p ∈ n', p.1 ≠ I) → SubL [tup] n' → JW goal L o4 o5 tup lr I r m' n' → Rr .next ⟨h', gs, dr, tk', os⟩)
    (F : Fr g L h' m') (N : News g L h' ((D7, lst ys7) :: (T, { cls := .type "tuple", data := .seq #[.int ((List.range k).map (R k)).sum t', .ref D6] }) :: (D6, lst ys6) :: (D5, x5) :: (ak, xk) :: (DR, xD) :: (I, oI) :: (S, W.listOf ((SkL st).toArray.push (.ref T)) (kS + 1)) :: (L + 1 + 1 + 1 + 1 + 1, o5) :: (L + 1 + 1 + 1 + 1, o4) :: (L + 1 + 1 + 1, o3) :: (L + 1 + 1, o2) :: (L + 1, o1) :: (acc ++ acc7)))
    (cI : oI.cls = .type "tuple_iterator") (hdn : DownN r) (hk1 : k = r.length + 1) (hk3 : k ≤ 3) (hB : BOk k R) (hF7 : RowsA (MR (stepG R k) k) k aR7 vR7 ys7 acc7) (hst : StIn st acc) (hgl : st.map (·.1) ++ struckG R (r.length + 1) = goal) (hsq : Seqs acc) (hS7 : Seqs acc7) (htup : tup ∈ acc) (hlr : lr ∈ acc) (hSa : ∀ q ∈ acc, q.1 ≠ S) (hLS : L + 1 + 1 + 1 + 1 + 1 < S) (hLI : L + 1 + 1 + 1 + 1 + 1 < I) (hm : m' (nw "struck") = some (.ref S))
    (e1 : o1.data = .cell (some (.ref D7))) (e2 : o2.data = .cell v2) (e3 : o3.data = .cell v3) (h6 : IntsAre ys6 ((List.range k).map fun i => R i k)) (n7 : @Ne Nat D7 S) (nT : @Ne Nat T S) (n6 : @Ne Nat D6 S) (hO7 : ∀ q ∈ acc7, S ≠ q.1) : Rr .next ⟨h', gs, dr, tk, os⟩ := by
  subst hk1
  have hq : Seqs ((D7, lst ys7) :: (T, TupW ((outG R (r.length + 1), intoG R (r.length + 1)), T, D6, t', ys6)) :: (D6, lst ys6) :: (acc ++ acc7)) := by
    intro q hq
    simp only [List.mem_cons] at hq
    rcases hq with rfl | rfl | rfl | hq
    · exact ⟨.inl rfl, _, _, rfl⟩
    · exact ⟨.inr rfl, _, _, rfl⟩
    · exact ⟨.inl rfl, _, _, rfl⟩
    · exact seqs_app hsq hS7 q hq
  have sub : ∀ p ∈ (D7, lst ys7) :: (T, TupW ((outG R (r.length + 1), intoG R (r.length + 1)), T, D6, t', ys6)) :: (D6, lst ys6) :: (acc ++ acc7), p ∈ ((D7, lst ys7) :: (T, { cls := .type "tuple", data := .seq #[.int ((List.range (r.length + 1)).map (R (r.length + 1))).sum t', .ref D6] }) :: (D6, lst ys6) :: (D5, x5) :: (ak, xk) :: (DR, xD) :: (I, oI) :: (S, W.listOf ((SkL st).toArray.push (.ref T)) (kS + 1)) :: (L + 1 + 1 + 1 + 1 + 1, o5) :: (L + 1 + 1 + 1 + 1, o4) :: (L + 1 + 1 + 1, o3) :: (L + 1 + 1, o2) :: (L + 1, o1) :: (acc ++ acc7)) := fun p hp => by
    rcases List.mem_cons.mp hp with rfl | hp
    · exact List.mem_cons_self
    rcases List.mem_cons.mp hp with rfl | hp
    · exact List.mem_cons_of_mem _ List.mem_cons_self
    rcases List.mem_cons.mp hp with rfl | hp
    · exact List.mem_cons_of_mem _ (List.mem_cons_of_mem _ List.mem_cons_self)
    · exact mem_drop 13 hp
  have off := off_seqs N (by k_mem) cI sub hq
  have eL : (SkL st).toArray.push (.ref T) = (SkL (st ++ [((outG R (r.length + 1), intoG R (r.length + 1)), T, D6, t', ys6)])).toArray := by simp [SkL]
  rw [eL] at N
  refine hend h' tk m' ((S, W.listOf (SkL (st ++ [((outG R (r.length + 1), intoG R (r.length + 1)), T, D6, t', ys6)])).toArray (kS + 1)) :: (L + 1 + 1 + 1 + 1 + 1, o5) :: (L + 1 + 1 + 1 + 1, o4) :: (L + 1 + 1 + 1, o3) :: (L + 1 + 1, o2) :: (L + 1, o1) :: _) F (fun p hp => ?_) (fun p hp => ?_) ⟨?_, trivial⟩
    (JW.mk (stepG R (r.length + 1)) ys7 aR7 vR7 D7 (st ++ [((outG R (r.length + 1), intoG R (r.length + 1)), T, D6, t', ys6)]) S (kS + 1) ((D7, lst ys7) :: (T, TupW ((outG R (r.length + 1), intoG R (r.length + 1)), T, D6, t', ys6)) :: (D6, lst ys6) :: (acc ++ acc7)) m' o1 o2 o3 v2 v3 hdn (Nat.le_of_succ_le hk3) (stepG_ok (by omega) hB) ⟨hF7.1, fun i hi => ?_⟩ (fun q hq' => ?_) ?_ hq ?_ ?_ List.mem_cons_self (fun q hq' => ?_) hLS hLI hm e1 e2 e3)
  · simp only [List.mem_cons] at hp ⊢
    rcases hp with hp | hp | hp | hp | hp | hp | hp | hp
    · rw [hp]; exact N _ (by k_mem)
    · rw [hp]; exact N _ (by k_mem)
    · rw [hp]; exact N _ (by k_mem)
    · rw [hp]; exact N _ (by k_mem)
    · rw [hp]; exact N _ (by k_mem)
    · rw [hp]; exact N _ (by k_mem)
    · rw [hp]; exact N _ (by k_mem)
    · have := sub p (by simpa only [List.mem_cons] using hp)
      rw [eL] at this
      exact N p this
  · simp only [List.mem_cons] at hp
    rcases hp with hp | hp | hp | hp | hp | hp | hp
    · rw [hp]; exact Ne.symm (ne_it N (by k_mem) (by k_mem) cI rfl)
    · rw [hp]; exact Nat.ne_of_lt hLI
    · rw [hp]; exact cell_s4 hLI
    · rw [hp]; exact cell_s3 hLI
    · rw [hp]; exact cell_s2 hLI
    · rw [hp]; exact cell_s1 hLI
    · exact off p (by simpa only [List.mem_cons] using hp)
  · exact mem_drop 9 (List.mem_append_left _ htup)
  · obtain ⟨h1, h2, h3⟩ := hF7.2 i hi
    exact ⟨h1, List.mem_cons_of_mem _ (List.mem_cons_of_mem _ (List.mem_cons_of_mem _ (List.mem_append_right _ h2))), h3⟩
  · rcases List.mem_append.mp hq' with hq' | hq'
    · obtain ⟨h1, h2, h3⟩ := hst q hq'
      exact ⟨mem_drop 3 (List.mem_append_left _ h1), mem_drop 3 (List.mem_append_left _ h2), h3⟩
    · rw [List.mem_singleton.mp hq']
      exact ⟨List.mem_cons_of_mem _ List.mem_cons_self, List.mem_cons_of_mem _ (List.mem_cons_of_mem _ List.mem_cons_self), h6⟩
  · rw [← hgl, List.map_append, List.append_assoc]; rfl
  · exact mem_drop 3 (List.mem_append_left _ htup)
  · exact mem_drop 3 (List.mem_append_left _ hlr)
  · simp only [List.mem_cons] at hq'
    rcases hq' with rfl | rfl | rfl | hq'
    · exact n7
    · exact nT
    · exact n6
    · rcases List.mem_append.mp hq' with hq' | hq'
      · exact hSa q hq'
      · exact Ne.symm (hO7 q hq')
theorem led_ne {L WD : Nat} {led : List (Addr × Obj)} (h : ∀ p ∈ led, @LT.lt Nat _ p.1 L) (hW : L + 1 + 1 + 1 + 1 + 1 < WD) : ∀ a ∈ led.map (·.1), @Ne Nat a WD := fun a ha => by
  obtain ⟨q, hq, rfl⟩ := List.mem_map.mp ha
  exact Nat.ne_of_lt (Nat.lt_trans (h q hq) (by omega))
theorem jw_sub {a b c d e f g h i : Addr × Obj} {l : List (Addr × Obj)} : ∀ p ∈ b :: d :: e :: f :: g :: h :: (a :: c :: i :: l), p ∈ a :: b :: c :: d :: e :: f :: g :: h :: i :: l := fun p hp => by
  simp only [List.mem_cons] at hp ⊢
  rcases hp with hp | hp | hp | hp | hp | hp | hp | hp | hp | hp <;> simp only [hp, true_or, or_true]
theorem jw_start {R : Nat → Nat → Int} {L D S D2 l I : Addr} {o1 o2 o3 o4 o5 : Obj} {ys : List Value} {acc rest : List (Addr × Obj)} {m : PySem.Str → Option Value} {v2 v3 : Option Value} {t1 t2 t3 : Tok} {lv dv : Array Value} {nl nd : Nat} {aR : Nat → Addr} {vR : Nat → List Value}
    (hB : BOk 3 R) (hF : RowsA (MR R 4) 4 aR vR ys acc) (hq : Seqs (rest ++ acc)) (hm : m (nw "struck") = some (.ref S)) (ld : ∀ p ∈ (S, W.listOf #[] 0) :: (D2, lst ys) :: (L + 1 + 1 + 1 + 1 + 1, o5) :: (L + 1 + 1 + 1 + 1, o4) :: (L + 1 + 1 + 1, o3) :: (L + 1 + 1, o2) :: (L + 1, o1) :: (l, { cls := .type "list", data := .seq lv nl }) :: (rest ++ acc), p.1 < D) (ls : ∀ p ∈ (D2, lst ys) :: (L + 1 + 1 + 1 + 1 + 1, o5) :: (L + 1 + 1 + 1 + 1, o4) :: (L + 1 + 1 + 1, o3) :: (L + 1 + 1, o2) :: (L + 1, o1) :: (l, { cls := .type "list", data := .seq lv nl }) :: (rest ++ acc), p.1 < S)
    (hLI : L + 1 + 1 + 1 + 1 + 1 < I) (e1 : o1.data = .cell (some (.ref D2))) (e2 : o2.data = .cell v2) (e3 : o3.data = .cell v3) :
    JW (struckG R 3) L o4 o5 (D, { cls := .type "tuple", data := .seq dv nd }) (l, { cls := .type "list", data := .seq lv nl }) I [(3, t3), (2, t2), (1, t1)] m ((S, W.listOf #[] 0) :: (L + 1 + 1 + 1 + 1 + 1, o5) :: (L + 1 + 1 + 1 + 1, o4) :: (L + 1 + 1 + 1, o3) :: (L + 1 + 1, o2) :: (L + 1, o1) :: ((D, { cls := .type "tuple", data := .seq dv nd }) :: (D2, lst ys) :: (l, { cls := .type "list", data := .seq lv nl }) :: (rest ++ acc))) := by
  refine JW.mk R ys aR vR D2 [] S 0 _ m o1 o2 o3 v2 v3 ⟨rfl, rfl, rfl, trivial⟩ (Nat.le_refl 3) hB ⟨hF.1, fun i hi => ?_⟩ (fun q hq => nomatch hq) rfl (fun q hq' => ?_) List.mem_cons_self (List.mem_cons_of_mem _ (List.mem_cons_of_mem _ List.mem_cons_self)) (List.mem_cons_of_mem _ List.mem_cons_self) (fun q hq' => ?_) (ls (L + 1 + 1 + 1 + 1 + 1, o5) (List.mem_cons_of_mem _ List.mem_cons_self)) hLI hm e1 e2 e3
  · obtain ⟨h1, h2, h3⟩ := hF.2 i hi
    exact ⟨h1, List.mem_cons_of_mem _ (List.mem_cons_of_mem _ (List.mem_cons_of_mem _ (List.mem_append_right _ h2))), h3⟩
  · rcases List.mem_cons.mp hq' with rfl | hq'
    · exact ⟨.inr rfl, _, _, rfl⟩
    rcases List.mem_cons.mp hq' with rfl | hq'
    · exact ⟨.inl rfl, _, _, rfl⟩
    rcases List.mem_cons.mp hq' with rfl | hq'
    · exact ⟨.inl rfl, _, _, rfl⟩
    · exact hq q hq'
  · rcases List.mem_cons.mp hq' with rfl | hq'
    · exact Nat.ne_of_gt (ld _ List.mem_cons_self)
    rcases List.mem_cons.mp hq' with rfl | hq'
    · exact Nat.ne_of_lt (ls _ List.mem_cons_self)
    · refine Nat.ne_of_lt (ls q ?_)
      exact List.mem_cons_of_mem _ (List.mem_cons_of_mem _ (List.mem_cons_of_mem _ (List.mem_cons_of_mem _ (List.mem_cons_of_mem _ (List.mem_cons_of_mem _ hq')))))
/-- the lists that come in grow by one -/
noncomputable def Lens : List (Int × List Int) → Nat → Prop
  | [], _ => True
  | q :: r, n => q.2.length = n ∧ Lens r (n + 1)
/-- what the second loop keeps -/
inductive JV (goal : List Int) (L : Addr) (o2 o1 : Obj) (ls : Addr × Obj) (acc : List (Addr × Obj)) (I : Addr) (l : List Sk) : (PySem.Str → Option Value) → List (Addr × Obj) → Prop
  | mk (Wt : List Int) (ws : List Value) (WD : Addr) (kW : Nat) (o3 o4 o5 : Obj) (v3 v5 : Option Value) (m : PySem.Str → Option Value) : IntsAre ws Wt → (l.map (·.1)).foldl wstep Wt = goal → StBits (l.map (·.1)) → Lens (l.map (·.1)) Wt.length → StIn l acc → L + 1 + 1 + 1 + 1 + 1 < WD → L + 1 + 1 + 1 + 1 + 1 < I → (∀ q ∈ ls :: acc, q.1 ≠ I) → o3.data = .cell v3 → o4.data = .cell (some (.ref WD)) → o5.data = .cell v5 →
    JV goal L o2 o1 ls acc I l m ((WD, { cls := .type "list", data := .seq ws.toArray kW }) :: (L + 1 + 1 + 1 + 1 + 1, o5) :: (L + 1 + 1 + 1 + 1, o4) :: (L + 1 + 1 + 1, o3) :: (L + 1 + 1, o2) :: (L + 1, o1) :: ls :: acc)
theorem JV.start {R₀ R : Nat → Nat → Int} {L WD I : Addr} {o1 o2 o3 o4 o5 : Obj} {ls : Addr × Obj} {st : List Sk} {acc : List (Addr × Obj)} {m : PySem.Str → Option Value} {v3 v5 : Option Value} {t : Tok}
    (hgl : st.map (·.1) ++ struckG R 0 = struckG R₀ 3) (hst : StIn st acc) (hB : BOk 3 R₀) (hLW : L + 1 + 1 + 1 + 1 + 1 < WD) (hLI : L + 1 + 1 + 1 + 1 + 1 < I) (hSI : ∀ q ∈ ls :: acc, q.1 ≠ I) (e3 : o3.data = .cell v3) (e4 : o4.data = .cell (some (.ref WD))) (e5 : o5.data = .cell v5) :
    JV (weightsG R₀) L o2 o1 ls acc I st.reverse m ((WD, { cls := .type "list", data := .seq ([Value.int 1 t]).toArray }) :: (L + 1 + 1 + 1 + 1 + 1, o5) :: (L + 1 + 1 + 1 + 1, o4) :: (L + 1 + 1 + 1, o3) :: (L + 1 + 1, o2) :: (L + 1, o1) :: ls :: acc) := by
  have e : st.map (·.1) = struckG R₀ 3 := (List.append_nil _).symm.trans hgl
  refine JV.mk [1] [.int 1 t] WD 0 o3 o4 o5 v3 v5 m (.cons _ _ .nil) ?_ ?_ ?_ (fun q hq => hst q (List.mem_reverse.mp hq)) hLW hLI hSI e3 e4 e5
  · rw [List.map_reverse, e]; rfl
  · rw [List.map_reverse, e]
    exact fun p hp => struck_bits (Nat.le_refl 3) hB p (List.mem_reverse.mp hp)
  · rw [List.map_reverse, e]
    have l : ∀ (R : Nat → Nat → Int) (k : Nat), (intoG R k).length = k := fun R k => by unfold intoG; rw [List.length_map, List.length_range]
    exact ⟨l _ 1, l _ 2, l _ 3, trivial⟩
theorem wl_size {ws : List Value} {Wt : List Int} {l : List (Int × List Int)} {R : Nat → Nat → Int} (h : IntsAre ws Wt) (hl : Lens l Wt.length) (hf : l.foldl wstep Wt = weightsG R) : ws.toArray.size ≤ sizeLine := by
  have e : ∀ (l : List (Int × List Int)) (Wt : List Int), (l.foldl wstep Wt).length = Wt.length + l.length := by
    intro l
    induction l with
    | nil => intro _; rfl
    | cons p l ih => intro Wt; rw [List.foldl_cons, ih]; unfold wstep; simp; omega
  have e1 := congrArg List.length hf
  have e2 : (weightsG R).length = 4 := by unfold weightsG; rw [e, List.length_reverse, struckG_len]; rfl
  rw [e, e2] at e1
  rw [List.size_toArray, h.length]
  exact Nat.le_trans (show Wt.length ≤ 4 by omega) (by decide)
theorem ints_val {ws : List Value} {Wt : List Int} {i : Nat} {v : Value} (h : IntsAre ws Wt) (hv : ws.toArray[i]? = some v) : v = .int (Wt.getD i 0) (tokAt ws i) := by
  rw [List.getElem?_toArray] at hv
  have hi : i < Wt.length := by
    rw [← h.length]
    exact (List.getElem?_eq_some_iff.mp hv).1
  have e := ints_tok h hi (Int.toNat_natCast i)
  rw [Int.toNat_natCast] at e
  exact Option.some.inj (hv.symm.trans e)
theorem wl_le3 {Wt : List Int} {p : Int × List Int} {l : List (Int × List Int)} {R : Nat → Nat → Int} (hl : Lens (p :: l) Wt.length) (hf : (p :: l).foldl wstep Wt = weightsG R) : Wt.length ≤ 3 := by
  have e : ∀ (l : List (Int × List Int)) (Wt : List Int), (l.foldl wstep Wt).length = Wt.length + l.length := by
    intro l
    induction l with
    | nil => intro _; rfl
    | cons p l ih => intro Wt; rw [List.foldl_cons, ih]; unfold wstep; simp; omega
  have e1 := congrArg List.length hf
  have e2 : (weightsG R).length = 4 := by unfold weightsG; rw [e, List.length_reverse, struckG_len]; rfl
  rw [e, e2, List.length_cons] at e1
  omega
theorem len_as {prog : Program} {w : World} {A : Around} {E : Value → Shared → Prop} {s : Shared} {l : Addr} {vs : List Value} {n : Nat} {Q : Value → Shared → Prop} (hl : s.heap.IsList l vs.toArray) (e : vs.length = n) (hfit : (n : Int) < 2 ^ 63) (h : Q (.int (n : Int) (s.toks + 1)) { s with toks := s.toks + 1 + 1 }) :
    wpAny (model prog w) A (call (.builtin "len") [.ref l]) Q E s := PyProof.Rows.len_list hl (by rw [List.size_toArray, e]; exact hfit) (by rw [List.size_toArray, e]; exact h)
theorem wstep_len (Wt : List Int) (p : Int × List Int) : (wstep Wt p).length = Wt.length + 1 := by unfold wstep; simp
theorem ws_step {ws us : List Value} {Wt : List Int} {p : Int × List Int} (h : IntsAre ws Wt) (hu : IntsAre us ((List.range ws.toArray.size).map (fun i => Wt.getD i 0 * p.1) ++ [((List.range Wt.length).map fun i => Wt.getD i 0 * p.2.getD i 0).sum])) : IntsAre us (wstep Wt p) := by
  have e : (List.range ws.toArray.size).map (fun i => Wt.getD i 0 * p.1) = Wt.map (· * p.1) := by
    rw [List.size_toArray, h.length]
    refine List.ext_getElem (by simp) fun i h1 h2 => ?_
    have hi : i < Wt.length := by simpa using h2
    simp [hi]
  rw [e] at hu
  exact hu
theorem jv_drop {g h : Heap} {L : Addr} {a b c d e f i j : Addr × Obj} {l : List (Addr × Obj)} (N : News g L h (a :: b :: c :: d :: e :: f :: i :: j :: l)) : News g L h (i :: a :: l) := fun p hp => by
  rcases List.mem_cons.mp hp with rfl | hp
  · exact N _ (by k_mem)
  rcases List.mem_cons.mp hp with rfl | hp
  · exact N _ List.mem_cons_self
  · exact N p (mem_drop 8 hp)
theorem jv_off {I : Addr} {a b c d e f g : Addr × Obj} {l : List (Addr × Obj)} (h : ∀ p ∈ a :: b :: c :: d :: e :: f :: g :: l, p.1 < I) : ∀ q ∈ b :: l, q.1 ≠ I := fun q hq => by
  rcases List.mem_cons.mp hq with rfl | hq
  · exact Nat.ne_of_lt (h _ (by k_mem))
  · exact Nat.ne_of_lt (h q (mem_drop 7 hq))
theorem jv_end {L I WD : Nat} {oW o5 o4 o3 o2 o1 : Obj} {ls : Addr × Obj} {acc : List (Addr × Obj)} (hW : I < WD) (hLI : L + 1 + 1 + 1 + 1 + 1 < I) (h : ∀ q ∈ ls :: acc, q.1 ≠ I) :
    ∀ p ∈ (WD, oW) :: (L + 1 + 1 + 1 + 1 + 1, o5) :: (L + 1 + 1 + 1 + 1, o4) :: (L + 1 + 1 + 1, o3) :: (L + 1 + 1, o2) :: (L + 1, o1) :: ls :: acc, p.1 ≠ I := fun p hp => by
  simp only [List.mem_cons] at hp
  rcases hp with rfl | rfl | rfl | rfl | rfl | rfl | hp
  · exact Nat.ne_of_gt hW
  · exact Nat.ne_of_lt hLI
  · exact cell_s4 hLI
  · exact cell_s3 hLI
  · exact cell_s2 hLI
  · exact cell_s1 hLI
  · exact h p (by simpa only [List.mem_cons] using hp)
theorem jv_sub {a b c d e f g : Addr × Obj} {l : List (Addr × Obj)} : ∀ p ∈ a :: c :: d :: e :: f :: g :: b :: l, p ∈ a :: b :: c :: d :: e :: f :: g :: l := fun p hp => by
  simp only [List.mem_cons] at hp ⊢
  rcases hp with hp | hp | hp | hp | hp | hp | hp | hp <;> simp only [hp, true_or, or_true]
section
theorem t_weightsS (w : World) {p : Program} {loose : List PySem.Str} {mean : ExcName → Option Value} {mg mb : PySem.Str → Option Value} (l : Addr) (kl : Nat) (rs : List RdW) (rest : List (Addr × Obj)) (R₀ : Nat → Nat → Int) (h4 : rs.length = 4) (hrd : ∀ q ∈ rs, (q.1, RoadW q) ∈ rest ∧ q.2.1.length = 1 ∧ q.2.2.1.length = 1) (hrest : Seqs rest)
    (hR : ∀ (i : Nat) (q : RdW), rs[i]? = some q → ∀ j, j < 4 → R₀ i j = Txt.count (q.2.1 ++ q.2.2.1) ⟨#[97 + j]⟩) (hB : BOk 3 R₀) :
    Cm w p loose mean mg mb PySem.Challenge.rw_to0087_01 340 12 [.ref l] ((l, W.listOf (rs.map fun q => Value.ref q.1).toArray kl) :: rest) (fun h rv h' => ∃ r vs k, rv = .ref r ∧ NewL h h' [(r, W.listOf vs k)] ∧ IntsAre vs.toList (weightsG R₀)) := by
  k_with_none
  k_with "kbo_bools" => first | exact Off.nil | (refine Off.cons (by k_ne) ?_; kbo_bools) | (refine' Out.here ?x; (case x => kbo_bools)) | (refine' Out.skip (by k_ne) ?x; (case x => kbo_bools)) | (refine' UpdC.head ?x; (case x => kbo_bools)) | (refine' UpdC.tail ?y ?x; (case y => first | exact Or.inr (nc_seq rfl) | exact Or.inr (nc_fields rfl) | exact Or.inl (by k_ne)); (case x => kbo_bools)) | ((with_reducible show ApartOr _ _); first | exact trivial | (with_reducible exact (‹∀ c, ApartOr c _› _)) | (refine And.intro (by first | exact Or.inr (nc_seq rfl) | exact Or.inr (nc_fields rfl) | exact Or.inl (by k_ne)) ?_; kbo_bools))
  k_with "k_ne" => first | with_reducible assumption | exact ne_old (by with_reducible assumption) (by k_mem) | exact ne_new (by with_reducible assumption) (by k_mem) | exact off1_get (by with_reducible assumption) (by k_mem) | exact Ne.symm (off1_get (by with_reducible assumption) (by k_mem)) | exact Nat.ne_of_lt (lt_1 _) | exact Nat.ne_of_gt (lt_1 _) | exact Nat.ne_of_lt (lt_2 _) | exact Nat.ne_of_gt (lt_2 _) | exact Nat.ne_of_lt (lt_3 _) | exact Nat.ne_of_gt (lt_3 _) | exact Nat.ne_of_lt (lt_4 _) | exact Nat.ne_of_gt (lt_4 _) | (refine neN ?_; (try dsimp only); omega)
  k_with "k_all" => first | with_reducible assumption | exact List.forall_mem_nil _ | (refine' List.forall_mem_cons.mpr ⟨?a, ?b⟩; (case a => k_ne); (case b => k_all))
  k_with "k_lt0" => skip
  k_with "mul_fits" => first | exact PySem.IntMulOk.of_left (by with_reducible assumption) | exact PySem.IntMulOk.of_right (by with_reducible assumption)
  k_with "exec Assign cons ListComp" => (k_here; k_dflt (refine wpAny_Assign_Name ?_))
  k_with "eval ListComp" => (k_here; first | ((with_reducible show wpAny _ _ (eval (Expr.ListComp _ [⟨_, Expr.Constant _ _ _, [], _⟩] _ _) _) _ _ _); k_dflt (refine ListComp_SU (F₀ := by k_asm) (by with_unfolding_all rfl) (by decide) (by rfl) (by decide) (by rfl) ?_)) | ((with_reducible show wpAny _ _ (eval (Expr.ListComp _ [⟨Expr.Tuple _ _ _, _, [], _⟩] _ _) _) _ _ _); k_dflt (refine ListComp_Q2 (F₀ := by k_asm) (by with_unfolding_all rfl) (by intro _; with_unfolding_all rfl) (by intro _; with_unfolding_all rfl) (by rfl) (by decide) (by rfl) (by rfl) (by decide) ?_)) | ((with_reducible show wpAny _ _ (eval (Expr.ListComp (Expr.ListComp _ _ _ _) [⟨Expr.Name _ _, _, [], _⟩] _ _) _) _ _ _); k_dflt (refine ListComp_Q1 (F₀ := by k_asm) (by with_unfolding_all rfl) (by intro _; with_unfolding_all rfl) (by intro _; with_unfolding_all rfl) (by rfl) (by decide) (by rfl) ?_)) | ((with_reducible show wpAny _ _ (eval (Expr.ListComp _ [⟨Expr.Name _ _, _, [], _⟩] _ _) _) _ _ _); k_dflt (refine LCg.ListComp_U (F₀ := by k_asm) (by with_unfolding_all rfl) (by decide) (by rfl) (by decide) (by rfl) ?_)))
  k_with "storeName" => (k_here; k_dflt (refine' st_cellC ?zF ?zN ?zc ?zU ?zd ?_ ?za ?zb; (case za => rfl); (case zb => rfl); (case zF => k_asm); (case zN => k_asm); (case zc => rfl); (case zU => kbo_bools); (case zd => k_asm)); intro h'_z o'_z F'_z N'_z d'_z; (try dsimp only at N'_z))
  k_with "eval Name" => (k_here; k_dflt (refine' nameX_via ?zk1 ?zk2 ?zk3 ?_; (case zk1 => k_asm); (case zk2 => with_reducible assumption); (case zk3 => rfl); k_whole))
  k_with "exec For Tuple Call cons nil" => (k_here; (rename Fr _ _ _ _ => lF'); (with_unfolding_all refine' For_turns lF' ?_; k_whole))
  k_with "exec For Name Tuple cons nil" => (k_here; (rename Fr _ _ _ _ => lF'); (with_unfolding_all refine' For_turns lF' ?_; k_whole))
  k_with "pyIter ref" => (k_here; (with_reducible show wpAny _ _ (pyIter (Value.ref _)) (fun it s₂ => TurnsAt _ _ _ _ _ _ _ _ _ it s₂) _ _); (rename Fr _ _ _ _ => lF'); (with_unfolding_all first | refine iter_listTurns (by rfl) lF' (by k_asm) (by k_mem) (by rfl) (by rfl) ?_ | refine iter_tupTurns (by rfl) lF' (by k_asm) (by k_mem) (by rfl) (by rfl) ?_); clear lF'; intro i'_z l1_z)
  k_with "call type:reversed" => (k_here; k_dflt (refine ktu_rev (by rfl) (by k_asm) (by k_asm) (by k_mem) (by rfl) (by rfl) ?_); intro I'_z l1_z g'_z)
  k_with "ItemsRest" => (k_here; refine halt ?_)
  k_with "SrcS" => (k_here; refine halt ?_)
  k_with "Src1" => (k_here; refine halt ?_)
  k_with "Src2" => (k_here; refine halt ?_)
  k_with "subscriptTail" => (k_here; (with_reducible show wpAny _ _ (subscriptTail _ _ (Value.ref _) (Value.int _ _)) _ _ _); k_dflt (refine sub_led (by k_asm) (by k_mem) (by with_reducible assumption) (by with_reducible assumption) (by with_reducible assumption) ?_ (by with_unfolding_all rfl)))
  k_with "subscriptTail Name Name ref int" => (k_here; (with_reducible show wpAny _ _ (subscriptTail _ _ (Value.ref _) (Value.int _ _)) _ _ _); k_dflt (refine sub_led (by k_asm) (by k_mem) (by with_reducible assumption) (by with_reducible assumption) (by with_reducible assumption) ?_ (by with_unfolding_all rfl)))
  k_with "subscriptTail Subscript Name ref int" => (k_here; (with_reducible show wpAny _ _ (subscriptTail _ _ (Value.ref _) (Value.int _ _)) _ _ _); k_dflt (refine sub_led (by k_asm) (by k_mem) (by with_reducible assumption) (by with_reducible assumption) (by with_reducible assumption) ?_ (by with_unfolding_all rfl)))
  k_with "call builtin:list.append" => (k_here; (with_reducible show wpAny _ _ (call (Value.builtin _) [Value.ref _, _]) _ _ _); k_dflt (refine' append_K ?zk1 ?zk2 ?zk3 ?_ ?zk4; (case zk1 => k_asm); (case zk2 => k_asm); (case zk3 => k_upd); (case zk4 => with_reducible assumption); k_whole); intro h'_z F'_z N'_z)
  k_with "CompSrc" => (k_here; refine halt ?_)
  k_dflt (refine' Cm.enterC5 (binds := [(nw "roads", .ref l)]) (m₀ := fun y => if y = nw "roads" then some (.ref l) else none) (v1 := none) (v2 := none) (v3 := none) (v4 := none) (v5 := none) ?ho ?hcd ?hr ?hb ?hkd ?hnd ?c2 ?c3 ?c4 ?hcf ?hm ?hcm ?h)
  all_goals (try k_fill)
  case ho => k_is
  case hcd => k_is
  case hr => decide
  case hb => exact fun s => BindsTo.of_eq rfl
  case hkd => exact rfl
  case hnd => decide +kernel
  case c2 => exact rfl
  case c3 => exact rfl
  case c4 => exact rfl
  case hcf => exact fun _ => rfl
  case hm => exact fun _ => rfl
  case hcm => exact fun _ => ⟨rfl, rfl, rfl, rfl, rfl⟩
  case h =>
  intro dp un gd outer A₀ base g' sh h₁ L' tk gs dr os Rr o1 o2 o3 o4 o5 hdp hun l1 G' B' X' T' hback d1 d2 d3 d4 d5 F' N'
  w_strict k_steps
  unfold Halt
  k_dflt (refine Src2.intro rfl (by k_asm) (by k_asm) (by k_mem) ?s2 ?_)
  case s2 => rw [List.size_toArray, List.length_map, h4]; decide
  intro g2 c2 c3 hcc oo1 oo2
  refine rest2_il (MR R₀ 4) (fun i v₁ v₂ => ∃ q : RdW, rs[i]? = some q ∧ v₁ = .str q.2.1 q.2.2.2.1 ∧ v₂ = .str q.2.2.1 q.2.2.2.2) hcc oo1 oo2 (Or.inr ⟨_, by k_mem, rfl, _, rfl⟩) ?fin2 ?item2 ?step2
  case item2 =>
    intro i v hv
    obtain ⟨q, hq, e⟩ := map_at hv
    exact ⟨q.1, RoadW q, _, _, _, e, List.mem_cons_of_mem _ (List.mem_cons_of_mem _ (List.mem_cons_of_mem _ (List.mem_cons_of_mem _ (List.mem_cons_of_mem _ (List.mem_cons_of_mem _ (hrd q (List.mem_of_getElem? hq)).1))))), rfl, rfl, q, hq, rfl, rfl⟩
  case step2 =>
    intro i2 hi2 v₁ v₂ hp2 ys2 acc2 I2 oI2 C2 oC2 D2 oc2 oc3 h2 gs2 dr2 tk2 os2 E2 R2 e2 e3 hrow2 F2 N2
    obtain ⟨q2, hq2, rfl, rfl⟩ := hp2
    have hl2 := hrd q2 (List.mem_of_getElem? hq2)
    dsimp only [List.cons_append] at N2
    w_strict k_steps
    unfold Halt
    k_dflt (refine SrcS.intro (l := [⟨#[97]⟩, ⟨#[98]⟩, ⟨#[99]⟩, ⟨#[100]⟩]) (n := 4) (by rfl) (by k_asm) (by k_asm) (by decide) (by rfl) (by decide) ?_)
    intro g3
    refine rest_il (n := 4) (fun j ys => IntsAre ys ((List.range j).map (R₀ i2))) trivial .nil ?rf3 ?rs3
    case rs3 =>
      intro j3 hj3 ys3 hG3 v3 hv3 I3 oI3 C3 oC3 D3 m3 h3 gs3 dr3 tk3 os3 E3 R3 hC3 hx3 F3 N3 off3 ne3 hin3
      obtain ⟨c3', t3, hc3, rfl⟩ := hv3
      have hcc3 : c3' = ⟨#[97 + j3]⟩ := sgn_at hj3 hc3
      w_strict k_steps
      exact hin3 _ _ _ F3 N3 (ints_range hG3 (by rw [hR i2 q2 hq2 j3 hj3, hcc3]))
    case rf3 =>
      intro ys3 hG3
      unfold LCg.FinE
      intro D3 h3 tk3 F3 N3 o13
      exact hrow2 _ _ _ _ F3 N3 o13 hG3
  case fin2 =>
    intro ys2 acc2 oc2 oc3 aR2 vR2 hF2 hS2 _
    unfold LCg.FinE
    intro D2 h2 tk2 F2 N2 o12
    replace N2 := news_d23 N2
    dsimp only [List.cons_append] at N2
    clear o12
    have hap := apart_seqs (seqs_app hrest hS2)
    have h4' : (rs.map fun q => Value.ref q.1).toArray.size = 4 := by rw [List.size_toArray, List.length_map, h4]
    (try dsimp only)
    w_strict k_steps
    unfold Halt
    refine items_sub (n := (_, W.listOf #[] 0) :: (L' + 1 + 1 + 1 + 1 + 1, o5) :: (L' + 1 + 1 + 1 + 1, o4) :: (L' + 1 + 1 + 1, o3) :: (L' + 1 + 1, o2) :: (L' + 1, _) :: (_ :: (_, lst ys2) :: (l, W.listOf (rs.map fun q => Value.ref q.1).toArray kl) :: (rest ++ acc2))) jw_sub ?_
    refine items_i1 (fun q : Nat × Tok => .val (.int (q.1 : Int) q.2)) (fun q _ => .int (q.1 : Int) q.2) (JW (struckG R₀ 3) L' o4 o5 _ _) [(3, _), (2, _), (1, _)] L' rfl rfl is_val (jw_start hB (h4' ▸ hF2 : RowsA (MR R₀ 4) 4 aR2 vR2 ys2 acc2) (seqs_app hrest hS2) rfl (by with_reducible assumption) (by with_reducible assumption) (lt_of_all (by with_reducible assumption) (by k_mem)) (by with_reducible assumption) d2 d3) ?step ?done
    case done =>
      intro m4 n4 hJ4
      cases hJ4 with
      | mk R ys aR vR DR st S kS acc m o1' o2' o3' v2 v3 hdn hl3 hBk hrw hst hgl hsq htup hlr hDR hSa hLS hLI hm e1 e2 e3 =>
      intro h4 tk4 F4 N4
      have hap4 := apart_seqs hsq
      w_strict k_steps
      unfold Halt
      refine items_sub (n := (_, { cls := .type "list", data := .seq ([Value.int 1 tk4]).toArray }) :: (L' + 1 + 1 + 1 + 1 + 1, o5) :: (L' + 1 + 1 + 1 + 1, _) :: (L' + 1 + 1 + 1, o3') :: (L' + 1 + 1, o2') :: (L' + 1, o1') :: (S, W.listOf (SkL st).toArray kS) :: acc) jv_sub ?_
      refine items_i1 (fun q : Sk => .val (.ref q.2.1)) (fun q _ => .ref q.2.1) (JV (weightsG R₀) L' o2' o1' (S, W.listOf (SkL st).toArray kS) acc) st.reverse L' rfl (by rw [← List.map_reverse, List.map_map]; rfl) is_val (JV.start hgl hst hB (lt_of_all (by with_reducible assumption) (by k_mem)) (lt_of_all (by with_reducible assumption) (by k_mem)) (jv_off (by with_reducible assumption)) e3 (by with_reducible assumption) d5) ?vstep ?vdone
      case vdone =>
        intro m5 n5 hJ5
        cases hJ5 with
        | mk Wt ws WD kW o3v o4v o5v u3 u5 m hws hfold hbits hlens hin hLW hLI' hSI' f3 f4 f5 =>
        intro h5 tk5 F5 N5
        w_strict k_steps
        exact hback _ _ _ _ _ _ F5 N5 (post_of N5 G' List.mem_cons_self (led_ne l1 hLW) (hfold ▸ hws))
      case vstep =>
        intro x5 r5 m5 n5 hJ5
        cases hJ5 with
        | mk Wt ws WD kW o3v o4v o5v u3 u5 m hws hfold hbits hlens hin hLW hLI' hSI' f3 f4 f5 =>
        intro _ h5 gs5 dr5 tk5 os5 oI5 R5 cI5 hend5 F5 N5
        replace N5 := news_dup2 N5 (mem_drop 8 (hin _ List.mem_cons_self).1) (mem_drop 8 (hin _ List.mem_cons_self).2.1)
        have hb5 := hbits _ List.mem_cons_self
        w_strict k_steps
        unfold Halt
        k_dflt (refine LCg.CompSrc.ledger (by rfl) (by k_asm) (by k_asm) (by k_mem) (wl_size hws hlens hfold) ?_)
        intro g6
        refine rest_il (fun i ys => IntsAre ys ((List.range i).map fun i => Wt.getD i 0 * x5.1.1)) (Or.inr ⟨_, by k_mem, rfl, _, rfl⟩) .nil ?vf6 ?vs6
        case vs6 =>
          intro i6 hi6 ys6 hG6 v6 hv6 I6 oI6 C6 oC6 D6 m6 h6 gs6 dr6 tk6 os6 E6 R6 hC6 hx6 F6 N6 off6 ne6 hin6
          obtain rfl := ints_val hws hv6
          have hbo := hb5.1
          w_strict k_steps
          exact hin6 _ _ _ (by k_asm) (by k_asm) (ints_range hG6 rfl)
        case vf6 =>
          intro ys6 hG6
          unfold LCg.FinE
          intro D6 h6 tk6 F6 N6 o16
          (try dsimp only)
          w_strict k_steps
          have hi3 := (hin _ List.mem_cons_self).2.2
          have hl3' := wl_le3 hlens hfold
          k_dflt (refine len_as (vs := x5.2.2.2.2) (n := Wt.length) (News.isList (by k_asm) (by k_mem)) (hi3.length.trans hlens.1) (fit63 hl3') ?_)
          w_strict k_steps
          unfold Halt
          k_dflt (refine LCg.CompSrc.range (n := Wt.length) (by rfl) (by k_asm) (by k_asm) (by assumption) (rng_small hl3') (rng_size hl3') (Nat.le_trans hl3' (by decide)) ?_)
          intro g7
          refine rest_il (n := Wt.length) (fun i ys => IntsAre ys ((List.range i).map fun i => Wt.getD i 0 * x5.1.2.getD i 0)) trivial .nil ?vf7 ?vs7
          case vs7 =>
            intro i7 hi7 ys7 hG7 v7 hv7 I7 oI7 C7 oC7 D7 m7 h7 gs7 dr7 tk7 os7 E7 R7 hC7 hx7 F7 N7 off7 ne7 hin7
            obtain ⟨t7, rfl⟩ := hv7
            have z7 := z0 i7
            have zf7 := zfit hi7 hl3'
            have fw7 := ints_tok hws hi7 (zt i7)
            have fi7 := ints_tok hi3 (hlens.1.symm ▸ hi7) (zt i7)
            have bi7 := hb5.2 i7
            w_strict k_steps
            exact hin7 _ _ _ (by k_asm) (by k_asm) (ints_range hG7 rfl)
          case vf7 =>
            intro ys7 hG7
            unfold LCg.FinE
            intro D7 h7 tk7 F7 N7 o17
            (try dsimp only)
            w_strict k_steps
            k_dflt (refine kmk_add_ints (by k_asm) (by k_asm) (News.isList (by k_asm) (by k_mem)) (News.isList (by k_asm) (by k_mem)) hG6 (.cons _ _ .nil) ?_ (by rw [List.length_map, List.length_range, List.size_toArray, hws.length]; exact Nat.le_trans (Nat.add_le_add_right hl3' 1) (by decide)))
            intro D8 us8 h8 F8 N8 l8 hI8
            w_strict k_steps
            exact hend5 _ _ _ _ (by k_asm) (jv_drop (by k_asm)) (jv_end (lt_of_all (by with_reducible assumption) (by k_mem)) hLI' hSI') ⟨mem_drop 6 List.mem_cons_self, trivial⟩ (JV.mk (wstep Wt x5.1) us8 D8 0 _ _ _ _ _ _ (ws_step hws hI8) hfold (fun p hp => hbits p (List.mem_cons_of_mem _ hp)) (by rw [wstep_len]; exact hlens.2) (fun q hq => hin q (List.mem_cons_of_mem _ hq)) (lt_of_all (by with_reducible assumption) (by k_mem)) hLI' hSI' (by with_reducible assumption) (by with_reducible assumption) (by with_reducible assumption))
    case step =>
      intro x4 r4 m4 n4 hJ4
      cases hJ4 with
      | mk R ys aR vR DR st S kS acc m o1' o2' o3' v2 v3 hdn hl3 hBk hrw hst hgl hsq htup hlr hDR hSa hLS hLI hm e1 e2 e3 =>
      intro _ h4 gs4 dr4 tk4 os4 oI4 R4 cI4 hend4 F4 N4
      have hap4 := apart_seqs hsq
      have hk1 : x4.1 = r4.length + 1 := hdn.1
      have hk3 : x4.1 ≤ 3 := hk1 ▸ hl3
      have hrw' : RowsA (MR R (x4.1 + 1)) (x4.1 + 1) aR vR ys acc := hk1 ▸ hrw
      have k0 : 0 ≤ (x4.1 : Int) := Int.natCast_nonneg _
      have kfit : (x4.1 : Int) < 2 ^ 63 := fit63 hk3
      have fk := rowsA_ref hrw' (Nat.lt_succ_self _) (Int.toNat_natCast x4.1)
      have ik := (hrw'.2 x4.1 (Nat.lt_succ_self _)).2.2
      have hbo : Builtin.Int.intBits (((List.range x4.1).map (R x4.1)).sum) ≤ 64 := out_bits (hk1 ▸ hBk : BOk x4.1 R) hk3
      have hS1 := cell_s1 hLS
      have hS2' := cell_s2 hLS
      have hS3 := cell_s3 hLS
      have hS4 := cell_s4 hLS
      have hS5 : @Ne Nat (L' + 1 + 1 + 1 + 1 + 1) S := Nat.ne_of_lt hLS
      have hstz : (SkL st).toArray.size ≤ sizeLine := st_size hgl
      have hSk : @Ne Nat (aR x4.1) S := hSa _ (hrw'.2 x4.1 (Nat.lt_succ_self _)).2.1
      have hSD : @Ne Nat DR S := hSa _ hDR
      have hSI : @Ne Nat _ S := ne_it N4 List.mem_cons_self (List.mem_cons_of_mem _ List.mem_cons_self) cI4 rfl
      replace N4 := news_dup2 N4 (mem_6 hDR) (mem_6 (hrw'.2 x4.1 (Nat.lt_succ_self _)).2.1)
      w_strict k_steps
      k_dflt (refine' kmk_slice_ints ?zF9 ?zN9 ?zl9 ?zp9 ?zq9 ik (mr_take R x4.1 x4.1 ▸ kmk_upto ik k0) (mr_len R x4.1) ?_ ?zs9 ?zt9 ?zz9; (case zF9 => k_asm); (case zN9 => k_asm); (case zl9 => kmk_list); (case zp9 => kmk_part); (case zq9 => kmk_part); (case zs9 => with_unfolding_all rfl); (case zt9 => kmk_pure); (case zz9 => exact mr_size ik (Nat.succ_le_succ hk3)))
      intro D5 vs5 h5 F5 N5 l5 hI5 hC5 hL5
      w_strict k_steps
      unfold Halt
      k_dflt (refine LCg.CompSrc.range (n := x4.1) (by rfl) (by k_asm) (by k_asm) (by assumption) (rng_small hk3) (rng_size hk3) (Nat.le_trans hk3 (by decide)) ?_)
      intro g6
      refine rest_il (n := x4.1) (fun i ys => IntsAre ys ((List.range i).map fun i => R i x4.1)) trivial .nil ?rf6 ?rs6
      case rs6 =>
        intro i6 hi6 ys6 hG6 v6 hv6 I6 oI6 C6 oC6 D6 m6 h6 gs6 dr6 tk6 os6 E6 R6 hC6 hx6 F6 N6 off6 ne6 hin6
        obtain ⟨t6, rfl⟩ := hv6
        have hlt6 : i6 < x4.1 + 1 := Nat.lt_succ_of_lt hi6
        have f6 := rowsA_ref hrw' hlt6 (zt i6)
        have z6 := z0 i6
        have zf6 := zfit hi6 hk3
        have fk6 := mr_get (hrw'.2 i6 hlt6).2.2 (Nat.lt_succ_self x4.1) (Int.toNat_natCast x4.1)
        replace N6 := news_dup N6 (mem_drop 13 (hrw'.2 i6 hlt6).2.1)
        w_strict k_steps
        exact hin6 _ _ _ (by k_asm) (news_tl (by k_asm)) (ints_range hG6 rfl)
      case rf6 =>
        intro ys6 hG6
        unfold LCg.FinE
        intro D6 h6 tk6 F6 N6 o16
        (try dsimp only)
        w_strict k_steps
        unfold Halt
        k_dflt (refine Src1.intro (n := x4.1) (by rfl) (by k_asm) (by k_asm) (by assumption) (rng_small hk3) (rng_size hk3) (Nat.le_trans hk3 (by decide)) ?_)
        intro g7 c7 oo7
        refine rest1_il (n := x4.1) (MR (stepG R x4.1) x4.1) oo7 ?rf7 ?rs7
        case rs7 =>
          intro i7 hi7 v7 hv7 ys7 acc7 I7 oI7 C7 oC7 D7 oc7 h7 gs7 dr7 tk7 os7 E7 R7 e7 hrow7 F7 N7
          obtain ⟨t7, rfl⟩ := hv7
          dsimp only [List.cons_append] at N7
          w_strict k_steps
          unfold Halt
          k_dflt (refine LCg.CompSrc.range (n := x4.1) (by rfl) (by k_asm) (by k_asm) (by assumption) (rng_small hk3) (rng_size hk3) (Nat.le_trans hk3 (by decide)) ?_)
          intro g8
          have hlt7 : i7 < x4.1 + 1 := Nat.lt_succ_of_lt hi7
          have f7 := rowsA_ref hrw' hlt7 (zt i7)
          have z7 := z0 i7
          have zf7 := zfit hi7 hk3
          have fk7 := mr_get (hrw'.2 i7 hlt7).2.2 (Nat.lt_succ_self x4.1) (Int.toNat_natCast x4.1)
          have bk7 := bits_at hBk i7 x4.1
          refine rest_il (n := x4.1) (fun j ys => IntsAre ys ((List.range j).map (stepG R x4.1 i7))) trivial .nil ?rf8 ?rs8
          case rs8 =>
            intro i8 hi8 ys8 hG8 v8 hv8 I8 oI8 C8 oC8 D8 m8 h8 gs8 dr8 tk8 os8 E8 R8 hC8 hx8 F8 N8 off8 ne8 hin8
            obtain ⟨t8, rfl⟩ := hv8
            have hlt8 : i8 < x4.1 + 1 := Nat.lt_succ_of_lt hi8
            have z8 := z0 i8
            have zf8 := zfit hi8 hk3
            have fj8 := mr_get (hrw'.2 i7 hlt7).2.2 hlt8 (zt i8)
            have fkj8 := mr_get ik hlt8 (zt i8)
            replace N8 := news_dup N8 (mem_drop 19 (List.mem_append_left _ (hrw'.2 i7 hlt7).2.1))
            w_strict k_steps
            exact hin8 _ _ _ (by k_asm) (news_tl (by k_asm)) (ints_range hG8 rfl)
          case rf8 =>
            intro ys8 hG8
            unfold LCg.FinE
            intro D8 h8 tk8 F8 N8 o18
            exact hrow7 _ _ _ _ F8 N8 o18 hG8
        case rf7 =>
          intro ys7 acc7 oc7 aR7 vR7 hF7 hS7 hO7
          unfold LCg.FinE
          intro D7 h7 tk7 F7 N7 o17
          replace N7 := news_d2 N7
          replace o17 := o17.2
          dsimp only [List.cons_append] at N7
          have hap7 := apart_seqs (seqs_app hsq hS7)
          (try dsimp only)
          w_strict k_steps
          exact jw_next hend4 (by k_asm) (by k_asm) cI4 hdn.2 hk1 hk3 (hk1 ▸ hBk) hF7 hst hgl hsq hS7 htup hlr hSa hLS hLI hm (by with_reducible assumption) (by with_reducible assumption) (by with_reducible assumption) hG6 (by k_ne) (by k_ne) (by k_ne) (fun q hq => hO7 q hq (S, W.listOf _ _) (by k_mem))
end
/-- how many roads lead from a place to another -/
noncomputable def ratesP (d0 d1 d2 d3 : PySem.Str) (i j : Nat) : Int :=
  Txt.count ((match i with | 0 => PySem.Str.ofString "b" ++ d0 | 1 => PySem.Str.ofString "c" ++ d1 | 2 => PySem.Str.ofString "d" ++ d2 | _ => PySem.Str.ofString "a" ++ d3)) (match j with | 0 => ⟨#[97]⟩ | 1 => ⟨#[98]⟩ | 2 => ⟨#[99]⟩ | _ => ⟨#[100]⟩)
noncomputable def outR (R : Nat → Nat → Int) : Nat → Int
  | 3 => R 3 0 + (R 3 1 + (R 3 2 + 0))
  | 2 => R 2 0 + (R 2 1 + 0)
  | _ => R 1 0 + 0
/-- a place is struck out -/
noncomputable def stepR (R : Nat → Nat → Int) (k i j : Nat) : Int := R i j * outR R k + R i k * R k j
noncomputable def weightsP (R : Nat → Nat → Int) : List Int :=
  let R1 := stepR R 3
  let R2 := stepR R1 2
  let w0 := 1 * outR R2 1
  let w1 := 1 * R2 0 1 + 0
  let x0 := w0 * outR R1 2
  let x1 := w1 * outR R1 2
  let x2 := w0 * R1 0 2 + (w1 * R1 1 2 + 0)
  [x0 * outR R 3, x1 * outR R 3, x2 * outR R 3, x0 * R 0 3 + (x1 * R 1 3 + (x2 * R 2 3 + 0))]
theorem weightsG_P (R : Nat → Nat → Int) : weightsG R = weightsP R := rfl
theorem t_weights (w : World) {p : Program} {loose : List PySem.Str} {mean : ExcName → Option Value} {mg mb : PySem.Str → Option Value} (l r0 r1 r2 r3 : Addr) (a0 a1 a2 a3 b0 b1 b2 b3 : Tok) (d0 d1 d2 d3 : PySem.Str) (h0 : d0.length = 1) (h1 : d1.length = 1) (h2 : d2.length = 1) (h3 : d3.length = 1) (hrat : ∀ i j, 0 ≤ ratesP d0 d1 d2 d3 i j ∧ ratesP d0 d1 d2 d3 i j ≤ 2) :
    Cm w p loose mean mg mb PySem.Challenge.rw_to0087_01 340 12 [.ref l] [(l, W.listOf #[.ref r0, .ref r1, .ref r2, .ref r3] 4), (r0, W.listOf #[.str (PySem.Str.ofString "b") a0, .str d0 b0] 2), (r1, W.listOf #[.str (PySem.Str.ofString "c") a1, .str d1 b1] 2), (r2, W.listOf #[.str (PySem.Str.ofString "d") a2, .str d2 b2] 2), (r3, W.listOf #[.str (PySem.Str.ofString "a") a3, .str d3 b3] 2)] (fun h rv h' => ∃ r vs k, rv = .ref r ∧ NewL h h' [(r, W.listOf vs k)] ∧ IntsAre vs.toList (weightsP (ratesP d0 d1 d2 d3))) := by
  rw [← weightsG_P]
  refine t_weightsS w l 4 [(r0, PySem.Str.ofString "b", d0, a0, b0), (r1, PySem.Str.ofString "c", d1, a1, b1), (r2, PySem.Str.ofString "d", d2, a2, b2), (r3, PySem.Str.ofString "a", d3, a3, b3)] [(r0, W.listOf #[.str (PySem.Str.ofString "b") a0, .str d0 b0] 2), (r1, W.listOf #[.str (PySem.Str.ofString "c") a1, .str d1 b1] 2), (r2, W.listOf #[.str (PySem.Str.ofString "d") a2, .str d2 b2] 2), (r3, W.listOf #[.str (PySem.Str.ofString "a") a3, .str d3 b3] 2)] (ratesP d0 d1 d2 d3) rfl ?_ ?_ ?_ hrat
  · intro q hq
    simp only [List.mem_cons, List.not_mem_nil, or_false] at hq
    rcases hq with rfl | rfl | rfl | rfl
    · exact ⟨by k_mem, rfl, h0⟩
    · exact ⟨by k_mem, rfl, h1⟩
    · exact ⟨by k_mem, rfl, h2⟩
    · exact ⟨by k_mem, rfl, h3⟩
  · intro q hq
    simp only [List.mem_cons, List.not_mem_nil, or_false] at hq
    rcases hq with rfl | rfl | rfl | rfl <;> exact ⟨.inl rfl, _, _, rfl⟩
  · intro i q hq j hj
    obtain rfl | rfl | rfl | rfl : j = 0 ∨ j = 1 ∨ j = 2 ∨ j = 3 := lt4 hj
    all_goals (match i, hq with
      | 0, hq => cases hq; rfl
      | 1, hq => cases hq; rfl
      | 2, hq => cases hq; rfl
      | 3, hq => cases hq; rfl)
end Mine
end
/-! # Ttab0 -/
section
open PySem PySem.W PyProof.Rows
set_option Elab.async false
set_option maxRecDepth 100000
set_option maxHeartbeats 400000000
namespace Mine
theorem hash_ok {n : Int} (h0 : 0 ≤ n) (h1 : n < 2000000) : hashInt n = n := by
  have e : rawHash n = n := by
    simp only [rawHash]
    have h3 : (n.natAbs : Int) = n := by omega
    have h2 : (n.natAbs : Int) % ((2 ^ 61 - 1 : Nat) : Int) = n := by rw [h3]; exact Int.emod_eq_of_lt h0 (by omega)
    simp only [h2, if_neg (show ¬ n < 0 by omega)]
    rw [if_neg (by simp; omega)]
  unfold hashInt
  rw [e]
  simp; omega
/-- a table's pairs stand in rising order, all small -/
noncomputable def risen : Int → List (Int × PySem.Str) → Bool
  | _, [] => true
  | b, p :: l => decide (b < p.1) && decide (p.1 < 2000000) && risen p.1 l
theorem risen_lt : ∀ {l : List (Int × PySem.Str)} {b : Int}, risen b l = true → ∀ p ∈ l, b < p.1 ∧ p.1 < 2000000
  | [], _, _, _, h => nomatch h
  | q :: l, b, h, p, hp => by
    simp only [risen, Bool.and_eq_true, decide_eq_true_eq] at h
    rcases List.mem_cons.mp hp with rfl | hp
    · exact ⟨h.1.1, h.1.2⟩
    · exact ⟨Int.lt_trans h.1.1 (risen_lt h.2 p hp).1, (risen_lt h.2 p hp).2⟩
theorem risen_nodup : ∀ {l : List (Int × PySem.Str)} {b : Int}, risen b l = true → (l.map (·.1)).Nodup
  | [], _, _ => List.nodup_nil
  | q :: l, b, h => by
    simp only [risen, Bool.and_eq_true, decide_eq_true_eq] at h
    refine List.nodup_cons.mpr ⟨fun hm => ?_, risen_nodup h.2⟩
    obtain ⟨p, hp, e⟩ := List.mem_map.mp hm
    have := (risen_lt h.2 p hp).1
    dsimp only at e
    omega
theorem b3_risen : risen (-1) b3P = true := by decide +kernel
noncomputable def asD (l : List (Int × PySem.Str)) : List (Int × PyData) := l.map fun p => (p.1, .str p.2)
theorem nums_app : ∀ {es fs : List DictEntry} {D F : List (Int × PyData)}, KTD.numsLook es D = true → KTD.numsLook fs F = true → KTD.numsLook (es ++ fs) (D ++ F) = true
  | [], _, [], _, _, h => h
  | _ :: _, _, _ :: _, _, h, g => by
    simp only [List.cons_append, KTD.numsLook, Bool.and_eq_true] at h ⊢
    exact ⟨h.1, nums_app h.2 g⟩
  | [], _, _ :: _, _, h, _ => by simp [KTD.numsLook] at h
  | _ :: _, _, [], _, h, _ => by simp [KTD.numsLook] at h
theorem nums3 : ∀ (l : List (Int × PySem.Str)) (t : Nat), (∀ p ∈ l, (-1 : Int) < p.1 ∧ p.1 < 2000000) → KTD.numsLook (ent3 t l) (asD l) = true
  | [], _, _ => rfl
  | (n, s) :: r, t, h => by
    have hn := h _ (List.mem_cons_self ..)
    show (n == n && n == hashInt n && (s == s) && KTD.numsLook (ent3 (t + 3) r) (asD r)) = true
    rw [hash_ok (by omega) hn.2, nums3 r _ fun p hp => h p (List.mem_cons_of_mem _ hp)]
    simp
theorem nums2 : ∀ (l : List (Int × PySem.Str)) (t : Nat), (∀ p ∈ l, (-1 : Int) < p.1 ∧ p.1 < 2000000) → KTD.numsLook (ent2 t l) (asD l) = true
  | [], _, _ => rfl
  | (n, s) :: r, t, h => by
    have hn := h _ (List.mem_cons_self ..)
    show (n == n && n == hashInt n && (s == s) && KTD.numsLook (ent2 (t + 2) r) (asD r)) = true
    rw [hash_ok (by omega) hn.2, nums2 r _ fun p hp => h p (List.mem_cons_of_mem _ hp)]
    simp
theorem b3_look (P : Params) : KTD.keyedLook (fun a => (hd.heap_1 P).lookup a) 106 (asD b3P) = true := by
  have e : (hd.heap_1 P).lookup 106 = some (o106v5 P) := by kernel_rfl
  have hl := fun p hp => risen_lt b3_risen p hp
  unfold KTD.keyedLook
  rw [show (fun a => (hd.heap_1 P).lookup a) 106 = some (o106v5 P) from e]
  have h1 : (decide ((asD b3P).map (·.1)).Nodup) = true := decide_eq_true (by
    have e : (asD b3P).map (·.1) = b3P.map (·.1) := by simp [asD]
    rw [e]; exact risen_nodup b3_risen)
  rw [h1]
  have h2 : KTD.numsLook b3E.toArray.toList (asD b3P) = true := by
    have e : asD b3P = asD (b3P.take 646) ++ asD (b3P.drop 646) := by rw [asD, asD, asD, ← List.map_append, List.take_append_drop]
    rw [e]
    exact nums_app (nums3 _ _ fun p hp => hl p (List.mem_of_mem_take hp)) (nums2 _ _ fun p hp => hl p (List.mem_of_mem_drop hp))
  show (!((106 : Nat) == sysModules) && true && (true && true && true && KTD.numsLook b3E.toArray.toList (asD b3P))) = true
  rw [h2]
  decide
theorem b3_keyed {P : Params} {h : Heap} (X : (hd.heap_1 P).In h) : KTD.Keyed h 106 (asD b3P) := KTD.keyed_of_look (fun a o e => X a o e) (b3_look P)
theorem at_asD {k : Int} : ∀ l : List (Int × PySem.Str), KTD.datumAt k (asD l) = (l.lookup k).map PyData.str
  | [] => rfl
  | (a, b) :: l => by
    show (if decide (k = a) = true then some (PyData.str b) else KTD.datumAt k (asD l)) = _
    rw [at_asD l]
    simp only [List.lookup]
    by_cases e : k = a
    · simp [e]
    · simp [e, show (k == a) = false from by simp [e]]
section
variable {prog : Program} {w : World} {A : Around} {E : Value → Shared → Prop} {s : Shared} {h₀ : Heap} {P : Params} {k : Int} {tk : Tok}
theorem getMethod_b3 {pl : Sem Bool} {Q : Value × List Value → Shared → Prop} (X : (hd.heap_1 P).In h₀) (hk : ∀ b o, h₀.get? b = some o → s.heap.get? b = some o) (h : Q (.builtin "dict.get", [.ref 106]) s) :
    wpAny (model prog w) A (getMethod (.ref 106) "get" pl) Q E s := KTD.getMethod_keyed (b3_keyed X) hk h
theorem get_b3 {Q : Value → Shared → Prop} (X : (hd.heap_1 P).In h₀) (hk : ∀ b o, h₀.get? b = some o → s.heap.get? b = some o) (h1 : ∀ x t, b3P.lookup k = some x → Q (.str x t) { s with toks := s.toks + 1 }) (h2 : b3P.lookup k = none → Q .none { s with toks := s.toks + 1 }) :
    wpAny (model prog w) A (call (.builtin "dict.get") [.ref 106, .int k tk]) Q E s :=
  call_get1_intTab ((b3_keyed X).keep hk prog w) fun v hv => by
    rw [KTD.lookup_keyed, at_asD] at hv
    cases hat : b3P.lookup k with
    | some d =>
      rw [hat] at hv
      obtain ⟨t, rfl⟩ : ∃ t, v = .str d t := PyProof.V.Flat.str_inv hv
      exact h1 _ _ hat
    | none =>
      rw [hat] at hv
      have hv' : PyProof.V.Flat v .none := hv
      rw [hv'.none_inv]
      exact h2 hat
end
/-- the signs of table B.1 -/
noncomputable def b1P : List Int := [65024, 65025, 65026, 65027, 65028, 65029, 6150, 65030, 65031, 65032, 65033, 6155, 6156, 6157, 8203, 8204, 8205, 65034, 65035, 65036, 65037, 65038, 65039, 173, 847, 8288, 65279]
noncomputable def b1E : List (Int × Value) := [(65024, .int 65024 403), (65025, .int 65025 404), (65026, .int 65026 405), (65027, .int 65027 406), (65028, .int 65028 407), (65029, .int 65029 408), (6150, .int 6150 389), (65030, .int 65030 409), (65031, .int 65031 410), (65032, .int 65032 411), (65033, .int 65033 412), (6155, .int 6155 390), (6156, .int 6156 391), (6157, .int 6157 392), (8203, .int 8203 393), (8204, .int 8204 394), (8205, .int 8205 395), (65034, .int 65034 413), (65035, .int 65035 414), (65036, .int 65036 415), (65037, .int 65037 416), (65038, .int 65038 417), (65039, .int 65039 418), (173, .int 173 387), (847, .int 847 388), (8288, .int 8288 396), (65279, .int 65279 397)]
noncomputable def intOk (x : Int × Value) : Bool := match x.2 with | .int m _ => x.1 == m && decide (0 ≤ m) && decide (m < 2000000) | _ => false
theorem intOk_of {x : Int × Value} (h : intOk x = true) : ∃ n t, x = (n, .int n t) ∧ 0 ≤ n ∧ n < 2000000 := by
  obtain ⟨n, v⟩ := x
  unfold intOk at h
  dsimp only at h
  split at h
  · rename_i m t
    simp only [Bool.and_eq_true, beq_iff_eq, decide_eq_true_eq] at h
    obtain ⟨⟨rfl, h0⟩, h1⟩ := h
    exact ⟨n, t, rfl, h0, h1⟩
  · cases h
theorem b1_ok : b1E.all intOk = true := by kernel_rfl
theorem set_mem {l : List (Int × Value)} (h : l.all intOk = true) (k : Int) : (l.map (·.1)).contains k = true ↔ ∃ e ∈ l, Value.isInt k e.2 = true := by
  rw [List.contains_iff_mem, List.mem_map]
  constructor
  · rintro ⟨e, he, rfl⟩
    obtain ⟨n, t, rfl, _, _⟩ := intOk_of (List.all_eq_true.mp h _ he)
    exact ⟨_, he, by simp [Value.isInt]⟩
  · rintro ⟨e, he, hk⟩
    obtain ⟨n, t, rfl, _, _⟩ := intOk_of (List.all_eq_true.mp h _ he)
    exact ⟨_, he, by simpa [Value.isInt] using hk⟩
theorem b1_set (prog : Program) (w : World) {P : Params} {h : Heap} (e : h.get? 95 = some (o95v3 P)) : h.SetOf (PySem.intKind prog w) 95 (fun k => b1P.contains k) 27 := by
  refine ⟨_, b1E.toArray, _, _, e, ⟨rfl, rfl, rfl⟩, rfl, ?_, ?_, ?_, ?_, ?_⟩
  · intro x hx
    obtain ⟨n, t, rfl, h0, h1⟩ := intOk_of (List.all_eq_true.mp b1_ok x hx)
    exact ⟨⟨n, intKind_is _ _ _ _, (hash_ok h0 h1).symm⟩, rfl⟩
  · intro k
    exact set_mem b1_ok k
  · decide
  · kernel_rfl
  · rfl
theorem in_b1 {prog : Program} {w : World} {A : Around} {E : Value → Shared → Prop} {s : Shared} {h₀ : Heap} {P : Params} {k : Int} {tk : Tok} {Q : Value → Shared → Prop} (e : h₀.get? 95 = some (o95v3 P)) (hk : ∀ b o, h₀.get? b = some o → s.heap.get? b = some o)
    (h : Q (.bool (b1P.contains k)) { s with toks := s.toks + 1 }) : wpAny (model prog w) A (compareOp .In (.int k tk) (.ref 95)) Q E s :=
  wpAny_inSet_of (intKind_is _ _ _ _) rfl (b1_set prog w (hk _ _ e)) h
end Mine
end
/-! # Ttab -/
section
theorem Mine.reset_Ttab : True := by (w_top off); k_with_none; trivial
open PySem PySem.W PyProof.Rows
set_option Elab.async false
set_option maxRecDepth 100000
set_option maxHeartbeats 400000000
namespace Mine
/-- a sign's number -/
noncomputable def cpOf (a : PySem.Str) : Int := ((a.cps.getD 0 0 : Nat) : Int)
theorem t_b1 (w : World) {p : Program} {loose : List PySem.Str} {mean : ExcName → Option Value} {mg mb : PySem.Str → Option Value} (a : PySem.Str) (ta : Tok) (ha : a.length = 1) :
    Cl w p loose mean mg mb PySem.Challenge.rw_to0087_01 105 6 [.str a ta] (fun h => h.get? 95 = some (o95v3 w.params)) (fun _ v _ => v = .bool (b1P.contains (cpOf a))) := by
  unfold Cl
  k_fill
  intros
  rename_i hpre hret
  try dsimp only at hpre
  refine wpAny_call ?_
  k_with "compareOp In int ref" => refine in_b1 (by assumption) (by exact Fr.keep (by assumption)) ?_
  w_strict (k_dflt (refine' enterP ?k1 ?k2 ?k3 ?k5 ?kA ?kF ?kK ?k6 ?k7 ?k8 ?k9 ?kB ?_ ?c2 ?c3 ?c4 ?c5; (case kA => exact rfl); (case kF => exact rfl); (case kK => assumption); (case k1 => k_asm); (case k2 => k_asm); (case k3 => k_asm); (case k5 => k_asm); (case k6 => k_is); (case k7 => k_is); (case k8 => ktr_room); (case k9 => exact BindsTo.of_eq rfl); (case c5 => decide); (case kB => exact locs rfl); (case c2 => exact rfl); (case c3 => exact rfl); (case c4 => exact rfl); k_whole; intro L' h' F' N' B' X' T'; (try dsimp only); (try k_lift B'); (try k_fold)))
  w_strict k_steps
  refine back_ (by k_asm) (by k_asm) (fun kE => hret _ _ _ kE ?_)
  rfl
theorem t_map (w : World) {p : Program} {loose : List PySem.Str} {mean : ExcName → Option Value} {mg mb : PySem.Str → Option Value} (a : PySem.Str) (ta : Tok) (ha : a.length = 1) :
    Cl w p loose mean mg mb PySem.Challenge.rw_to0087_01 151 6 [.str a ta] (fun h => True) (fun _ v _ => ∃ t, v = .str ((b3P.lookup (cpOf a)).getD (Txt.lower a)) t) := by
  unfold Cl
  k_fill
  intros
  rename_i hpre hret
  try dsimp only at hpre
  refine wpAny_call ?_
  k_with "getMethod ref" => refine getMethod_b3 (by assumption) (by exact Fr.keep (by assumption)) ?_
  k_with "call builtin:dict.get" => refine get_b3 (by assumption) (by exact Fr.keep (by assumption)) (fun x t hx => ?_) (fun hx => ?_)
  w_strict (k_dflt (refine' enterP ?k1 ?k2 ?k3 ?k5 ?kA ?kF ?kK ?k6 ?k7 ?k8 ?k9 ?kB ?_ ?c2 ?c3 ?c4 ?c5; (case kA => exact rfl); (case kF => exact rfl); (case kK => assumption); (case k1 => k_asm); (case k2 => k_asm); (case k3 => k_asm); (case k5 => k_asm); (case k6 => k_is); (case k7 => k_is); (case k8 => ktr_room); (case k9 => exact BindsTo.of_eq rfl); (case c5 => decide); (case kB => exact locs rfl); (case c2 => exact rfl); (case c3 => exact rfl); (case c4 => exact rfl); k_whole; intro L' h' F' N' B' X' T'; (try dsimp only); (try k_lift B'); (try k_fold)))
  w_strict k_steps
  all_goals refine back_ (by k_asm) (by k_asm) (fun kE => hret _ _ _ kE ?_)
  all_goals rename (List.lookup _ _ = _) => hx
  all_goals first | exact mkS (by rw [show b3P.lookup (cpOf a) = _ from hx]; rfl)
end Mine
end
/-! # Tfe2 -/
section
theorem Mine.reset_Tfe2 : True := by (w_top off); k_with_none; trivial
open PySem PySem.W PyProof.Rows
set_option Elab.async false
set_option maxRecDepth 100000
set_option maxHeartbeats 400000000
open PyProof.Rows.LCg PyProof.Rows.LCt
namespace Mine

/-- the row after a letter, and the places under it -/
noncomputable def afterP (goals row : PySem.Str) : PySem.Str := Txt.join (PySem.Str.ofString "") ((sgns (Txt.lower row)).map fun s => Txt.item goals (cpOf s - 97))
structure RowOk (row : PySem.Str) : Prop where
  len : row.length = 4
  low : (Txt.lower row).length = 4
  sg : ∀ s ∈ sgns (Txt.lower row), s.length = 1 ∧ 0 ≤ cpOf s - 97 ∧ cpOf s - 97 < 4
theorem after_w {goals row : PySem.Str} (h : RowOk row) : (((sgns (Txt.lower row)).map fun s => Txt.item goals (cpOf s - 97)).map (·.length)).sum + ((sgns (Txt.lower row)).map fun s => Txt.item goals (cpOf s - 97)).length ≤ 1048576 := by
  have e : (sgns (Txt.lower row)).length = 4 := by
    have := h.low
    unfold sgns
    rw [List.length_map, Array.length_toList]; exact this
  have e2 : ∀ l : List PySem.Str, ((l.map fun s => Txt.item goals (cpOf s - 97)).map (·.length)).sum = l.length := by
    intro l
    induction l with
    | nil => rfl
    | cons a l ih => simp only [List.map_cons, List.sum_cons, ih, List.length_cons]; show 1 + _ = _; omega
  rw [e2, List.length_map, e]; omega
theorem sgns_len {x : PySem.Str} (h : x.length = 4) : (sgns x).take 4 = sgns x := by
  apply List.take_of_length_le
  unfold sgns
  rw [List.length_map, Array.length_toList]; exact Nat.le_of_eq h
noncomputable def isInP (a b : PySem.Str) : Bool := !(Builtin.Str.occurrences b a 0 b.length 1).isEmpty
theorem isIn_t {a b : PySem.Str} (h : (Builtin.Str.occurrences b a 0 b.length 1).isEmpty = false) : isInP a b = true := by unfold isInP; rw [h]; rfl
theorem isIn_f {a b : PySem.Str} (h : (Builtin.Str.occurrences b a 0 b.length 1).isEmpty = true) : isInP a b = false := by unfold isInP; rw [h]; rfl
noncomputable def underP (a : PySem.Str) : PySem.Str := Txt.join (PySem.Str.ofString "") ((sgns (PySem.Str.ofString "abcd")).filter fun s => isInP s (Txt.lower a))
theorem under_w (q : PySem.Str → Bool) : (((sgns (PySem.Str.ofString "abcd")).filter q).map (·.length)).sum + ((sgns (PySem.Str.ofString "abcd")).filter q).length ≤ 1048576 := by
  have e : sgns (PySem.Str.ofString "abcd") = [⟨#[97]⟩, ⟨#[98]⟩, ⟨#[99]⟩, ⟨#[100]⟩] := by decide
  rw [e]
  have g : ∀ l : List PySem.Str, (∀ x ∈ l, x.length ≤ 1) → ((l.filter q).map (·.length)).sum + (l.filter q).length ≤ 2 * l.length := by
    intro l
    induction l with
    | nil => intro _; exact Nat.le_refl _
    | cons a l ih =>
      intro h
      have h1 := ih fun x hx => h x (List.mem_cons_of_mem _ hx)
      have h2 := h a (List.mem_cons_self ..)
      rw [List.filter_cons]
      split
      · simp only [List.map_cons, List.sum_cons, List.length_cons]; omega
      · simp only [List.length_cons]; omega
  refine Nat.le_trans (g _ ?_) (by decide)
  decide
theorem abcd_len : ∀ s ∈ sgns (PySem.Str.ofString "abcd"), s.length = 1 := by decide
theorem under_len (a : PySem.Str) : (underP a).length ≤ 4 := by
  have e : sgns (PySem.Str.ofString "abcd") = [⟨#[97]⟩, ⟨#[98]⟩, ⟨#[99]⟩, ⟨#[100]⟩] := by decide
  unfold underP
  rw [e]
  generalize (fun s => isInP s (Txt.lower a)) = q
  simp only [List.filter_cons, List.filter_nil]
  cases q ⟨#[97]⟩ <;> cases q ⟨#[98]⟩ <;> cases q ⟨#[99]⟩ <;> cases q ⟨#[100]⟩ <;> decide
noncomputable def halfP (goals row : PySem.Str) (st : List PySem.Str × List PySem.Str) : (PySem.Str × Nat) ⊕ (List PySem.Str × List PySem.Str) :=
  if (underP (afterP goals row)).length = 1 then .inl (afterP goals row, 1) else
  if st.2.any (· == underP (afterP goals row)) then .inr st else .inr (st.1 ++ [afterP goals row], st.2 ++ [underP (afterP goals row)])
noncomputable def leastP (held : List PySem.Str) : Nat := (held.map (·.length)).foldl min 4
noncomputable def firstP (rows held : List PySem.Str) : PySem.Str × Nat := (((((rows.zip held).take rows.length).filter fun p => p.2.length == leastP held).map (·.1)).getD 0 Str.empty, leastP held)
noncomputable def runP : Nat → PySem.Str → PySem.Str → Nat → List PySem.Str → List PySem.Str → Option (PySem.Str × Nat)
  | 0, _, _, _, _, _ => none
  | n + 1, red, blue, k, rows, held => if k < rows.length then
      match halfP red (rows.getD k Str.empty) (rows, held) with
      | .inl r => some r
      | .inr (r1, h1) => match halfP blue (rows.getD k Str.empty) (r1, h1) with
        | .inl r => some r
        | .inr (r2, h2) => runP n red blue (k + 1) r2 h2
    else some (firstP rows held)
theorem half_len {goals row : PySem.Str} {rp hp r2 h2 : List PySem.Str} (h : halfP goals row (rp, hp) = .inr (r2, h2)) : ∃ t u : List PySem.Str, r2 = rp ++ t ∧ h2 = hp ++ u ∧ t.length = u.length ∧ t.length ≤ 1 ∧ ∀ x ∈ t, x = afterP goals row := by
  unfold halfP at h
  split at h
  · cases h
  · split at h
    · cases h; exact ⟨[], [], by simp, by simp, rfl, by decide, fun _ hx => nomatch hx⟩
    · cases h; exact ⟨[_], [_], rfl, rfl, rfl, by simp, fun x hx => by simpa using hx⟩
theorem half_ret {goals row : PySem.Str} {rp hp : List PySem.Str} (h : ((underP (afterP goals row)).length : Int) = 1) : halfP goals row (rp, hp) = .inl (afterP goals row, 1) := by
  unfold halfP; rw [if_pos (by omega)]
theorem half_old {goals row : PySem.Str} {rp hp : List PySem.Str} (h : ((underP (afterP goals row)).length : Int) ≠ 1) (h2 : (hp.any fun x => x == underP (afterP goals row)) = true) : halfP goals row (rp, hp) = .inr (rp, hp) := by
  unfold halfP; rw [if_neg (by omega), if_pos h2]
theorem half_new {goals row : PySem.Str} {rp hp : List PySem.Str} (h : ((underP (afterP goals row)).length : Int) ≠ 1) (h2 : (hp.any fun x => x == underP (afterP goals row)) = false) : halfP goals row (rp, hp) = .inr (rp ++ [afterP goals row], hp ++ [underP (afterP goals row)]) := by
  unfold halfP; rw [if_neg (by omega), if_neg (by simp [h2])]
noncomputable def FewPure (red blue row : PySem.Str) (tr tb : Tok) (rp hp : List PySem.Str) (r : List (PySem.Str × Tok)) (rp' hp' : List PySem.Str) : Prop :=
  (r = [(red, tr), (blue, tb)] ∧ rp' = rp ∧ hp' = hp) ∨ (r = [(blue, tb)] ∧ halfP red row (rp, hp) = .inr (rp', hp')) ∨
  (r = [] ∧ ∃ r1 h1, halfP red row (rp, hp) = .inr (r1, h1) ∧ halfP blue row (r1, h1) = .inr (rp', hp'))
theorem run_pos {n k : Nat} {red blue : PySem.Str} {rp hp : List PySem.Str} {res : PySem.Str × Nat} (h : runP n red blue k rp hp = some res) : ∃ n', n = n' + 1 := by
  cases n with
  | zero => cases h
  | succ n => exact ⟨n, rfl⟩
theorem few_grow {red blue row : PySem.Str} {tr tb : Tok} {rp hp rp' hp' : List PySem.Str} {r : List (PySem.Str × Tok)} (h : FewPure red blue row tr tb rp hp r rp' hp') : ∃ t : List PySem.Str, rp' = rp ++ t ∧ t.length ≤ 2 := by
  rcases h with ⟨_, rfl, rfl⟩ | ⟨_, e1⟩ | ⟨_, r1, h1, e1, e2⟩
  · exact ⟨[], by simp, by decide⟩
  · obtain ⟨t, u, rfl, _, _, h1, _⟩ := half_len e1
    exact ⟨t, rfl, by omega⟩
  · obtain ⟨t, u, rfl, _, _, h1, _⟩ := half_len e1
    obtain ⟨t2, u2, rfl, _, _, h2, _⟩ := half_len e2
    exact ⟨t ++ t2, by simp, by simp; omega⟩
theorem getD_app {l t : List PySem.Str} {k : Nat} {d : PySem.Str} (h : k < l.length) : (l ++ t).getD k d = l.getD k d := by
  simp only [List.getD, List.getElem?_append_left h]
/-- a goal and what a half turn by it comes to -/
structure FewG (red blue row : PySem.Str) (tr tb : Tok) (rp hp : List PySem.Str) (g : PySem.Str) (r : List (PySem.Str × Tok)) (rp' hp' : List PySem.Str) (res : PySem.Str × Nat) (row' : PySem.Str) : Prop where
  len : g.length = 4
  ok : ∀ x, RowOk x → RowOk (afterP g x)
  ret : ∀ x, halfP g row' (rp', hp') = .inl x → res = x
  next : ∀ r2 h2, halfP g row' (rp', hp') = .inr (r2, h2) → FewPure red blue row tr tb rp hp r r2 h2
theorem few_item {red blue : PySem.Str} {tr tb : Tok} {rp hp rp' hp' : List PySem.Str} {a : PySem.Str × Tok} {r : List (PySem.Str × Tok)} {n k : Nat} {res : PySem.Str × Nat} (h : FewPure red blue (rp.getD k Str.empty) tr tb rp hp (a :: r) rp' hp') (hr4 : red.length = 4) (hb4 : blue.length = 4)
    (hcr : ∀ x, RowOk x → RowOk (afterP red x)) (hcb : ∀ x, RowOk x → RowOk (afterP blue x)) (hrun : runP n red blue k rp hp = some res) (hk : k < rp.length) : FewG red blue (rp.getD k Str.empty) tr tb rp hp a.1 r rp' hp' res (rp.getD k Str.empty) := by
  obtain ⟨n, rfl⟩ := run_pos hrun
  simp only [runP, hk, if_true] at hrun
  rcases h with ⟨e, rfl, rfl⟩ | ⟨e, e1⟩ | ⟨e, _⟩
  · cases e
    refine ⟨hr4, hcr, fun x hx => ?_, fun r2 h2 hx => .inr (.inl ⟨rfl, hx⟩)⟩
    rw [hx] at hrun; exact (Option.some.inj hrun).symm
  · cases e
    refine ⟨hb4, hcb, fun x hx => ?_, fun r2 h2 hx => .inr (.inr ⟨rfl, _, _, e1, hx⟩)⟩
    rw [e1] at hrun
    simp only [hx] at hrun; exact (Option.some.inj hrun).symm
  · cases e
theorem few_post {h₀ h' : Heap} {L D : Addr} {news : List (Addr × Obj)} {res r : PySem.Str × Nat} {t1 t2 : Tok} (e : res = r) (N : News h₀ L h' news) (hm : (D, ({ cls := .type "tuple", data := .seq #[.str r.1 t1, .int (r.2 : Int) t2] } : Obj)) ∈ news) :
    ∃ a t1 t2, Value.ref D = .ref a ∧ NewL h₀ h' [(a, { cls := .type "tuple", data := .seq #[.str res.1 t1, .int res.2 t2] })] := by
  subst e
  exact ⟨D, t1, t2, rfl, NewL.of N (List.forall_mem_cons.mpr ⟨hm, List.forall_mem_nil _⟩)⟩
theorem few_drop {g h : Heap} {L : Addr} {a b : Addr × Obj} {l : List (Addr × Obj)} (N : News g L h (a :: b :: l)) : News g L h l := news_tl (news_tl N)
theorem few_push {g h : Heap} {L Dh Dr : Addr} {a b it Dt : Addr × Obj} {hv rv : List Value} {x y : Value} {n m : Nat} {l : List (Addr × Obj)} (N : News g L h (a :: b :: it :: Dt :: (Dh, W.listOf (hv.toArray.push x) n) :: (Dr, W.listOf (rv.toArray.push y) m) :: l)) : News g L h (it :: Dt :: (Dh, W.listOf (hv ++ [x]).toArray n) :: (Dr, W.listOf (rv ++ [y]).toArray m) :: l) := by
  rw [List.push_toArray, List.push_toArray] at N
  exact few_drop N
theorem all_snoc {P : PySem.Str → Prop} {l : List PySem.Str} {y : PySem.Str} (h : ∀ x ∈ l, P x) (hy : P y) : ∀ x ∈ l ++ [y], P x := fun x hx => by
  rcases List.mem_append.mp hx with hx | hx
  · exact h x hx
  · rw [List.mem_singleton.mp hx]; exact hy
theorem len_snoc {a b : List PySem.Str} {x y : PySem.Str} (h : a.length = b.length) : (a ++ [x]).length = (b ++ [y]).length := by simp [h]
theorem few_less {n k : Nat} {red blue : PySem.Str} {rp hp : List PySem.Str} {res : PySem.Str × Nat} (h : runP n red blue k rp hp = some res) : n - 1 < n := by
  obtain ⟨n, rfl⟩ := run_pos h
  exact Nat.lt_succ_self n
theorem few_len {red blue row : PySem.Str} {tr tb : Tok} {rp hp rp' hp' : List PySem.Str} {r : List (PySem.Str × Tok)} {n k : Nat} {res : PySem.Str × Nat} (h : FewPure red blue row tr tb rp hp r rp' hp') (hr : runP n red blue k rp hp = some res) (hl : rp.length + 2 * n ≤ 64) : rp'.length + 2 * (n - 1) ≤ 64 := by
  obtain ⟨n, rfl⟩ := run_pos hr
  obtain ⟨t, e, ht⟩ := few_grow h
  rw [e, List.length_append]; omega
theorem few_one {red blue row : PySem.Str} {tr tb : Tok} {rp hp rp' hp' : List PySem.Str} {r : List (PySem.Str × Tok)} (h : FewPure red blue row tr tb rp hp r rp' hp') (hl : 1 ≤ rp.length) : 1 ≤ rp'.length := by
  obtain ⟨t, e, ht⟩ := few_grow h
  rw [e, List.length_append]; omega
/-- the facts of a half turn, the row as the walk reads it -/
structure FewT (red blue row : PySem.Str) (tr tb : Tok) (rp hp : List PySem.Str) (g : PySem.Str) (r : List (PySem.Str × Tok)) (rp' hp' : List PySem.Str) (res : PySem.Str × Nat) (k : Nat) : Prop where
  G : FewG red blue row tr tb rp hp g r rp' hp' res (rp'.getD (k : Int).toNat Str.empty)
  lt : (k : Int) < (rp'.length : Int)
  ok : RowOk (rp'.getD (k : Int).toNat Str.empty)
  few : rp'.length ≤ 100
theorem few_turn {red blue : PySem.Str} {tr tb : Tok} {rp hp rp' hp' : List PySem.Str} {a : PySem.Str × Tok} {r : List (PySem.Str × Tok)} {n k : Nat} {res : PySem.Str × Nat} (h : FewPure red blue (rp.getD k Str.empty) tr tb rp hp (a :: r) rp' hp') (hr4 : red.length = 4) (hb4 : blue.length = 4)
    (hcr : ∀ x, RowOk x → RowOk (afterP red x)) (hcb : ∀ x, RowOk x → RowOk (afterP blue x)) (hrun : runP n red blue k rp hp = some res) (hk : (k : Int) < (rp.length : Int)) (hrl : rp.length ≤ 64) (hrows : ∀ x ∈ rp', RowOk x) : FewT red blue (rp.getD k Str.empty) tr tb rp hp a.1 r rp' hp' res k := by
  have hk' : k < rp.length := by omega
  obtain ⟨t, e, ht⟩ := few_grow h
  have hl : (k : Int) < (rp'.length : Int) := by rw [e, List.length_append]; omega
  have hrow : rp'.getD (k : Int).toNat Str.empty = rp.getD k Str.empty := by rw [e, Int.toNat_natCast]; exact getD_app hk'
  have G := few_item h hr4 hb4 hcr hcb hrun hk'
  rw [← hrow] at G
  refine ⟨hrow ▸ G, hl, hrows _ (strs_getD_mem (by omega)), by rw [e, List.length_append]; omega⟩
theorem few_next {red blue : PySem.Str} {tr tb : Tok} {rp hp rp' hp' : List PySem.Str} {n k : Nat} {res : PySem.Str × Nat} (h : FewPure red blue (rp.getD k Str.empty) tr tb rp hp [] rp' hp') (hrun : runP n red blue k rp hp = some res) (hk : k < rp.length) :
    runP (n - 1) red blue (k + 1) rp' hp' = some res := by
  obtain ⟨n, rfl⟩ := run_pos hrun
  simp only [runP, hk, if_true] at hrun
  rcases h with ⟨e, _⟩ | ⟨e, _⟩ | ⟨_, r1, h1, e1, e2⟩
  · cases e
  · cases e
  · rw [e1] at hrun
    simp only [e2] at hrun
    exact hrun
theorem few_end {red blue : PySem.Str} {rp hp : List PySem.Str} {n k : Nat} {res : PySem.Str × Nat} (h : runP n red blue k rp hp = some res) (hk : ¬ k < rp.length) : res = firstP rp hp := by
  cases n with
  | zero => cases h
  | succ n =>
    simp only [runP, hk, if_false] at h
    exact (Option.some.inj h).symm
theorem abcd_ok : RowOk (PySem.Str.ofString "abcd") := ⟨by decide, by decide, by decide⟩
theorem ints_snoc {α : Type} {ys : List Value} {l : List α} {f : α → Int} {i : Nat} {c : α} {t : Tok} (h : IntsAre ys ((l.take i).map f)) (hc : l[i]? = some c) : IntsAre (ys ++ [.int (f c) t]) ((l.take (i + 1)).map f) := by
  rw [List.take_add_one, hc, Option.toList_some, List.map_append]
  exact IntsAre.append h (IntsAre.cons _ _ .nil)
theorem range_small64 : ((List.range 65).all fun n => Builtin.Range.small 0 ((n : Nat) : Int) 1) = true := by decide +kernel
theorem range_small {n : Nat} (h : n ≤ 64) : Builtin.Range.small 0 (n : Int) 1 = true := by
  have z := range_small64
  simp only [List.all_eq_true, List.mem_range] at z
  exact z n (by omega)
theorem range_n (n : Nat) : Builtin.Range.rangeSize 0 (n : Int) 1 = ((n : Nat) : Int) := by
  unfold Builtin.Range.rangeSize
  rw [if_pos (by decide)]
  split
  · rw [Int.ediv_one]; omega
  · omega
theorem fold_min : ∀ (l : List Nat) (a : Nat), l.foldl min a ≤ a ∧ (∀ x ∈ l, l.foldl min a ≤ x) ∧ (l.foldl min a = a ∨ l.foldl min a ∈ l)
  | [], a => ⟨Nat.le_refl _, fun _ h => (nomatch h), .inl rfl⟩
  | b :: l, a => by
    obtain ⟨h1, h2, h3⟩ := fold_min l (min a b)
    refine ⟨Nat.le_trans h1 (Nat.min_le_left _ _), fun x hx => ?_, ?_⟩
    · rcases List.mem_cons.mp hx with rfl | hx
      · exact Nat.le_trans h1 (Nat.min_le_right _ _)
      · exact h2 x hx
    · show l.foldl min (min a b) = a ∨ l.foldl min (min a b) ∈ b :: l
      rcases h3 with h3 | h3
      · rw [h3]
        rcases Nat.le_total a b with h | h
        · exact .inl (Nat.min_eq_left h)
        · rw [Nat.min_eq_right h]; exact .inr (List.mem_cons_self ..)
      · exact .inr (List.mem_cons_of_mem _ h3)
theorem least_some {rp hp : List PySem.Str} (hl : rp.length = hp.length) (h4 : ∀ x ∈ hp, x.length ≤ 4) (h1 : 1 ≤ rp.length) : 0 < (((rp.zip hp).take rp.length).filter fun p => p.2.length == leastP hp).length := by
  have e : (rp.zip hp).take rp.length = rp.zip hp := List.take_of_length_le (by rw [List.length_zip]; omega)
  rw [e]
  obtain ⟨g1, g2, g3⟩ := fold_min (hp.map (·.length)) 4
  have hx : ∃ u ∈ hp, u.length = leastP hp := by
    rcases g3 with g3 | g3
    · cases hp with
      | nil => exact absurd h1 (by rw [hl]; decide)
      | cons u r =>
        refine ⟨u, List.mem_cons_self .., ?_⟩
        have a1 := g2 u.length (List.mem_map_of_mem (List.mem_cons_self ..))
        have a2 := h4 u (List.mem_cons_self ..)
        show u.length = _
        unfold leastP
        omega
    · obtain ⟨u, hu, e⟩ := List.mem_map.mp g3
      exact ⟨u, hu, e⟩
  obtain ⟨u, hu, e2⟩ := hx
  obtain ⟨i, hi, rfl⟩ := List.getElem_of_mem hu
  have hz : (rp[i]'(by omega), hp[i]) ∈ rp.zip hp := by
    rw [← List.getElem_zip (l := rp) (l' := hp) (i := i) (h := by rw [List.length_zip]; omega)]
    exact List.getElem_mem _
  exact List.length_pos_of_mem (List.mem_filter.mpr ⟨hz, by simpa using e2⟩)
theorem zip_at {rp hp : List PySem.Str} {i : Nat} (hl : rp.length = hp.length) (hi : i < rp.length) : (rp.zip hp)[i]? = some (rp.getD ((0 : Int) + (i : Int)).toNat Str.empty, hp.getD ((0 : Int) + (i : Int)).toNat Str.empty) := by
  have e : ((0 : Int) + (i : Int)).toNat = i := by omega
  rw [e, List.getElem?_eq_getElem (by rw [List.length_zip]; omega), List.getElem_zip]
  simp only [List.getD, List.getElem?_eq_getElem hi, List.getElem?_eq_getElem (show i < hp.length by omega), Option.getD_some]
theorem zip_in {rp hp : List PySem.Str} {i n : Nat} {ys : List Value} {t : Tok} (hl : rp.length = hp.length) (hi : i < rp.length) (h : StrsAre ys ((((rp.zip hp).take i).filter fun p => p.2.length == n).map (·.1)))
    (hq : ((hp.getD ((0 : Int) + (i : Int)).toNat Str.empty).length : Int) = (n : Int)) : StrsAre (ys ++ [.str (rp.getD ((0 : Int) + (i : Int)).toNat Str.empty) t]) ((((rp.zip hp).take (i + 1)).filter fun p => p.2.length == n).map (·.1)) := by
  rw [List.take_add_one, zip_at hl hi, Option.toList_some, List.filter_append, List.filter_cons_of_pos (by simpa using (by omega : (hp.getD ((0 : Int) + (i : Int)).toNat Str.empty).length = n)), List.map_append]
  exact StrsAre.append' h (StrsAre.cons _ _ .nil)
theorem zip_out {rp hp : List PySem.Str} {i n : Nat} {ys : List Value} (hl : rp.length = hp.length) (hi : i < rp.length) (h : StrsAre ys ((((rp.zip hp).take i).filter fun p => p.2.length == n).map (·.1)))
    (hq : ((hp.getD ((0 : Int) + (i : Int)).toNat Str.empty).length : Int) ≠ (n : Int)) : StrsAre ys ((((rp.zip hp).take (i + 1)).filter fun p => p.2.length == n).map (·.1)) := by
  rw [List.take_add_one, zip_at hl hi, Option.toList_some, List.filter_append, List.filter_cons_of_neg (by simpa using (by omega : (hp.getD ((0 : Int) + (i : Int)).toNat Str.empty).length ≠ n))]
  simpa using h
theorem least_eq {hp : List PySem.Str} {M : Int} (h4 : ∀ x ∈ hp, x.length ≤ 4) (a : M ∈ hp.map fun u => (u.length : Int)) (b : ∀ a, a ∈ (hp.map fun u => (u.length : Int)) → M ≤ a) : M = ((leastP hp : Nat) : Int) := by
  obtain ⟨h1, h2, h3⟩ := fold_min (hp.map (·.length)) 4
  obtain ⟨u, hu, rfl⟩ := List.mem_map.mp a
  have e1 : leastP hp ≤ u.length := h2 _ (List.mem_map_of_mem hu)
  have e2 : u.length ≤ leastP hp := by
    rcases h3 with h3 | h3
    · show u.length ≤ (hp.map (·.length)).foldl min 4
      rw [h3]; exact h4 u hu
    · obtain ⟨x, hx, e⟩ := List.mem_map.mp h3
      have := b _ (List.mem_map_of_mem (f := fun u : PySem.Str => (u.length : Int)) hx)
      show u.length ≤ (hp.map (·.length)).foldl min 4
      rw [← e]; omega
  have : u.length = leastP hp := by omega
  rw [this]
noncomputable abbrev nf := PySem.Str.ofString
/-- what the search of the fewest keeps -/
inductive JF (red blue : PySem.Str) (tr tb : Tok) (res : PySem.Str × Nat) (Dh Dr L : Addr) (o5 o2 o1 : Obj) (n : Nat) : (PySem.Str → Option Value) → List (Addr × Obj) → Prop
  | mk (og oa : Obj) (rv hv : List Value) (rn hn : Nat) (rp hp : List PySem.Str) (k : Nat) (kt : Tok) (vg va : Option Value) (m : PySem.Str → Option Value) : og.data = .cell vg → oa.data = .cell va → StrsAre rv rp → StrsAre hv hp → (∀ x ∈ rp, RowOk x) → rp.length = hp.length → rp.length + 2 * n ≤ 64 → (∀ x ∈ hp, x.length ≤ 4) → 1 ≤ rp.length → runP n red blue k rp hp = some res →
    m (nf "k") = some (.int (k : Int) kt) → m (nf "red") = some (.str red tr) → m (nf "blue") = some (.str blue tb) →
    JF red blue tr tb res Dh Dr L o5 o2 o1 n m ((Dh, W.listOf hv.toArray hn) :: (Dr, W.listOf rv.toArray rn) :: (L + 1 + 1 + 1 + 1 + 1, o5) :: (L + 1 + 1 + 1 + 1, oa) :: (L + 1 + 1 + 1, og) :: (L + 1 + 1, o2) :: (L + 1, o1) :: [])
/-- and what it ends with -/
inductive JD (res : PySem.Str × Nat) (Dh Dr L : Addr) (o5 o2 o1 : Obj) (n : Nat) : (PySem.Str → Option Value) → List (Addr × Obj) → Prop
  | mk (og oa : Obj) (rv hv : List Value) (rn hn : Nat) (rp hp : List PySem.Str) (m : PySem.Str → Option Value) : StrsAre rv rp → StrsAre hv hp → rp.length = hp.length → rp.length ≤ 64 → (∀ x ∈ hp, x.length ≤ 4) → 1 ≤ rp.length → res = firstP rp hp →
    JD res Dh Dr L o5 o2 o1 n m ((Dh, W.listOf hv.toArray hn) :: (Dr, W.listOf rv.toArray rn) :: (L + 1 + 1 + 1 + 1 + 1, o5) :: (L + 1 + 1 + 1 + 1, oa) :: (L + 1 + 1 + 1, og) :: (L + 1 + 1, o2) :: (L + 1, o1) :: [])
/-- what the two goals' loop keeps -/
inductive FJ (red blue row : PySem.Str) (tr tb : Tok) (rp hp : List PySem.Str) (k : Nat) (kt : Tok) (Dt : Addr × Obj) (Dh Dr L : Addr) (o5 o2 o1 : Obj) (l : List (PySem.Str × Tok)) : (PySem.Str → Option Value) → List (Addr × Obj) → Prop
  | mk (og oa : Obj) (rv hv : List Value) (rn hn : Nat) (rp' hp' : List PySem.Str) (vg va : Option Value) (m : PySem.Str → Option Value) : og.data = .cell vg → oa.data = .cell va → StrsAre rv rp' → StrsAre hv hp' → (∀ x ∈ rp', RowOk x) → rp'.length = hp'.length → (∀ x ∈ hp', x.length ≤ 4) → FewPure red blue row tr tb rp hp l rp' hp' →
    m (nf "k") = some (.int (k : Int) kt) → m (nf "red") = some (.str red tr) → m (nf "blue") = some (.str blue tb) →
    FJ red blue row tr tb rp hp k kt Dt Dh Dr L o5 o2 o1 l m (Dt :: (Dh, W.listOf hv.toArray hn) :: (Dr, W.listOf rv.toArray rn) :: (L + 1 + 1 + 1 + 1 + 1, o5) :: (L + 1 + 1 + 1 + 1, oa) :: (L + 1 + 1 + 1, og) :: (L + 1 + 1, o2) :: (L + 1, o1) :: [])
section
theorem t_few (w : World) {p : Program} {loose : List PySem.Str} {mean : ExcName → Option Value} {mg mb : PySem.Str → Option Value} (red blue : PySem.Str) (tr tb : Tok) (hr4 : red.length = 4) (hb4 : blue.length = 4) (hcr : ∀ x, RowOk x → RowOk (afterP red x)) (hcb : ∀ x, RowOk x → RowOk (afterP blue x)) (res : PySem.Str × Nat) (hrun : runP 20 red blue 0 [PySem.Str.ofString "abcd"] [PySem.Str.ofString "abcd"] = some res) :
    Cl w p loose mean mg mb PySem.Challenge.rw_to0087_01 335 12 [.str red tr, .str blue tb] (fun _ => True) (fun h v h' => ∃ a t1 t2, v = .ref a ∧ NewL h h' [(a, { cls := .type "tuple", data := .seq #[.str res.1 t1, .int res.2 t2] })]) := by
  k_with_none
  k_with "k_ne" => first | with_reducible assumption | exact ne_old (by with_reducible assumption) (by k_mem) | exact ne_new (by with_reducible assumption) (by k_mem) | exact off1_get (by with_reducible assumption) (by k_mem) | exact Ne.symm (off1_get (by with_reducible assumption) (by k_mem)) | exact Nat.ne_of_lt (lt_1 _) | exact Nat.ne_of_gt (lt_1 _) | exact Nat.ne_of_lt (lt_2 _) | exact Nat.ne_of_gt (lt_2 _) | exact Nat.ne_of_lt (lt_3 _) | exact Nat.ne_of_gt (lt_3 _) | exact Nat.ne_of_lt (lt_4 _) | exact Nat.ne_of_gt (lt_4 _) | (refine neN ?_; (try dsimp only); omega)
  k_with "k_lt0" => skip
  k_with "exec While Compare cons nil" => (k_here; refine halt ?_)
  k_with "ItemsRest" => (k_here; refine halt ?_)
  k_with "eval ListComp" => (k_here; first | ((with_reducible show wpAny _ _ (eval (Expr.ListComp _ [⟨_, Expr.Name _ _, [], _⟩] _ _) _) _ _ _); k_dflt refine LCg.ListComp_U (F₀ := by k_asm) (by with_unfolding_all rfl) (by decide) (by rfl) (by decide) (by rfl) ?_) | ((with_reducible show wpAny _ _ (eval (Expr.ListComp _ [⟨_, Expr.Call (Expr.Name _ _) _ _ _, [_], _⟩] _ _) _) _ _ _); k_dflt refine LCt.ListComp_T (F₀ := by k_asm) (by with_unfolding_all rfl) (by decide) (by rfl) (by decide) (by rfl) ?_) | ((with_reducible show wpAny _ _ (eval (Expr.ListComp _ [⟨_, _, [], _⟩] _ _) _) _ _ _); k_dflt refine ListComp_SU (F₀ := by k_asm) (by with_unfolding_all rfl) (by decide) (by rfl) (by decide) (by rfl) ?_) | k_dflt (refine ListComp_ST (F₀ := by k_asm) (by with_unfolding_all rfl) (by decide) (by rfl) (by decide) (by rfl) ?_))
  k_with "SrcS" => (k_here; (refine SrcS.intro (by rfl) (by k_asm) (by k_asm) rfl (by first | assumption | rfl) (by decide) ?_); intro g'; (try dsimp only); refine halt ?_)
  k_with "call builtin:str.join" => (k_here; k_dflt (refine join_listW (News.isList (by k_asm) (by k_mem)) (by assumption) (by decide) (by assumption) ?_; intro t8 k8))
  k_with "subscriptTail Name Name ref int" => (k_here; k_dflt (first | (refine item_strsA (News.isList (by k_asm) (by k_mem)) (by assumption) (by omega) (by first | assumption | omega) (by omega) ?_; intro t7')))
  k_with "CompEnd" => first | (refine end_keep (by k_asm) (by k_asm) (by assumption) trivial ?_) | (refine end_keep (by k_asm) (by k_asm) (by assumption) (Or.inr ⟨_, by k_mem, rfl, _, rfl⟩) ?_)
  k_with "subscriptTail Name Constant ref int" => (k_here; refine halt ?_)
  k_with "call builtin:min" => (k_here; refine halt ?_)
  k_with "CompSrc" => (k_here; k_dflt (refine LCg.CompSrc.ledger (by rfl) (by k_asm) (by k_asm) (by k_mem) (by assumption) ?_; intro g'; (try dsimp only); refine halt ?_))
  k_with "CompSrcT" => (k_here; refine halt ?_)
  k_with "FinE" => ((unfold LCg.FinE); intro D' h' tk' F' N' o1'; (try simp only [List.nil_append, List.cons_append] at N'); (try dsimp only))
  k_with "eval Name" => (k_here; k_dflt (refine' nameX_via ?zk1 ?zk2 ?zk3 ?_; (case zk1 => k_asm); (case zk2 => with_reducible assumption); (case zk3 => rfl); k_whole))
  k_with "loadName" => (k_here; k_dflt (refine' loadX_via ?zk1 ?zk2 ?zk3 ?_; (case zk1 => k_asm); (case zk2 => with_reducible assumption); (case zk3 => rfl); k_whole))
  k_dflt (refine' Cl.enterC5 (binds := [(nf "red", .str red tr), (nf "blue", .str blue tb)]) (m₀ := fun y => if y = nf "blue" then some (.str blue tb) else if y = nf "red" then some (.str red tr) else none) (v1 := none) (v2 := none) (v3 := none) (v4 := none) (v5 := none) ?ho ?hcd ?hr ?hb ?hkd ?hnd ?c2 ?c3 ?c4 ?hcf ?hm ?hcm ?h)
  all_goals (try k_fill)
  case ho => k_is
  case hcd => k_is
  case hr => decide
  case hb => exact fun s => BindsTo.of_eq rfl
  case hkd => exact rfl
  case hnd => decide +kernel
  case c2 => exact rfl
  case c3 => exact rfl
  case c4 => exact rfl
  case hcf => exact fun _ => rfl
  case hm => exact fun _ => rfl
  case hcm => exact fun _ => ⟨rfl, rfl, rfl, rfl, rfl⟩
  case h =>
  intro dp un gd outer A₀ base g' h₁ L' tk gs dr os Rr o1 o2 o3 o4 o5 hdp hun B' X' T' _ hback d1 d2 d3 d4 d5 F' N'
  w_strict k_steps
  unfold Halt
  refine' while_il (k₀ := 20) (JF red blue tr tb res ?zDh ?zDr L' o5 ?zo2 ?zo1) (JD res ?zDh ?zDr L' o5 ?zo2 ?zo1) (by k_asm) (by k_asm) (fun _ h => h) (JF.mk o3 o4 [.str (nf "abcd") _] [.str (nf "abcd") _] 0 0 [nf "abcd"] [nf "abcd"] 0 _ none none _ d3 d4 (StrsAre.cons _ _ .nil) (StrsAre.cons _ _ .nil) (by intro x hx; rw [List.mem_singleton.mp hx]; exact abcd_ok) rfl (Nat.le_of_ble_eq_true rfl) (by intro x hx; rw [List.mem_singleton.mp hx]; exact Nat.le_of_ble_eq_true rfl) (Nat.le_refl 1) hrun (by rfl) (by rfl) (by rfl)) ?turn ?done
  case turn =>
    intro n m1 n1 hJ
    cases hJ with
    | mk og oa rv hv rn hn rp hp k kt vg va m eg ea qr qh hrows hlen hfew hheld hsome hP mk1 mk2 mk3 =>
    intro h1 gs1 dr1 tk1 os1 R1 R10 hend1 hret1 hdone1 F1 N1
    have hrl : rp.length ≤ 64 := Nat.le_trans (Nat.le_add_right _ _) hfew
    have kr : Halt (StrsAre rv rp) := qr
    have kq : Halt (StrsAre hv hp) := qh
    w_strict k_steps
    · have hk1 : (k : Int) < (rp.length : Int) := by assumption
      unfold Halt
      refine items_i1r (fun q : PySem.Str × Tok => .val (.str q.1 q.2)) (fun q _ => .str q.1 q.2) (fun _ => FJ red blue (rp.getD k Str.empty) tr tb rp hp k kt _ _ _ L' o5 _ _) [(red, tr), (blue, tb)] L' rfl rfl is_val (FJ.mk og oa rv hv rn hn rp hp vg va _ eg ea kr kq hrows hlen hheld (.inl ⟨rfl, rfl, rfl⟩) mk1 mk2 mk3) ?step ?sdone
      case step =>
        intro x6 r6 m6 n6 hJ6
        cases hJ6 with
        | mk og6 oa6 rv6 hv6 rn6 hn6 rp6 hp6 vg6 va6 m eg6 ea6 qr6 qh6 hrows6 hlen6 hheld6 hpure mk16 mk26 mk36 =>
        intro _ h6 gs6 dr6 tk6 os6 oI6 R6 cI6 hend6 hret6 F6 N6
        have kr6 : Halt (StrsAre rv6 rp6) := qr6
        have kq6 : Halt (StrsAre hv6 hp6) := qh6
        have hT := few_turn hpure hr4 hb4 hcr hcb hP hk1 hrl hrows6
        have hg4 := hT.G.len
        have hkr := hT.lt
        have hfew6 := hT.few
        have hro4 := hT.ok.len
        have hrl4 := hT.ok.low
        w_strict k_steps
        unfold Halt
        have hw := after_w (goals := x6.1) hT.ok
        refine rest_il (n := 4) (fun i ys => StrsAre ys (((sgns (Txt.lower (rp6.getD (k : Int).toNat Str.empty))).take i).map fun s => Txt.item x6.1 (cpOf s - 97))) trivial .nil ?rf7 ?rs7
        case rs7 =>
          intro i7 hi7 ys7 hG7 v7 hv7 I7 oI7 C7 oC7 D7 m7 h7 gs7 dr7 tk7 os7 E7 R7 hC7 hx7 F7 N7 off7 ne7 hin7
          obtain ⟨c9, t9, hc9, rfl⟩ := hv7
          obtain ⟨z1, z2, z3⟩ := hT.ok.sg c9 (List.mem_of_getElem? hc9)
          have z2 : 0 ≤ ((c9.cps.getD 0 0 : Nat) : Int) - 97 := z2
          have z3 : ((c9.cps.getD 0 0 : Nat) : Int) - 97 < 4 := z3
          w_strict k_steps
          all_goals exact hin7 _ _ _ (by k_asm) (by k_asm) (strs_snoc (f := fun s => Txt.item x6.1 (cpOf s - 97)) hG7 hc9)
        case rf7 =>
          intro ys7 hG7
          rw [sgns_len hrl4] at hG7
          w_strict k_steps
          unfold Halt
          have hw2 := under_w fun s => isInP s (Txt.lower (afterP x6.1 (rp6.getD (k : Int).toNat Str.empty)))
          refine restT_il (n := 4) (fun i ys => StrsAre ys (((sgns (PySem.Str.ofString "abcd")).take i).filter fun s => isInP s (Txt.lower (afterP x6.1 (rp6.getD (k : Int).toNat Str.empty))))) trivial .nil ?rf8 ?rs8
          case rs8 =>
            intro i8 hi8 ys8 hG8 v8 hv8 I8 oI8 C8 oC8 D8 m8 h8 gs8 dr8 tk8 os8 E8 R8 R80 hC8 hx8 F8 N8 off8 ne8 hin8 hout8
            obtain ⟨c9, t9, hc9, rfl⟩ := hv8
            have z1 := abcd_len c9 (List.mem_of_getElem? hc9)
            have al4 : (Txt.join (PySem.Str.ofString "") (List.map (fun s => Txt.item x6.1 (cpOf s - 97)) (sgns (Txt.lower (rp6.getD (k : Int).toNat Str.empty))))).length = 4 := (hT.G.ok _ hT.ok).len
            w_strict k_steps
            all_goals first | (refine hin8 _ _ _ (by k_asm) (by k_asm) ?_; exact strs_in hG8 hc9 (isIn_t (by assumption))) | (refine hout8 _ _ (by k_asm) (by k_asm) ?_; exact strs_out hG8 hc9 (isIn_f (by assumption)))
          case rf8 =>
            intro ys8 hG8
            have hu4 : (Txt.join (PySem.Str.ofString "") (List.filter (fun s => isInP s (Txt.lower (afterP x6.1 (rp6.getD (k : Int).toNat Str.empty)))) (sgns (PySem.Str.ofString "abcd")))).length ≤ 4 := under_len (afterP x6.1 (rp6.getD (k : Int).toNat Str.empty))
            rw [show (sgns (PySem.Str.ofString "abcd")).take 4 = sgns (PySem.Str.ofString "abcd") from rfl] at hG8
            w_strict k_steps
            · have e1 := hT.G.ret _ (half_ret (by assumption))
              refine hret6 _ _ _ (hret1 _ _ _ ?_)
              exact hback _ _ _ _ _ _ (by k_asm) (by k_asm) (few_post e1 (by k_asm) List.mem_cons_self)
            · exact hend6 _ _ _ _ (by k_asm) (few_drop (by k_asm)) (off_map (by with_reducible assumption) (by rfl)) ⟨List.mem_cons_self, trivial⟩ (FJ.mk _ _ rv6 hv6 rn6 hn6 rp6 hp6 _ _ _ (by with_reducible assumption) (by with_reducible assumption) kr6 kq6 hrows6 hlen6 hheld6 (hT.G.next _ _ (half_old (by assumption) (by assumption))) (by exact mk16) (by exact mk26) (by exact mk36))
            · exact hend6 _ _ _ _ (by k_asm) (few_push (by k_asm)) (off_map (by with_reducible assumption) (by rfl)) ⟨List.mem_cons_self, trivial⟩ (FJ.mk _ _ (rv6 ++ [_]) (hv6 ++ [_]) (rn6 + 1) (hn6 + 1) (rp6 ++ [_]) (hp6 ++ [_]) _ _ _ (by with_reducible assumption) (by with_reducible assumption) (StrsAre.append' kr6 (StrsAre.cons _ _ .nil)) (StrsAre.append' kq6 (StrsAre.cons _ _ .nil)) (all_snoc hrows6 (hT.G.ok _ hT.ok)) (len_snoc hlen6) (all_snoc hheld6 hu4) (hT.G.next _ _ (half_new (by assumption) (by assumption))) (by exact mk16) (by exact mk26) (by exact mk36))
      case sdone =>
        intro m6 n6 hJ6
        cases hJ6 with
        | mk og6 oa6 rv6 hv6 rn6 hn6 rp6 hp6 vg6 va6 m eg6 ea6 qr6 qh6 hrows6 hlen6 hheld6 hpure mk16 mk26 mk36 =>
        intro h6 tk6 F6 N6
        have kr6 : Halt (StrsAre rv6 rp6) := qr6
        have kq6 : Halt (StrsAre hv6 hp6) := qh6
        w_strict k_steps
        have hk' : k < rp.length := Int.ofNat_lt.mp hk1
        exact hend1 (n - 1) _ _ _ _ (few_less hP) (by k_asm) (news_tl (by k_asm)) (JF.mk og6 oa6 rv6 hv6 rn6 hn6 rp6 hp6 (k + 1) _ vg6 va6 _ eg6 ea6 kr6 kq6 hrows6 hlen6 (few_len hpure hP hfew) hheld6 (few_one hpure hsome) (few_next hpure hP hk') (by rfl) (by exact mk26) (by exact mk36))
    · exact hdone1 _ _ (by k_asm) (by k_asm) (JD.mk _ _ _ _ _ _ _ _ _ kr kq hlen hrl hheld hsome (few_end hP (by omega)))
  case done =>
    intro n m1 n1 hD
    cases hD with
    | mk og oa rv hv rn hn rp hp m qr qh hlen h64 hheld hsome hres =>
    intro h1 tk1 F1 N1
    (try dsimp only)
    have kr : Halt (StrsAre rv rp) := qr
    have kq : Halt (StrsAre hv hp) := qh
    have hl : hv.length = hp.length := qh.len_eq
    have hsz : hv.toArray.size ≤ sizeLine := by rw [List.size_toArray, hl, ← hlen]; exact Nat.le_trans h64 (by decide)
    w_strict k_steps
    unfold Halt
    refine rest_il (fun i ys => IntsAre ys ((hp.take i).map fun u => (u.length : Int))) (Or.inr ⟨_, by k_mem, rfl, _, rfl⟩) .nil ?rf6 ?rs6
    case rs6 =>
      intro i6 hi6 ys6 hG6 v6 hv6 I6 oI6 C6 oC6 D6 m6 h6 gs6 dr6 tk6 os6 E6 R6 hC6 hx6 F6 N6 off6 ne6 hin6
      obtain ⟨y9, t9, rfl, hy9⟩ := StrsAre.item kq i6 _ (by simpa using hv6)
      have z1 := hheld y9 (List.mem_of_getElem? hy9)
      w_strict k_steps
      exact hin6 _ _ _ (by k_asm) (by k_asm) (ints_snoc (f := fun u : PySem.Str => (u.length : Int)) hG6 hy9)
    case rf6 =>
      intro ys6 hG6
      rw [List.size_toArray, hl, List.take_length] at hG6
      w_strict k_steps
      unfold Halt
      k_dflt (refine kso_min (by k_asm) (by k_asm) (News.isList (by k_asm) (by k_mem)) hG6 (by rw [List.length_map, ← hlen]; exact hsome) (by rfl) ?_)
      intro h7 M t7 tk7 F7 N7 a7 b7
      obtain rfl := least_eq hheld a7 b7
      clear a7 b7 hG6
      w_strict k_steps
      unfold Halt
      (with_reducible rename IsRange _ _ _ _ _ _ _ _ => hrg)
      k_dflt (refine LCt.CompSrcT.range (by rfl) (by k_asm) (by k_asm) hrg (range_small h64) (range_n _) (Nat.le_trans h64 (by decide)) ?_)
      clear hrg
      intro g8
      refine restT_il (fun i ys => StrsAre ys ((((rp.zip hp).take i).filter fun p => p.2.length == leastP hp).map (·.1))) trivial .nil ?rf8 ?rs8
      case rs8 =>
        intro i8 hi8 ys8 hG8 v8 hv8 I8 oI8 C8 oC8 D8 m8 h8 gs8 dr8 tk8 os8 E8 R8 R80 hC8 hx8 F8 N8 off8 ne8 hin8 hout8
        obtain ⟨t9, rfl⟩ := hv8
        have z4 : (hp.getD ((0 : Int) + (i8 : Int)).toNat Str.empty).length ≤ 4 := hheld _ (strs_getD_mem (by omega))
        w_strict k_steps
        · exact hin8 _ _ _ (by k_asm) (by k_asm) (zip_in hlen hi8 hG8 (by assumption))
        · exact hout8 _ _ (by k_asm) (by k_asm) (zip_out hlen hi8 hG8 (by assumption))
      case rf8 =>
        intro ys8 hG8
        w_strict k_steps
        unfold Halt
        k_dflt (refine item_strsA (News.isList (by k_asm) (by k_mem)) hG8 (by decide) (by rw [List.length_map]; exact Int.ofNat_lt.mpr (least_some hlen hheld hsome)) (by decide) ?_)
        intro t9
        w_strict k_steps
        exact hback _ _ _ _ _ _ (by k_asm) (by k_asm) (few_post hres (by k_asm) List.mem_cons_self)
end
end Mine
end
/-! # Plain -/
section
open PySem
set_option Elab.async false
set_option maxRecDepth 100000
set_option maxHeartbeats 400000000
namespace Mine
/-- rows as numbers: places 0 to 3, by a drawn road 4 to 7 -/
noncomputable abbrev Row := List Nat
noncomputable def aftN (g r : Row) : Row := r.map fun x => g.getD (x % 4) 0
noncomputable def undN (r : Row) : Nat := r.foldl (fun m x => m ||| (1 <<< (x % 4))) 0
noncomputable def cntN (m : Nat) : Nat := m % 2 + (m / 2) % 2 + (m / 4) % 2 + (m / 8) % 2
noncomputable def halfN (g r : Row) (st : List Row × List Nat) : (Row × Nat) ⊕ (List Row × List Nat) :=
  let a := aftN g r
  let u := undN a
  if cntN u = 1 then .inl (a, 1) else if st.2.any (· == u) then .inr st else .inr (st.1 ++ [a], st.2 ++ [u])
noncomputable def leastN (held : List Nat) : Nat := (held.map cntN).foldl min 4
noncomputable def firstN (rows : List Row) (held : List Nat) : Row × Nat := (((((rows.zip held).take rows.length).filter fun p => cntN p.2 == leastN held).map (·.1)).getD 0 [], leastN held)
noncomputable def runN : Nat → Row → Row → Nat → List Row → List Nat → Option (Row × Nat)
  | 0, _, _, _, _, _ => none
  | n + 1, red, blue, k, rows, held => if k < rows.length then
      match halfN red (rows.getD k []) (rows, held) with
      | .inl r => some r
      | .inr (r1, h1) => match halfN blue (rows.getD k []) (r1, h1) with
        | .inl r => some r
        | .inr (r2, h2) => runN n red blue (k + 1) r2 h2
    else some (firstN rows held)
noncomputable def paintTurnN (ring drawn : Nat) (ps : List (Row × Row)) : List (Row × Row) :=
  ps.flatMap fun p => (p.1 ++ [ring], p.2 ++ [drawn + 4]) :: (if (ring != drawn && (p.1.map (· % 4) != p.2.map (· % 4))) then [(p.1 ++ [drawn + 4], p.2 ++ [ring])] else [])
noncomputable def paintN (d0 d1 d2 d3 : Nat) : List (Row × Row) := paintTurnN 0 d3 (paintTurnN 3 d2 (paintTurnN 2 d1 (paintTurnN 1 d0 [([], [])])))
noncomputable def foundN (d0 d1 d2 d3 : Nat) : List (Row × Nat) := (paintN d0 d1 d2 d3).map fun p => (runN 20 p.1 p.2 0 [[0, 1, 2, 3]] [15]).getD ([], 0)
noncomputable def allD : List (Nat × Nat × Nat × Nat) := (List.range 4).flatMap fun a => (List.range 4).flatMap fun b => (List.range 4).flatMap fun c => (List.range 4).map fun d => (a, b, c, d)
noncomputable def measN (d0 d1 d2 d3 : Nat) : Nat :=
  let r := [(1 + 4 - d0) % 4, (2 + 4 - d1) % 4, (3 + 4 - d2) % 4, (4 + 4 - d3) % 4]
  if r.contains 1 || r.contains 3 then 1 else if r.contains 2 then 2 else 4
/-- two tokens stand together: the same place -/
noncomputable def rateN (d : Nat × Nat × Nat × Nat) (i j : Nat) : Nat := (if (i + 1) % 4 = j then 1 else 0) + (if [d.1, d.2.1, d.2.2.1, d.2.2.2].getD i 0 = j then 1 else 0)
noncomputable def outN (R : Nat → Nat → Nat) : Nat → Nat
  | 3 => R 3 0 + (R 3 1 + (R 3 2 + 0))
  | 2 => R 2 0 + (R 2 1 + 0)
  | _ => R 1 0 + 0
noncomputable def stepN (R : Nat → Nat → Nat) (k i j : Nat) : Nat := R i j * outN R k + R i k * R k j
noncomputable def weightsN (R : Nat → Nat → Nat) : List Nat :=
  let R1 := stepN R 3
  let R2 := stepN R1 2
  let w0 := 1 * outN R2 1
  let w1 := 1 * R2 0 1 + 0
  let x0 := w0 * outN R1 2
  let x1 := w1 * outN R1 2
  let x2 := w0 * R1 0 2 + (w1 * R1 1 2 + 0)
  [x0 * outN R 3, x1 * outN R 3, x2 * outN R 3, x0 * R 0 3 + (x1 * R 1 3 + (x2 * R 2 3 + 0))]
noncomputable def evenN (ws : List Nat) (found : List (Row × Nat)) : Bool :=
  let total := ws.foldl (· + ·) 0
  found.all fun f => total % f.2 == 0 && f.1.all fun t => (((List.range 4).filter fun k => f.1.getD k 0 % 4 == t % 4).map fun k => ws.getD k 0).foldl (· + ·) 0 == total / f.2
noncomputable def okN (d : Nat × Nat × Nat × Nat) : Bool :=
  let f := foundN d.1 d.2.1 d.2.2.1 d.2.2.2
  f.all (fun x => 1 ≤ x.2 && x.2 ≤ 4 && x.1.length == 4) && (f.foldl (fun m x => min m x.2) 4 == measN d.1 d.2.1 d.2.2.1 d.2.2.2) && evenN (weightsN (rateN d)) f
noncomputable def okAt (a b : Nat) : Bool := (List.range 4).all fun c => (List.range 4).all fun d => okN (a, b, c, d)
theorem ok_00 : okAt 0 0 = true := by decide +kernel
theorem ok_01 : okAt 0 1 = true := by decide +kernel
theorem ok_02 : okAt 0 2 = true := by decide +kernel
theorem ok_03 : okAt 0 3 = true := by decide +kernel
theorem ok_10 : okAt 1 0 = true := by decide +kernel
theorem ok_11 : okAt 1 1 = true := by decide +kernel
theorem ok_12 : okAt 1 2 = true := by decide +kernel
theorem ok_13 : okAt 1 3 = true := by decide +kernel
theorem ok_20 : okAt 2 0 = true := by decide +kernel
theorem ok_21 : okAt 2 1 = true := by decide +kernel
theorem ok_22 : okAt 2 2 = true := by decide +kernel
theorem ok_23 : okAt 2 3 = true := by decide +kernel
theorem ok_30 : okAt 3 0 = true := by decide +kernel
theorem ok_31 : okAt 3 1 = true := by decide +kernel
theorem ok_32 : okAt 3 2 = true := by decide +kernel
theorem ok_33 : okAt 3 3 = true := by decide +kernel
end Mine
end
/-! # Bridge -/
section
open PySem PySem.Spec PySem.Calls PySem.W PyProof.Rows PyProof.Rows.LCg PyProof.Rows.LCt
set_option Elab.async false
set_option maxRecDepth 100000
set_option maxHeartbeats 400000000
namespace Mine
/-- a number's sign -/
noncomputable def sg8 (x : Nat) : Nat := if x < 4 then 97 + x else 61 + x
noncomputable def enc (r : Row) : PySem.Str := ⟨(r.map sg8).toArray⟩
theorem sg8_lt : ∀ x, x < 8 → sg8 x < 128 ∧ lo1 (sg8 x) = sg8 (x % 4) := by decide
theorem low_enc {r : Row} (h : ∀ x ∈ r, x < 8) : Txt.lower (enc r) = enc (r.map (· % 4)) := by
  rw [lower_ascii (by
    intro c hc
    unfold enc at hc
    rw [List.toList_toArray] at hc
    obtain ⟨x, hx, rfl⟩ := List.mem_map.mp hc
    exact (sg8_lt x (h x hx)).1)]
  unfold enc
  simp only [List.map_toArray, List.map_map]
  congr 2
  refine List.map_congr_left fun x hx => ?_
  exact (sg8_lt x (h x hx)).2
theorem sgns_enc (r : Row) : sgns (enc r) = r.map fun x => ⟨#[sg8 x]⟩ := by
  unfold sgns enc
  rw [List.toList_toArray, List.map_map]; rfl
theorem item_enc {e f g h : Nat} : ∀ k, k < 4 → Txt.item (enc [e, f, g, h]) (cpOf ⟨#[sg8 k]⟩ - 97) = ⟨#[sg8 ([e, f, g, h].getD k 0)]⟩ := by
  intro k hk
  obtain rfl | rfl | rfl | rfl : k = 0 ∨ k = 1 ∨ k = 2 ∨ k = 3 := lt4 hk
  all_goals rfl
theorem after_enc {e f g h a b c d : Nat} (ha : a < 8) (hb : b < 8) (hc : c < 8) (hd : d < 8) : afterP (enc [e, f, g, h]) (enc [a, b, c, d]) = enc (aftN [e, f, g, h] [a, b, c, d]) := by
  unfold afterP
  rw [low_enc (fun x hx => mem4 (P := (· < 8)) hx ha hb hc hd), sgns_enc]
  simp only [List.map_cons, List.map_nil]
  rw [item_enc _ (Nat.mod_lt _ (by decide)), item_enc _ (Nat.mod_lt _ (by decide)), item_enc _ (Nat.mod_lt _ (by decide)), item_enc _ (Nat.mod_lt _ (by decide))]
  rfl
noncomputable def encU (m : Nat) : PySem.Str := ⟨((List.range 4).filter fun k => (m >>> k) % 2 == 1).map sg8 |>.toArray⟩
noncomputable def undS (y : PySem.Str) : PySem.Str := Txt.join (PySem.Str.ofString "") ((sgns (PySem.Str.ofString "abcd")).filter fun s => isInP s y)
theorem und_all : ((List.range 4).all fun a => (List.range 4).all fun b => (List.range 4).all fun c => (List.range 4).all fun d => undS (enc [a, b, c, d]) == encU (undN [a, b, c, d])) = true := by decide +kernel
theorem undN_mod (a b c d : Nat) : undN [a % 4, b % 4, c % 4, d % 4] = undN [a, b, c, d] := by
  unfold undN
  simp only [List.foldl_cons, List.foldl_nil, Nat.mod_mod]
theorem under_enc {a b c d : Nat} (ha : a < 8) (hb : b < 8) (hc : c < 8) (hd : d < 8) : underP (enc [a, b, c, d]) = encU (undN [a, b, c, d]) := by
  show undS (Txt.lower (enc [a, b, c, d])) = _
  rw [low_enc (fun x hx => mem4 (P := (· < 8)) hx ha hb hc hd)]
  have z := und_all
  simp only [List.all_eq_true, List.mem_range, beq_iff_eq] at z
  have := z (a % 4) (Nat.mod_lt _ (by decide)) (b % 4) (Nat.mod_lt _ (by decide)) (c % 4) (Nat.mod_lt _ (by decide)) (d % 4) (Nat.mod_lt _ (by decide))
  rw [undN_mod] at this
  exact this
theorem und_lt_all : ((List.range 4).all fun a => (List.range 4).all fun b => (List.range 4).all fun c => (List.range 4).all fun d => decide (undN [a, b, c, d] < 16)) = true := by decide +kernel
theorem und_lt (a b c d : Nat) : undN [a, b, c, d] < 16 := by
  have z := und_lt_all
  simp only [List.all_eq_true, List.mem_range, decide_eq_true_eq] at z
  have := z (a % 4) (Nat.mod_lt _ (by decide)) (b % 4) (Nat.mod_lt _ (by decide)) (c % 4) (Nat.mod_lt _ (by decide)) (d % 4) (Nat.mod_lt _ (by decide))
  rwa [undN_mod] at this
theorem encU_all : ((List.range 16).all fun a => decide ((encU a).length = cntN a) && (List.range 16).all fun b => (encU a == encU b) == (a == b)) = true := by decide +kernel
theorem encU_len {a : Nat} (h : a < 16) : (encU a).length = cntN a := by
  have z := encU_all
  simp only [List.all_eq_true, List.mem_range, Bool.and_eq_true, decide_eq_true_eq] at z
  exact (z a h).1
theorem encU_eq {a b : Nat} (h : a < 16) (h' : b < 16) : (encU a == encU b) = (a == b) := by
  have z := encU_all
  simp only [List.all_eq_true, List.mem_range, Bool.and_eq_true, decide_eq_true_eq] at z
  exact beq_iff_eq.mp ((z a h).2 b h')
/-- a row of four numbers below eight -/
noncomputable def Row4 (r : Row) : Prop := ∃ a b c d, r = [a, b, c, d] ∧ a < 8 ∧ b < 8 ∧ c < 8 ∧ d < 8
theorem Row4.get {g : Row} (h : Row4 g) (k : Nat) (hk : k < 4) : g.getD k 0 < 8 := by
  obtain ⟨a, b, c, d, rfl, ha, hb, hc, hd⟩ := h
  obtain rfl | rfl | rfl | rfl : k = 0 ∨ k = 1 ∨ k = 2 ∨ k = 3 := lt4 hk
  all_goals assumption
theorem Row4.aft {g r : Row} (hg : Row4 g) (hr : Row4 r) : Row4 (aftN g r) ∧ afterP (enc g) (enc r) = enc (aftN g r) := by
  obtain ⟨a, b, c, d, rfl, ha, hb, hc, hd⟩ := hr
  have q := hg.get
  obtain ⟨e, f, g', h, rfl, -⟩ := id hg
  exact ⟨⟨_, _, _, _, rfl, q _ (Nat.mod_lt _ (by decide)), q _ (Nat.mod_lt _ (by decide)), q _ (Nat.mod_lt _ (by decide)), q _ (Nat.mod_lt _ (by decide))⟩, after_enc ha hb hc hd⟩
theorem Row4.und {r : Row} (hr : Row4 r) : underP (enc r) = encU (undN r) ∧ undN r < 16 := by
  obtain ⟨a, b, c, d, rfl, ha, hb, hc, hd⟩ := hr
  exact ⟨under_enc ha hb hc hd, und_lt a b c d⟩
theorem any_encU {u : Nat} (hu : u < 16) : ∀ {held : List Nat}, (∀ x ∈ held, x < 16) → ((held.map encU).any (· == encU u)) = held.any (· == u)
  | [], _ => rfl
  | x :: l, h => by
    simp only [List.map_cons, List.any_cons, encU_eq (h x List.mem_cons_self) hu]
    rw [any_encU hu fun y hy => h y (List.mem_cons_of_mem _ hy)]
structure StOk (rows : List Row) (held : List Nat) : Prop where
  rows : ∀ r ∈ rows, Row4 r
  held : ∀ u ∈ held, u < 16
theorem half_enc {g r : Row} {rows : List Row} {held : List Nat} (hg : Row4 g) (hr : Row4 r) (hs : StOk rows held) :
    (∃ res, halfN g r (rows, held) = .inl res ∧ halfP (enc g) (enc r) (rows.map enc, held.map encU) = .inl (enc res.1, res.2)) ∨
    (∃ rows' held', halfN g r (rows, held) = .inr (rows', held') ∧ halfP (enc g) (enc r) (rows.map enc, held.map encU) = .inr (rows'.map enc, held'.map encU) ∧ StOk rows' held') := by
  obtain ⟨ha, ea⟩ := hg.aft hr
  obtain ⟨eu, hu⟩ := ha.und
  unfold halfN halfP
  simp only [ea, eu, encU_len hu, any_encU hu hs.held]
  by_cases h1 : cntN (undN (aftN g r)) = 1
  · rw [if_pos h1, if_pos h1]; exact .inl ⟨_, rfl, rfl⟩
  · rw [if_neg h1, if_neg h1]
    by_cases h2 : (held.any (· == undN (aftN g r))) = true
    · rw [if_pos h2, if_pos h2]; exact .inr ⟨_, _, rfl, rfl, hs⟩
    · rw [if_neg h2, if_neg h2]
      refine .inr ⟨_, _, rfl, by simp, ⟨fun x hx => ?_, fun x hx => ?_⟩⟩
      · rcases List.mem_append.mp hx with hx | hx
        · exact hs.rows x hx
        · rw [List.mem_singleton.mp hx]; exact ha
      · rcases List.mem_append.mp hx with hx | hx
        · exact hs.held x hx
        · rw [List.mem_singleton.mp hx]; exact hu
theorem getD_enc {rows : List Row} {k : Nat} (h : k < rows.length) : (rows.map enc).getD k Str.empty = enc (rows.getD k []) := by
  simp [List.getD, h]
theorem least_enc {held : List Nat} (h : ∀ u ∈ held, u < 16) : leastP (held.map encU) = leastN held := by
  unfold leastP leastN
  rw [List.map_map]
  congr 1
  exact List.map_congr_left fun u hu => encU_len (h u hu)
theorem first_enc {rows : List Row} {held : List Nat} (hs : StOk rows held) (hne : 0 < ((((rows.zip held).take rows.length).filter fun p => cntN p.2 == leastN held).map (·.1)).length) :
    firstP (rows.map enc) (held.map encU) = (enc (firstN rows held).1, (firstN rows held).2) := by
  unfold firstP firstN
  rw [least_enc hs.held]
  simp only [List.length_map]
  have e : (((rows.map enc).zip (held.map encU)).take rows.length).filter (fun p => p.2.length == leastN held) = (((rows.zip held).take rows.length).filter fun p => cntN p.2 == leastN held).map fun p => (enc p.1, encU p.2) := by
    rw [List.zip_map, ← List.map_take, List.filter_map]
    congr 1
    refine List.filter_congr fun p hp => ?_
    have hm : p.2 ∈ held := (List.of_mem_zip (List.mem_of_mem_take hp)).2
    show ((encU p.2).length == leastN held) = _
    rw [encU_len (hs.held _ hm)]
  rw [e, List.map_map]
  simp only [List.length_map] at hne
  generalize ((rows.zip held).take rows.length).filter (fun p => cntN p.2 == leastN held) = l at hne
  cases l with
  | nil => exact absurd hne (by decide)
  | cons x l => rfl
theorem run_enc {red blue : Row} (hr : Row4 red) (hb : Row4 blue) : ∀ (n k : Nat) (rows : List Row) (held : List Nat) (res : Row × Nat), StOk rows held → runN n red blue k rows held = some res → res.1 ≠ [] →
    runP n (enc red) (enc blue) k (rows.map enc) (held.map encU) = some (enc res.1, res.2)
  | 0, _, _, _, _, _, h, _ => by simp [runN] at h
  | n + 1, k, rows, held, res, hs, h, hne => by
    unfold runN at h
    unfold runP
    rw [List.length_map]
    by_cases hk : k < rows.length
    · rw [if_pos hk] at h ⊢
      rw [getD_enc hk]
      have hrow : Row4 (rows.getD k []) := by
        have : rows.getD k [] = rows[k] := by simp [List.getD, hk]
        rw [this]; exact hs.rows _ (List.getElem_mem hk)
      rcases half_enc hr hrow hs with ⟨r1, e1, e2⟩ | ⟨rows', held', e1, e2, hs'⟩
      · rw [e1] at h; rw [e2]
        cases h; rfl
      · rw [e1] at h; rw [e2]
        dsimp only at h ⊢
        rcases half_enc hb hrow hs' with ⟨r1, e1, e2⟩ | ⟨rows'', held'', e1, e2, hs''⟩
        · rw [e1] at h; rw [e2]
          cases h; rfl
        · rw [e1] at h; rw [e2]
          exact run_enc hr hb n (k + 1) rows'' held'' res hs'' h hne
    · rw [if_neg hk] at h ⊢
      cases h
      rw [first_enc hs]
      unfold firstN at hne
      dsimp only at hne
      generalize ((((rows.zip held).take rows.length).filter fun p => cntN p.2 == leastN held).map (·.1)) = l at hne
      cases l with
      | nil => exact absurd rfl hne
      | cons x l => exact Nat.succ_pos _
theorem run_start {red blue : Row} (hr : Row4 red) (hb : Row4 blue) {res : Row × Nat} (h : runN 20 red blue 0 [[0, 1, 2, 3]] [15] = some res) (hne : res.1 ≠ []) :
    runP 20 (enc red) (enc blue) 0 [PySem.Str.ofString "abcd"] [PySem.Str.ofString "abcd"] = some (enc res.1, res.2) := by
  have e1 : PySem.Str.ofString "abcd" = enc [0, 1, 2, 3] := by decide
  have e2 : PySem.Str.ofString "abcd" = encU 15 := by decide
  have := run_enc hr hb 20 0 [[0, 1, 2, 3]] [15] res ⟨fun r hr => by rw [List.mem_singleton.mp hr]; exact ⟨0, 1, 2, 3, rfl, by decide, by decide, by decide, by decide⟩, fun u hu => by rw [List.mem_singleton.mp hu]; decide⟩ h hne
  rw [← this]
  simp only [List.map_cons, List.map_nil]
  rw [← e1, ← e2]
theorem sg8_small {x : Nat} (h : x < 4) : sg8 x = 97 + x := if_pos h
theorem row_ok {r : Row} (h : Row4 r) : RowOk (enc r) := by
  obtain ⟨a, b, c, d, rfl, ha, hb, hc, hd⟩ := h
  have e : Txt.lower (enc [a, b, c, d]) = enc [a % 4, b % 4, c % 4, d % 4] := low_enc (fun x hx => mem4 (P := (· < 8)) hx ha hb hc hd)
  refine ⟨rfl, by rw [e]; rfl, fun s hs => ?_⟩
  rw [e, sgns_enc] at hs
  obtain ⟨x, hx, rfl⟩ := List.mem_map.mp hs
  have hx4 : x < 4 := mem4 (P := (· < 4)) hx (Nat.mod_lt _ (by decide)) (Nat.mod_lt _ (by decide)) (Nat.mod_lt _ (by decide)) (Nat.mod_lt _ (by decide))
  refine ⟨rfl, ?_, ?_⟩
  · show (0 : Int) ≤ ((sg8 x : Nat) : Int) - 97
    rw [sg8_small hx4, Int.natCast_add, Int.add_comm]; exact (Int.add_sub_cancel (x : Int) 97).symm ▸ Int.natCast_nonneg x
  · show ((sg8 x : Nat) : Int) - 97 < 4
    rw [sg8_small hx4, Int.natCast_add, Int.add_comm]; exact (Int.add_sub_cancel (x : Int) 97).symm ▸ Int.ofNat_lt.mpr hx4
theorem off97 {p : Nat} (h : 97 ≤ p ∧ p < 101) : ∃ q, p = 97 + q ∧ q < 4 := by
  obtain ⟨q, rfl⟩ := Nat.exists_eq_add_of_le h.1
  exact ⟨q, rfl, Nat.lt_of_add_lt_add_left (n := 97) h.2⟩
theorem ok_low {x : PySem.Str} (h : RowOk x) : ∃ a b c d, Txt.lower x = enc [a, b, c, d] ∧ a < 4 ∧ b < 4 ∧ c < 4 ∧ d < 4 := by
  have hl := h.low
  have hs := h.sg
  generalize Txt.lower x = y at hl hs
  obtain ⟨⟨l⟩⟩ := y
  have hl' : l.length = 4 := hl
  have hs' : ∀ p ∈ l, 97 ≤ p ∧ p < 101 := by
    intro p hp
    have := hs ⟨#[p]⟩ (by unfold sgns; exact List.mem_map.mpr ⟨p, hp, rfl⟩)
    have e : cpOf ⟨#[p]⟩ = (p : Int) := rfl
    rw [e] at this
    omega
  match l, hl', hs' with
  | [p, q, r, s], _, hs' =>
    obtain ⟨p, rfl, hp⟩ := off97 (hs' p (.head _))
    obtain ⟨q, rfl, hq⟩ := off97 (hs' q (.tail _ (.head _)))
    obtain ⟨r, rfl, hr⟩ := off97 (hs' r (.tail _ (.tail _ (.head _))))
    obtain ⟨s, rfl, hs9⟩ := off97 (hs' s (.tail _ (.tail _ (.tail _ (.head _)))))
    refine ⟨p, q, r, s, ?_, hp, hq, hr, hs9⟩
    unfold enc
    simp only [List.map_cons, List.map_nil]
    rw [sg8_small hp, sg8_small hq, sg8_small hr, sg8_small hs9]
theorem closed {g : Row} (hg : Row4 g) : ∀ x, RowOk x → RowOk (afterP (enc g) x) := by
  intro x hx
  obtain ⟨a, b, c, d, e, ha, hb, hc, hd⟩ := ok_low hx
  have up : ∀ {z : Nat}, z < 4 → z < 8 := fun h => Nat.lt_trans h (by decide)
  have hr : Row4 [a, b, c, d] := ⟨a, b, c, d, rfl, up ha, up hb, up hc, up hd⟩
  have e2 : afterP (enc g) x = afterP (enc g) (enc [a, b, c, d]) := by
    unfold afterP
    rw [e, low_enc (r := [a, b, c, d]) (fun x hx => mem4 (P := (· < 8)) hx (up ha) (up hb) (up hc) (up hd))]
    simp only [List.map_cons, List.map_nil]
    rw [Nat.mod_eq_of_lt ha, Nat.mod_eq_of_lt hb, Nat.mod_eq_of_lt hc, Nat.mod_eq_of_lt hd]
  rw [e2, (hg.aft hr).2]
  exact row_ok (hg.aft hr).1
theorem enc_len {g : Row} (hg : Row4 g) : (enc g).length = 4 := by
  obtain ⟨a, b, c, d, rfl, -⟩ := hg
  rfl
end Mine
end
/-! # Bridge3 -/
section
open PySem PySem.Spec PySem.Calls PySem.W PyProof.Rows PyProof.Rows.LCg PyProof.Rows.LCt
set_option Elab.async false
set_option maxRecDepth 100000
set_option maxHeartbeats 400000000
namespace Mine
noncomputable def ringS : Nat → PySem.Str
  | 0 => PySem.Str.ofString "b"
  | 1 => PySem.Str.ofString "c"
  | 2 => PySem.Str.ofString "d"
  | _ => PySem.Str.ofString "a"
noncomputable def letS : Nat → PySem.Str
  | 0 => ⟨#[97]⟩
  | 1 => ⟨#[98]⟩
  | 2 => ⟨#[99]⟩
  | _ => ⟨#[100]⟩
theorem cnt_all : ((List.range 4).all fun i => (List.range 4).all fun x => (List.range 4).all fun j => Txt.count (ringS i ++ enc [x]) (letS j) == (((if (i + 1) % 4 = j then 1 else 0) + (if x = j then 1 else 0) : Nat) : Int)) = true := by decide +kernel
theorem cnt_eq {i x j : Nat} (hi : i < 4) (hx : x < 4) (hj : j < 4) : Txt.count (ringS i ++ enc [x]) (letS j) = (((if (i + 1) % 4 = j then 1 else 0) + (if x = j then 1 else 0) : Nat) : Int) := by
  have z := cnt_all
  simp only [List.all_eq_true, List.mem_range, beq_iff_eq] at z
  exact z i hi x hx j hj
noncomputable def rateM (d : Nat × Nat × Nat × Nat) (i j : Nat) : Nat := rateN d (min i 3) (min j 3)
theorem rates_eq {a b c d : Nat} (ha : a < 4) (hb : b < 4) (hc : c < 4) (hd : d < 4) : ratesP (enc [a]) (enc [b]) (enc [c]) (enc [d]) = fun i j => ((rateM (a, b, c, d) i j : Nat) : Int) := by
  funext i j
  have ej : letS j = letS (min j 3) := by
    match j with
    | 0 => rfl
    | 1 => rfl
    | 2 => rfl
    | n + 3 => rw [show min (n + 3) 3 = 3 by omega]; rfl
  have hj : min j 3 < 4 := by omega
  unfold ratesP rateM rateN
  show Txt.count _ (letS j) = _
  rw [ej]
  match i with
  | 0 => exact cnt_eq (i := 0) (by decide) ha hj
  | 1 => exact cnt_eq (i := 1) (by decide) hb hj
  | 2 => exact cnt_eq (i := 2) (by decide) hc hj
  | n + 3 => rw [show min (n + 3) 3 = 3 by omega]; exact cnt_eq (i := 3) (by decide) hd hj
theorem rates_ok {a b c d : Nat} (ha : a < 4) (hb : b < 4) (hc : c < 4) (hd : d < 4) : ∀ i j, 0 ≤ ratesP (enc [a]) (enc [b]) (enc [c]) (enc [d]) i j ∧ ratesP (enc [a]) (enc [b]) (enc [c]) (enc [d]) i j ≤ 2 := by
  intro i j
  rw [rates_eq ha hb hc hd]
  have : rateM (a, b, c, d) i j ≤ 2 := by unfold rateM rateN; split <;> split <;> omega
  exact ⟨Int.natCast_nonneg _, by dsimp only; omega⟩
theorem outR_cast (R : Nat → Nat → Nat) (k : Nat) : outR (fun i j => ((R i j : Nat) : Int)) k = ((outN R k : Nat) : Int) := by
  unfold outR outN
  split <;> simp [Int.natCast_add]
theorem stepR_cast (R : Nat → Nat → Nat) (k : Nat) : stepR (fun i j => ((R i j : Nat) : Int)) k = fun i j => ((stepN R k i j : Nat) : Int) := by
  funext i j
  unfold stepR stepN
  rw [outR_cast]; simp [Int.natCast_add, Int.natCast_mul]
theorem weights_cast (R : Nat → Nat → Nat) : weightsP (fun i j => ((R i j : Nat) : Int)) = (weightsN R).map fun n => ((n : Nat) : Int) := by
  unfold weightsP weightsN
  simp only [stepR_cast, outR_cast, List.map_cons, List.map_nil, Int.natCast_add, Int.natCast_mul, Int.natCast_one, Int.natCast_zero]
theorem weights_eq {a b c d : Nat} (ha : a < 4) (hb : b < 4) (hc : c < 4) (hd : d < 4) : weightsP (ratesP (enc [a]) (enc [b]) (enc [c]) (enc [d])) = (weightsN (rateN (a, b, c, d))).map fun n => ((n : Nat) : Int) := by
  rw [rates_eq ha hb hc hd, weights_cast]
  rfl
end Mine
end
/-! # Bridge4 -/
section
open PySem PySem.Spec PySem.Calls PySem.W PyProof.Rows PyProof.Rows.LCg PyProof.Rows.LCt
set_option Elab.async false
set_option maxRecDepth 100000
set_option maxHeartbeats 400000000
namespace Mine
theorem enc_app (r s : Row) : enc r ++ enc s = enc (r ++ s) := by
  show (⟨(enc r).cps ++ (enc s).cps⟩ : PySem.Str) = _
  unfold enc
  simp
theorem upper_enc {x : Nat} (h : x < 4) : Txt.upper (enc [x]) = enc [x + 4] := by
  obtain rfl | rfl | rfl | rfl : x = 0 ∨ x = 1 ∨ x = 2 ∨ x = 3 := by omega
  all_goals decide +kernel
theorem sg8_inj {x y : Nat} (hx : x < 8) (hy : y < 8) (h : sg8 x = sg8 y) : x = y := by
  unfold sg8 at h
  split at h <;> split at h <;> omega
theorem enc_inj : ∀ {r s : Row}, (∀ x ∈ r, x < 8) → (∀ x ∈ s, x < 8) → enc r = enc s → r = s := by
  intro r s hr hs h
  have h' : r.map sg8 = s.map sg8 := by
    have := congrArg (fun y : PySem.Str => y.cps.toList) h
    simpa [enc] using this
  clear h
  induction r generalizing s with
  | nil => cases s with
    | nil => rfl
    | cons y s => simp at h'
  | cons x r ih => cases s with
    | nil => simp at h'
    | cons y s =>
      simp only [List.map_cons, List.cons.injEq] at h'
      rw [sg8_inj (hr x List.mem_cons_self) (hs y List.mem_cons_self) h'.1, ih (fun z hz => hr z (List.mem_cons_of_mem _ hz)) (fun z hz => hs z (List.mem_cons_of_mem _ hz)) h'.2]
theorem enc_eq {r s : Row} (hr : ∀ x ∈ r, x < 8) (hs : ∀ x ∈ s, x < 8) : (enc r == enc s) = (r == s) := by
  cases e : (r == s)
  · refine beq_eq_false_iff_ne.mpr fun h => ?_
    rw [enc_inj hr hs h, beq_self_eq_true] at e
    cases e
  · rw [beq_iff_eq.mp e, beq_self_eq_true]
/-- all paintings have rows of four numbers below eight -/
noncomputable def row4b (r : Row) : Bool := r.length == 4 && r.all (· < 8)
theorem row4_of {r : Row} (h : row4b r = true) : Row4 r := by
  unfold row4b at h
  simp only [Bool.and_eq_true, beq_iff_eq, List.all_eq_true, decide_eq_true_eq] at h
  match r, h with
  | [a, b, c, d], h => exact ⟨a, b, c, d, rfl, h.2 a (by simp), h.2 b (by simp), h.2 c (by simp), h.2 d (by simp)⟩
theorem paint_ok : (allD.all fun d => (paintN d.1 d.2.1 d.2.2.1 d.2.2.2).all fun p => row4b p.1 && row4b p.2) = true := by decide +kernel
theorem ok_at {a b : Nat} (ha : a < 4) (hb : b < 4) : okAt a b = true := by
  rcases lt4 ha with rfl | rfl | rfl | rfl <;> rcases lt4 hb with rfl | rfl | rfl | rfl
  · exact ok_00
  · exact ok_01
  · exact ok_02
  · exact ok_03
  · exact ok_10
  · exact ok_11
  · exact ok_12
  · exact ok_13
  · exact ok_20
  · exact ok_21
  · exact ok_22
  · exact ok_23
  · exact ok_30
  · exact ok_31
  · exact ok_32
  · exact ok_33
theorem ok_all : ∀ d ∈ allD, okN d = true := by
  intro q hq
  obtain ⟨a, ha, hq⟩ := List.mem_flatMap.mp hq
  obtain ⟨b, hb, hq⟩ := List.mem_flatMap.mp hq
  obtain ⟨c, hc, hq⟩ := List.mem_flatMap.mp hq
  obtain ⟨d, hd, rfl⟩ := List.mem_map.mp hq
  exact List.all_eq_true.mp (List.all_eq_true.mp (ok_at (List.mem_range.mp ha) (List.mem_range.mp hb)) c hc) d hd
theorem mem_allD {a b c d : Nat} (ha : a < 4) (hb : b < 4) (hc : c < 4) (hd : d < 4) : (a, b, c, d) ∈ allD := by
  unfold allD
  refine List.mem_flatMap.mpr ⟨a, List.mem_range.mpr ha, List.mem_flatMap.mpr ⟨b, List.mem_range.mpr hb, List.mem_flatMap.mpr ⟨c, List.mem_range.mpr hc, List.mem_map.mpr ⟨d, List.mem_range.mpr hd, rfl⟩⟩⟩⟩
end Mine
end
/-! # Tsubst -/
section
theorem Mine.reset_Tsubst : True := by (w_top off); k_with_none; trivial
open PySem PySem.W PyProof.Rows
set_option Elab.async false
set_option maxRecDepth 100000
set_option maxHeartbeats 400000000
namespace Mine

noncomputable def costP (a b : PySem.Str) : Int := if a == b then 0 else if Txt.lower a == Txt.lower b then 1 else 2
theorem t_subst (w : World) {p : Program} {loose : List PySem.Str} {mean : ExcName → Option Value} {mg mb : PySem.Str → Option Value} (a b : PySem.Str) (ta tb : Tok) (ha : a.length ≤ 1) (hb : b.length ≤ 1) :
    Cl w p loose mean mg mb PySem.Challenge.rw_to0087_01 45 6 [.str a ta, .str b tb] (fun _ => True) (fun _ v _ => ∃ t, v = .int (costP a b) t) := by
  unfold Cl
  k_fill
  intros
  rename_i hpre hret
  try dsimp only at hpre
  refine wpAny_call ?_
  w_strict (k_dflt (refine' enterP ?k1 ?k2 ?k3 ?k5 ?kA ?kF ?kK ?k6 ?k7 ?k8 ?k9 ?kB ?_ ?c2 ?c3 ?c4 ?c5; (case kA => exact rfl); (case kF => exact rfl); (case kK => assumption); (case k1 => k_asm); (case k2 => k_asm); (case k3 => k_asm); (case k5 => k_asm); (case k6 => k_is); (case k7 => k_is); (case k8 => ktr_room); (case k9 => exact BindsTo.of_eq rfl); (case c5 => decide); (case kB => exact locs rfl); (case c2 => exact rfl); (case c3 => exact rfl); (case c4 => exact rfl); k_whole; intro L' h' F' N' B' X' T'; (try dsimp only); (try k_lift B'); (try k_fold)))
  w_strict k_steps
  all_goals (try dsimp only)
  all_goals (try k_unfold)
  all_goals (try dsimp only)
  all_goals refine back_ (by k_asm) (by k_asm) (fun kE => hret _ _ _ kE ?_)
  all_goals unfold costP
  all_goals first | exact mkI (by simp_all)
end Mine
end
/-! # IndPT -/
section
open PySem PySem.Spec PySem.Calls PySem.W PyProof.Rows PyProof.Rows.LCg PyProof.Rows.LCt
set_option Elab.async false
set_option maxRecDepth 100000
set_option maxHeartbeats 400000000
namespace Mine
section
variable {prog : Program} {w : World} {A : Around} {h₀ : Heap} {L : Addr} {m : PySem.Str → Option Value} {env : Env}
theorem srcPT_il {ct elt : Expr} {x x₂ : PySem.Str} {scope : Scope} {cl : List (PySem.Str × Addr)} {Fin : Shared → List Value → List (Addr × Obj) → Prop} {ax : Addr} {its : Array Value} {ka : Nat} {news : List (Addr × Obj)} {h : Heap} {gs : Array GenState} {dr : Drawn} {tk : Nat} {os : OsState}
    (G : Nat → List Value → Prop) (P : Nat → Value → Value → Prop) (hA : A.handled = none) (F : Fr h₀ L h m) (N : News h₀ L h news) (hm : (ax, ({ cls := .type "list", data := .seq its ka } : Obj)) ∈ news) (hsz : its.size ≤ sizeLine) (h0 : G 0 []) (hlen : ∀ i ys, G i ys → ys.length ≤ i)
    (item : ∀ i v, its[i]? = some v → ∃ t ot v₁ v₂ nt, v = .ref t ∧ (t, ot) ∈ news ∧ ot.cls = .type "tuple" ∧ ot.data = .seq #[v₁, v₂] nt ∧ P i v₁ v₂)
    (step : ∀ i ys v₁ v₂, G i ys → P i v₁ v₂ → ∀ (I : Addr) (oI : Obj) (C : Addr) (oC : Obj) (D : Addr) (m₂ : PySem.Str → Option Value) (h : Heap) (gs : Array GenState) (dr : Drawn) (tk : Nat) (os : OsState) (E' R : Value → Shared → Prop) (R0 : Shared → Prop), NsObj oC m₂ → m₂ x = some v₁ → m₂ x₂ = some v₂ → Off3 I C D news → ((@Ne Nat I C) ∧ (@Ne Nat I D) ∧ (@Ne Nat C D)) →
      (∀ y h' tk', Fr h₀ L h' m → News h₀ L h' ((I, oI) :: (C, oC) :: (D, lst ys) :: news) → G (i + 1) (ys ++ [y]) → R y ⟨h', gs, dr, tk', os⟩) →
      (∀ h' tk', Fr h₀ L h' m → News h₀ L h' ((I, oI) :: (C, oC) :: (D, lst ys) :: news) → G (i + 1) ys → R0 ⟨h', gs, dr, tk', os⟩) →
      Fr h₀ L h m → News h₀ L h ((I, oI) :: (C, oC) :: (D, lst ys) :: news) →
      wpAny (model prog w) A (isTrue ct (compEnvC scope cl C env) (eval ct (compEnvC scope cl C env))) (fun ok s' => if ok = true then wpAny (model prog w) A (eval elt (compEnvC scope cl C env)) R E' s' else R0 s') E' ⟨h, gs, dr, tk, os⟩)
    (fin : ∀ g ys, G its.size ys → Fin ⟨g, gs, dr, tk, os⟩ ys news) :
    SrcPT prog w A h₀ L m env ct elt x x₂ scope cl Fin (.ref ax) ⟨h, gs, dr, tk, os⟩ :=
  ⟨ax, its, ka, news, G, rfl, hA, F, N, hm, hsz, h0, hlen, fun g => ⟨fun i ys v hg hv => by
    obtain ⟨t, ot, v₁, v₂, nt, rfl, e1, e2, e3, hp⟩ := item i v hv
    exact ⟨t, ot, v₁, v₂, nt, rfl, e1, e2, e3, fun I oI C oC D m₂ h tk E' hC hx hx₂ F N off ne =>
      step i ys v₁ v₂ hg hp I oI C oC D m₂ h gs dr tk os E' _ _ hC hx hx₂ off ne (fun y h' tk' F' N' g => ⟨h', tk', news, rfl, F', N', off, trivial, rfl, g⟩) (fun h' tk' F' N' g => ⟨h', tk', news, rfl, F', N', off, trivial, rfl, g⟩) F N⟩, fin g⟩⟩
end
end Mine
end
/-! # Tev2 -/
section
theorem Mine.reset_Tev2 : True := by (w_top off); k_with_none; trivial
open PySem PySem.W PyProof.Rows PySem.Calls PySem.Spec
set_option Elab.async false
set_option maxRecDepth 100000
set_option maxHeartbeats 400000000
open PyProof.Rows.LCg PyProof.Rows.LCt
namespace Mine

noncomputable abbrev FO (p : Row × Nat) (a b : Tok) : Obj := { cls := .type "tuple", data := .seq #[.str (enc p.1) a, .int (p.2 : Int) b] }
noncomputable def FA (Q : Addr → Obj → Prop) : List (Row × Nat) → List Value → Prop
  | [], [] => True
  | p :: ps, v :: vs => (∃ t a b, v = .ref t ∧ Q t (FO p a b)) ∧ FA Q ps vs
  | _, _ => False
theorem FA.len {Q : Addr → Obj → Prop} : ∀ {ps vs}, FA Q ps vs → vs.length = ps.length
  | [], [], _ => rfl
  | _ :: _, _ :: _, ⟨_, x⟩ => by simp [FA.len x]
  | [], _ :: _, x => x.elim
  | _ :: _, [], x => x.elim
theorem FA.at {Q : Addr → Obj → Prop} : ∀ {ps vs} {i : Nat} {v : Value}, FA Q ps vs → vs[i]? = some v → ∃ p t a b, ps[i]? = some p ∧ v = .ref t ∧ Q t (FO p a b)
  | [], [], _, _, _, h => by simp at h
  | p :: _, _ :: _, 0, _, ⟨⟨t, a, b, e, q⟩, _⟩, h => by
    simp only [List.getElem?_cons_zero, Option.some.injEq] at h
    exact ⟨p, t, a, b, rfl, h ▸ e, q⟩
  | _ :: _, _ :: _, i + 1, _, ⟨_, x⟩, h => by
    simp only [List.getElem?_cons_succ] at h ⊢
    exact FA.at x h
  | [], _ :: _, _, _, x, _ => x.elim
  | _ :: _, [], _, _, x, _ => x.elim

noncomputable def selE (fs : List (Row × Nat)) (ln : Int) (i : Nat) : List PySem.Str := ((fs.take i).filter (fun p => decide ((p.2 : Int) = ln))).map fun p => enc p.1
theorem sel_in {fs : List (Row × Nat)} {ln : Int} {i : Nat} {ys : List Value} {p : Row × Nat} {t : Tok} (h : StrsAre ys (selE fs ln i)) (hp : fs[i]? = some p) (hc : (p.2 : Int) = ln) : StrsAre (ys ++ [.str (enc p.1) t]) (selE fs ln (i + 1)) := by
  unfold selE
  rw [List.take_add_one, hp, Option.toList_some, List.filter_append, List.filter_cons_of_pos (by simpa using hc), List.map_append]
  exact StrsAre.append' h (StrsAre.cons _ _ .nil)
theorem sel_out {fs : List (Row × Nat)} {ln : Int} {i : Nat} {ys : List Value} {p : Row × Nat} (h : StrsAre ys (selE fs ln i)) (hp : fs[i]? = some p) (hc : ¬ (p.2 : Int) = ln) : StrsAre ys (selE fs ln (i + 1)) := by
  unfold selE
  rw [List.take_add_one, hp, Option.toList_some, List.filter_append, List.filter_cons_of_neg (by simpa using hc), List.filter_nil, List.append_nil]
  exact h
theorem sel_len {fs : List (Row × Nat)} {ln : Int} {i : Nat} {ys : List Value} (h : StrsAre ys (selE fs ln i)) : ys.length ≤ i := by
  rw [h.length]
  unfold selE
  rw [List.length_map]
  exact Nat.le_trans (List.length_filter_le _ _) (by rw [List.length_take]; omega)
theorem es_canLay : ∀ ns : List PySem.Str, (∀ y ∈ ns, PyData.strOk y = true) → PyData.canLayAll0 (ns.map PyData.str) = true
  | [], _ => rfl
  | y :: r, h => by simp [PyData.canLayAll0, PyData.canLay0, es_canLay r fun z hz => h z (List.mem_cons_of_mem _ hz), h y List.mem_cons_self]
theorem es_depth : ∀ ns : List PySem.Str, PyData.depthAll (ns.map PyData.str) = 0
  | [] => rfl
  | _ :: r => by simp [PyData.depthAll, PyData.depth, es_depth r]
theorem es_shaped (ns : List PySem.Str) (h : ∀ y ∈ ns, PyData.strOk y = true) : SeqAt.shaped (.list (ns.map PyData.str)) = true := by
  simp [SeqAt.shaped, PyData.canLay0, PyData.depth, es_canLay ns h, es_depth]
theorem es_carried {vs : List Value} {ns : List PySem.Str} (h : StrsAre vs ns) : CarriedAll vs (ns.map PyData.str) := by
  induction h with
  | nil => exact .nil
  | cons y t r ih => exact .cons (.str _ t) ih
theorem es_same (ns : List PySem.Str) : PySem.Spec.same (.list (ns.map PyData.str)) (.list (([] : List PySem.Str).map PyData.str)) = decide (ns = []) := by
  cases ns <;> simp [PySem.Spec.same, PySem.Spec.sameAll]
theorem ne_strs {prog : Program} {w : World} {A : Around} {E : Value → Shared → Prop} {s : Shared} {a b : Addr} {xs : List Value} {ns : List PySem.Str} {Q : Value → Shared → Prop} (ha : s.heap.IsList a xs.toArray) (hb : s.heap.IsList b #[]) (hi : StrsAre xs ns) (hok : ∀ y ∈ ns, PyData.strOk y = true) (hu : A.units + 64 < cLine) (h : Q (.bool (!decide (ns = []))) s) :
    wpAny (model prog w) A (compareOp .NotEq (.ref a) (.ref b)) Q E s :=
  ne_dataH_same (PyProof.Rows.reads_newData ha (es_carried hi)) (PyProof.Rows.reads_newData (ys := []) hb (es_carried .nil)) (es_shaped _ hok) (es_shaped [] (by intro _ h; cases h)) hu (SeqAt.noMix_of_shape (.list .str) rfl _ _ (PyProof.Rows.list_map_has fun _ => rfl) (PyProof.Rows.list_map_has fun _ => rfl)) (by rw [es_same]; exact h)

theorem enc_ok (r : Row) (h : ∀ x ∈ r, x < 8) : PyData.strOk (enc r) = true := by
  unfold PyData.strOk enc
  rw [Array.all_eq_true']
  intro c hc
  rw [List.mem_toArray] at hc
  obtain ⟨x, hx, rfl⟩ := List.mem_map.mp hc
  have := (sg8_lt x (h x hx)).1
  exact decide_eq_true (by omega)
theorem sel_mem {fs : List (Row × Nat)} {ln : Int} {i : Nat} {y : PySem.Str} (h : y ∈ selE fs ln i) : ∃ p ∈ fs, (p.2 : Int) = ln ∧ y = enc p.1 := by
  unfold selE at h
  obtain ⟨p, hp, rfl⟩ := List.mem_map.mp h
  obtain ⟨h1, h2⟩ := List.mem_filter.mp hp
  exact ⟨p, List.mem_of_mem_take h1, by simpa using h2, rfl⟩

section
variable {prog : Program} {w : World} {A : Around} {E : Value → Shared → Prop} {h₀ : Heap} {env : Env} {target : Expr} {body : List Stmt} {Q : Flow → Shared → Prop} {s : Shared} {keep : List (Addr × Obj)}
end

noncomputable abbrev nmE := PySem.Str.ofString
/-- what the loop over the least numbers keeps -/
inductive JE (tups : List (Addr × Obj)) (D c4 c3 c2 c1 : Addr) (oD o1 : Obj) (wf ff : Addr × Obj) (m₀ : PySem.Str → Option Value) (I : Addr) (l : List (Int × Tok)) : (PySem.Str → Option Value) → List (Addr × Obj) → Prop
  | mk (o4 o3 o2 : Obj) (v4 v3 v2 : Option Value) (p1 p2 : Array Value) (q1 q2 : List (Addr × Obj)) (w1 w2 w3 : Option Value) : (∀ q ∈ l, 1 ≤ q.1 ∧ q.1 ≤ 4) → TabsOk p1 p2 q1 q2 → o4.data = .cell v4 → o3.data = .cell v3 → o2.data = .cell v2 → (∀ r ∈ LedT p1 p2 q1 q2, r.1 ≠ I) →
    JE tups D c4 c3 c2 c1 oD o1 wf ff m₀ I l (fun y => if y = nmE "rest" then w1 else if y = nmE "share" then w2 else if y = nmE "rows" then w3 else m₀ y) ((D, oD) :: (c4, o4) :: (c3, o3) :: (c2, o2) :: (c1, o1) :: wf :: ff :: (tups ++ LedT p1 p2 q1 q2))
theorem JE.cast {I D c4 c3 c2 c1 : Addr} {tups n : List (Addr × Obj)} {oD o1 : Obj} {wf ff : Addr × Obj} {m₀ m m' : PySem.Str → Option Value} {l : List (Int × Tok)} (e : m' = m) (h : JE tups D c4 c3 c2 c1 oD o1 wf ff m₀ I l m n) : JE tups D c4 c3 c2 c1 oD o1 wf ff m₀ I l m' n := e ▸ h
theorem tail_apart {tups : List (Addr × Obj)} {p1 p2 : Array Value} {q1 q2 : List (Addr × Obj)} (htu : ∀ q ∈ tups, ∃ xs n, q.2.data = .seq xs n) (T : TabsOk p1 p2 q1 q2) : ∀ c, ApartOr c (tups ++ LedT p1 p2 q1 q2) := by
  have all : ∀ q ∈ tups ++ LedT p1 p2 q1 q2, ∀ v, q.2.data ≠ .cell v := fun q hq v e => by
    rcases List.mem_append.mp hq with hq | hq
    · obtain ⟨xs, n, h⟩ := htu q hq; rw [h] at e; cases e
    · obtain ⟨w, h⟩ := T.code q hq; rw [h] at e; cases e
  intro c
  generalize tups ++ LedT p1 p2 q1 q2 = l at all
  induction l with
  | nil => trivial
  | cons p l ih => exact ⟨.inr (all p List.mem_cons_self), ih fun q hq => all q (List.mem_cons_of_mem _ hq)⟩

noncomputable def shareZ (ws : List Int) (r : Row) (x i : Nat) : List Int := ((List.range i).filter (fun k => decide (costP ⟨#[sg8 x]⟩ ⟨#[sg8 (r.getD k 0)]⟩ < 2))).map fun k => ws.getD k 0
noncomputable def EvOk (ws : List Int) (p : Row × Nat) : Prop := (∃ a b c d, p.1 = [a, b, c, d]) ∧ ws.sum.fmod (p.2 : Int) = 0 ∧ ∀ x ∈ p.1, (shareZ ws p.1 x 4).sum = ws.sum.fdiv (p.2 : Int)
noncomputable def NoFld (I : Addr) : List (Addr × Obj) → Prop
  | [] => True
  | q :: r => (q.1 = I ∨ ∀ v, q.2.data ≠ Data.fields v) ∧ NoFld I r
theorem NoFld.all {I : Addr} : ∀ {l : List (Addr × Obj)}, NoFld I l → ∀ q ∈ l, q.1 = I ∨ ∀ v, q.2.data ≠ Data.fields v
  | [], _, _, h => nomatch h
  | _ :: _, x, q, h => by
    rcases List.mem_cons.mp h with rfl | h
    · exact x.1
    · exact NoFld.all x.2 q h
theorem NoFld.of {I : Addr} : ∀ {l : List (Addr × Obj)}, (∀ q ∈ l, ∃ xs n, q.2.data = .seq xs n) → NoFld I l
  | [], _ => trivial
  | q :: l, h => ⟨.inr (fun v e => by obtain ⟨xs, n, h2⟩ := h q List.mem_cons_self; rw [h2] at e; cases e), NoFld.of fun q hq => h q (List.mem_cons_of_mem _ hq)⟩
theorem nf_seq {o : Obj} {xs : Array Value} {n : Nat} (h : o.data = .seq xs n) : ∀ v, o.data ≠ .fields v := fun v e => by rw [h] at e; cases e
theorem nf_cell {o : Obj} {x : Option Value} (h : o.data = .cell x) : ∀ v, o.data ≠ .fields v := fun v e => by rw [h] at e; cases e
theorem ho_of {h₀ h : Heap} {L I : Addr} {all others : List (Addr × Obj)} {p1 p2 : Array Value} {q1 q2 : List (Addr × Obj)} (N : News h₀ L h all) (T : TabsOk p1 p2 q1 q2) (hs : ∀ q ∈ LedT p1 p2 q1 q2, q ∈ all) (hm : ∀ q ∈ others, q ∈ all) (hI : ∀ r ∈ LedT p1 p2 q1 q2, r.1 ≠ I) (hd : NoFld I others) :
    ∀ q ∈ others, q ∈ all ∧ ∀ r ∈ LedT p1 p2 q1 q2, r.1 ≠ q.1 := fun q hq => ⟨hm q hq, fun r hr e => by
  rcases hd.all q hq with h | h
  · exact hI r hr (e.trans h)
  · obtain ⟨v, hv⟩ := T.code r hr
    have h1 := (N r (hs r hr)).1
    have h2 := (N q (hm q hq)).1
    rw [e, h2] at h1
    exact h v (Option.some.inj h1 ▸ hv)⟩
theorem m_rows {a b c : PySem.Str} (ha : c ≠ a) (hb : c ≠ b) (X w1 w2 w3 : Option Value) (m₀ : PySem.Str → Option Value) : (fun y => if y = c then X else if y = a then w1 else if y = b then w2 else if y = c then w3 else m₀ y) = fun y => if y = a then w1 else if y = b then w2 else if y = c then X else m₀ y := by
  funext y
  by_cases h1 : y = c
  · subst h1; simp only [if_true, if_neg ha, if_neg hb]
  by_cases h2 : y = a
  · simp only [if_neg h1, if_pos h2]
  by_cases h3 : y = b
  · simp only [if_neg h1, if_neg h2, if_pos h3]
  · simp only [if_neg h1, if_neg h2, if_neg h3]
theorem m_st3 {a b c : PySem.Str} (m₀ : PySem.Str → Option Value) : m₀ = fun y => if y = a then m₀ a else if y = b then m₀ b else if y = c then m₀ c else m₀ y := by
  funext y
  by_cases h1 : y = a
  · simp only [if_pos h1]; rw [h1]
  by_cases h2 : y = b
  · simp only [if_neg h1, if_pos h2]; rw [h2]
  by_cases h3 : y = c
  · simp only [if_neg h1, if_neg h2, if_pos h3]; rw [h3]
  · simp only [if_neg h1, if_neg h2, if_neg h3]
theorem je_off {I D c4 c3 c2 c1 : Addr} {oD o4 o3 o2 o1 x4 x3 x2 : Obj} {wf ff : Addr × Obj} {tups rest0 r' : List (Addr × Obj)} (kl : ∀ p ∈ (D, oD) :: (c4, x4) :: (c3, x3) :: (c2, x2) :: (c1, o1) :: wf :: ff :: (tups ++ rest0), p.1 < I) (hoI : ∀ r ∈ r', r.1 ≠ I) :
    ∀ p ∈ (D, oD) :: (c4, o4) :: (c3, o3) :: (c2, o2) :: (c1, o1) :: wf :: ff :: (tups ++ r'), p.1 ≠ I := by
  intro p hp
  have k4 := kl (c4, x4) (by simp)
  have k3 := kl (c3, x3) (by simp)
  have k2 := kl (c2, x2) (by simp)
  simp only [List.mem_cons, List.mem_append] at hp
  rcases hp with rfl | rfl | rfl | rfl | rfl | rfl | rfl | hp | hp
  · exact Nat.ne_of_lt (kl _ (by simp))
  · exact Nat.ne_of_lt k4
  · exact Nat.ne_of_lt k3
  · exact Nat.ne_of_lt k2
  · exact Nat.ne_of_lt (kl _ (by simp))
  · exact Nat.ne_of_lt (kl _ (by simp))
  · exact Nat.ne_of_lt (kl _ (by simp))
  · exact Nat.ne_of_lt (kl p (by simp [hp]))
  · exact hoI p hp
/-- what the loop over the rows keeps -/
inductive JR (fs : List (Row × Nat)) (ln : Int) (g1 g2 gI gD : Addr × Obj) (c4 c3 : Addr) (tl : List (Addr × Obj)) (m₀ : PySem.Str → Option Value) (l : List ((Row × Nat) × Tok)) : (PySem.Str → Option Value) → List (Addr × Obj) → Prop
  | mk (o4 o3 : Obj) (v4 v3 : Option Value) : (∀ q ∈ l, q.1 ∈ fs ∧ (q.1.2 : Int) = ln) → o4.data = .cell v4 → o3.data = .cell v3 → JR fs ln g1 g2 gI gD c4 c3 tl m₀ l m₀ (g1 :: g2 :: gI :: gD :: (c4, o4) :: (c3, o3) :: tl)
/-- what the loop over a row's tokens keeps -/
inductive JK (row : Row) (gJ g1 g2 gI gD : Addr × Obj) (c4 : Addr) (tl : List (Addr × Obj)) (m₀ : PySem.Str → Option Value) (l : List Nat) : (PySem.Str → Option Value) → List (Addr × Obj) → Prop
  | mk (o4 : Obj) (v4 : Option Value) : (∀ x ∈ l, x ∈ row) → o4.data = .cell v4 → JK row gJ g1 g2 gI gD c4 tl m₀ l m₀ (gJ :: g1 :: g2 :: gI :: gD :: (c4, o4) :: tl)
theorem sel_all {fs : List (Row × Nat)} {ln : Int} {i : Nat} {C : List Value → Prop} (k : ∀ l : List ((Row × Nat) × Tok), (∀ q ∈ l, q.1 ∈ fs ∧ (q.1.2 : Int) = ln) → StrsAre (l.map fun q => Value.str (enc q.1.1) q.2) (selE fs ln i) → C (l.map fun q => Value.str (enc q.1.1) q.2)) : ∀ ys, StrsAre ys (selE fs ln i) → C ys := by
  intro ys h
  have e : ∀ (ps : List (Row × Nat)) (ys : List Value), StrsAre ys (ps.map fun p => enc p.1) → ∃ l : List ((Row × Nat) × Tok), ys = l.map (fun q => Value.str (enc q.1.1) q.2) ∧ ∀ q ∈ l, q.1 ∈ ps := by
    intro ps
    induction ps with
    | nil => intro ys h; cases h; exact ⟨[], rfl, fun _ h => nomatch h⟩
    | cons p ps ih =>
      intro ys h
      cases h with
      | cons y t r =>
        obtain ⟨l, e1, e2⟩ := ih _ r
        refine ⟨(p, t) :: l, by rw [e1]; rfl, fun q hq => ?_⟩
        rcases List.mem_cons.mp hq with rfl | hq
        · exact List.mem_cons_self
        · exact List.mem_cons_of_mem _ (e2 q hq)
  obtain ⟨l, rfl, e2⟩ := e _ ys h
  refine k l (fun q hq => ?_) h
  obtain ⟨h1, h2⟩ := List.mem_filter.mp (e2 q hq)
  exact ⟨List.mem_of_mem_take h1, by simpa using h2⟩
theorem item_row {a b c d i : Nat} (h : i < 4) : Txt.item (enc [a, b, c, d]) (0 + (i : Int)) = ⟨#[sg8 ([a, b, c, d].getD i 0)]⟩ := by
  obtain rfl | rfl | rfl | rfl : i = 0 ∨ i = 1 ∨ i = 2 ∨ i = 3 := lt4 (by assumption)
  all_goals rfl
theorem ints_at0 {vs : List Value} {ns : List Int} (h : IntsAre vs ns) (i : Nat) (hi : i < ns.length) : ∃ t, vs[(0 + (i : Int)).toNat]? = some (.int (ns.getD i 0) t) := by
  rw [show (0 + (i : Int)).toNat = i by omega]; exact ints_at h i hi
theorem row_toks (r : Row) : List.map (fun c => Itm.tok fun t => Value.str ⟨#[c]⟩ t) (enc r).cps.toList = r.map fun x => Itm.tok fun t => Value.str ⟨#[sg8 x]⟩ t := by
  unfold enc; simp
theorem ev_item {ws : List Int} {p : Row × Nat} {i : Nat} (h : EvOk ws p) (hi : i < 4) : Txt.item (enc p.1) (0 + (i : Int)) = ⟨#[sg8 (p.1.getD i 0)]⟩ := by
  obtain ⟨⟨a, b, c, d, e⟩, _⟩ := h
  rw [e]; exact item_row hi
theorem ev_len {ws : List Int} {p : Row × Nat} (h : EvOk ws p) : (enc p.1).length = 4 := by
  obtain ⟨⟨a, b, c, d, e⟩, _⟩ := h
  rw [e]; rfl
theorem ev_share {ws : List Int} {p : Row × Nat} {ln : Int} {x : Nat} (h : EvOk ws p) (e : (p.2 : Int) = ln) (hx : x ∈ p.1) : (shareZ ws p.1 x 4).sum = ws.sum.fdiv ln := e ▸ h.2.2 x hx
theorem sel_rest {fs : List (Row × Nat)} {ws : List Int} {ln : Int} {i : Nat} (h : selE fs ln i ≠ []) (hev : ∀ p ∈ fs, EvOk ws p) : ws.sum.fmod ln = 0 := by
  cases e : selE fs ln i with
  | nil => exact absurd e h
  | cons y l =>
    obtain ⟨p, hp, hpl, _⟩ := sel_mem (e ▸ List.mem_cons_self : y ∈ selE fs ln i)
    have := (hev p hp).2.1
    rw [hpl] at this; exact this
theorem share_in {ws : List Int} {r : Row} {x i : Nat} {ys : List Value} {t : Tok} (h : IntsAre ys (shareZ ws r x i)) (hc : costP ⟨#[sg8 x]⟩ ⟨#[sg8 (r.getD i 0)]⟩ < 2) : IntsAre (ys ++ [.int (ws.getD i 0) t]) (shareZ ws r x (i + 1)) := by
  unfold shareZ
  rw [List.range_succ, List.filter_append, List.filter_cons_of_pos (by simpa using hc), List.map_append]
  exact IntsAre.append h (.cons _ _ .nil)
theorem share_out {ws : List Int} {r : Row} {x i : Nat} {ys : List Value} (h : IntsAre ys (shareZ ws r x i)) (hc : ¬ costP ⟨#[sg8 x]⟩ ⟨#[sg8 (r.getD i 0)]⟩ < 2) : IntsAre ys (shareZ ws r x (i + 1)) := by
  unfold shareZ
  rw [List.range_succ, List.filter_append, List.filter_cons_of_neg (by simpa using hc), List.filter_nil, List.append_nil]
  exact h

theorem even_div {w : World} {p : Program} {loose : List PySem.Str} {mean : ExcName → Option Value} {mg mb : PySem.Str → Option Value}
  {dp un : Nat} {gd : Option (List Code)} {cn : PySem.Str} {cs : Scope} {L a₁ : Addr} {ccd : Value} {cl : List (PySem.Str × Addr)} {outer : List Env} {A₀ : Around} {base h₀ : Heap} {m : PySem.Str → Option Value} {s : Shared} {Q E : Value → Shared → Prop}
  {p1 p2 : Array Value} {q1 q2 tups : List (Addr × Obj)} {a b : Int} {ta tb : Tok} {g0 gR gI gD g4 g3 g2 g1 wf ff : Addr × Obj} {xR xD xw xf : Array Value} {nR nD nw nf : Nat} {v4 v3 v2 v1 : Option Value}
    (B : Below A₀ base outer h₀) (F : Fr h₀ L s.heap m) (N : News h₀ L s.heap (g0 :: gR :: gI :: gD :: g4 :: g3 :: g2 :: g1 :: wf :: ff :: (tups ++ LedT p1 p2 q1 q2))) (X : (hd.heap_1 w.params).In h₀) (T : Top p loose mean mg mb h₀) (hk : cs.kind = .function)
    (hd : dp + 80 < recursionLimit) (hu : un + 8 * 80 < cLine) (hT : TabsOk p1 p2 q1 q2) (h0 : -4096 < a) (h1 : a < 4096) (h2 : 1 ≤ b) (h3 : b ≤ 4) (hI : ∀ r ∈ LedT p1 p2 q1 q2, r.1 ≠ gI.1) (htu : ∀ q ∈ tups, ∃ xs n, q.2.data = .seq xs n)
    (eR : gR.2.data = .seq xR nR) (eD : gD.2.data = .seq xD nD) (ew : wf.2.data = .seq xw nw) (ef : ff.2.data = .seq xf nf) (e4 : g4.2.data = .cell v4) (e3 : g3.2.data = .cell v3) (e2 : g2.2.data = .cell v2) (e1 : g1.2.data = .cell v1)
    (h : ∀ (r : Addr) (t1 t2 : Tok) (p1' p2' : Array Value) (q1' q2' : List (Addr × Obj)) (h' : Heap) (tk' : Nat), Fr h₀ L h' m → News h₀ L h' ((r, { cls := .type "tuple", data := .seq #[.int (a.fdiv b) t1, .int (a.fmod b) t2] }) :: gR :: gI :: gD :: g4 :: g3 :: g2 :: g1 :: wf :: ff :: (tups ++ LedT p1' p2' q1' q2')) → TabsOk p1' p2' q1' q2' → (∀ r ∈ LedT p1' p2' q1' q2', r.1 ≠ gI.1) → Q (.ref r) { s with heap := h', toks := tk' }) :
    wpAny (model (PySem.Challenge.rw_to0087_01).row.prog w) (ktrTop dp un gd cn cs L a₁ ccd cl outer) (call (.ref 87) [.int a ta, .int b tb]) Q E s := by
  have mem : ∀ q ∈ LedT p1 p2 q1 q2, q ∈ g0 :: gR :: gI :: gD :: g4 :: g3 :: g2 :: g1 :: wf :: ff :: (tups ++ LedT p1 p2 q1 q2) := fun q hq => by
    simp only [List.mem_cons, List.mem_append]
    simp only [LedT, List.mem_cons, List.mem_append] at hq
    rcases hq with hq | hq | hq | hq <;> simp only [hq, true_or, or_true]
  refine use_div (t_div w a b ta tb h0 h1 h2 h3 hT) B F N X T hk hd hu mem (gR :: gI :: gD :: g4 :: g3 :: g2 :: g1 :: wf :: ff :: tups)
    (ho_of (I := gI.1) N hT mem (fun q hq => ?_) hI ⟨.inr (nf_seq eR), .inl rfl, .inr (nf_seq eD), .inr (nf_cell e4), .inr (nf_cell e3), .inr (nf_cell e2), .inr (nf_cell e1), .inr (nf_seq ew), .inr (nf_seq ef), NoFld.of htu⟩) ?_
  · simp only [List.mem_cons, List.mem_append] at hq ⊢
    rcases hq with hq | hq | hq | hq | hq | hq | hq | hq | hq | hq <;> simp only [hq, true_or, or_true]
  · intro r t1 t2 p1' p2' q1' q2' h' tk' F' N' T' ho'
    exact h r t1 t2 p1' p2' q1' q2' h' tk' F' (by simpa only [List.cons_append] using N') T' (ho' gI (List.mem_cons_of_mem _ List.mem_cons_self))

theorem even_mem {a b c d e f g q : Addr × Obj} {t : List (Addr × Obj)} (l : List (Addr × Obj)) (h : q ∈ l) : q ∈ a :: b :: c :: d :: e :: f :: g :: (t ++ l) := by
  simp only [List.mem_cons, List.mem_append, h, or_true]
theorem even_mem7 {a b c d e f g q : Addr × Obj} {t l : List (Addr × Obj)} (h : q ∈ t) : q ∈ a :: b :: c :: d :: e :: f :: g :: (t ++ l) := by
  simp only [List.mem_cons, List.mem_append, h, true_or, or_true]
section
theorem t_even (w : World) {p : Program} {loose : List PySem.Str} {mean : ExcName → Option Value} {mg mb : PySem.Str → Option Value} (Wa Fo : Addr) (wv fv : List Value) (ws : List Int) (kw kf : Nat) (fs : List (Row × Nat)) {tups : List (Addr × Obj)} {p1 p2 : Array Value} {c1 c2 : List (Addr × Obj)} (hT : TabsOk p1 p2 c1 c2) (hw : IntsAre wv ws) (hwl : ws.length = 4) (hfa : FA (fun t o => (t, o) ∈ tups) fs fv) (htu : ∀ q ∈ tups, ∃ xs n, q.2.data = .seq xs n) (hfl : fs.length ≤ 16) (hrow : ∀ p ∈ fs, ∀ x ∈ p.1, x < 8) (hev : ∀ p ∈ fs, EvOk ws p) (hsum : -4096 < ws.sum) (hsum2 : ws.sum < 4096) :
    Cm w p loose mean mg mb PySem.Challenge.rw_to0087_01 345 100 [.ref Wa, .ref Fo] ((Wa, W.listOf wv.toArray kw) :: (Fo, W.listOf fv.toArray kf) :: (tups ++ LedT p1 p2 c1 c2)) (fun h rv h' => rv = .bool true ∧ (∃ ps, h'.get? 61 = some (tabObj ps)) ∧ (∃ ps, h'.get? 68 = some (tabObj ps))) := by
  k_with_none
  k_with "k_lt0" => skip
  k_with "k_ne" => first | exact ne_old (by with_reducible assumption) (by k_mem) | exact ne_new (by with_reducible assumption) (by k_mem) | (refine neN ?_; (try dsimp only); omega)
  k_with "kbo_bools" => first | (refine' UpdC.head ?x; (case x => kbo_bools)) | (refine' UpdC.tail ?y ?x; (case y => first | exact Or.inr (nc_seq rfl) | exact Or.inr (nc_fields rfl) | exact Or.inl (by k_ne)); (case x => kbo_bools)) | ((with_reducible show ApartOr _ _); first | exact trivial | (with_reducible exact (‹∀ c, ApartOr c _› _)) | (refine And.intro (by first | exact Or.inr (nc_seq rfl) | exact Or.inr (nc_fields rfl) | exact Or.inl (by k_ne)) ?_; kbo_bools))
  k_with "exec For Name Tuple cons nil" => (k_here; (rename Fr _ _ _ _ => lF'); (with_unfolding_all refine' For_turns lF' ?_; k_whole))
  k_with "exec For Name Name cons nil" => (k_here; (rename Fr _ _ _ _ => lF'); (with_unfolding_all refine' For_turns lF' ?_; k_whole))
  k_with "pyIter ref" => (k_here; (with_reducible show wpAny _ _ (pyIter (Value.ref _)) (fun it s₂ => TurnsAt _ _ _ _ _ _ _ _ _ it s₂) _ _); (rename Fr _ _ _ _ => lF'); (with_unfolding_all first | refine iter_listTurns (by rfl) lF' (by k_asm) (by k_mem) (by rfl) (by rfl) ?_ | refine iter_tupTurns (by rfl) lF' (by k_asm) (by k_mem) (by rfl) (by rfl) ?_); clear lF'; intro i'_z l1_z; (try k_lt l1_z))
  k_with "pyIter str" => (k_here; (with_reducible show wpAny _ _ (pyIter (Value.str _ _)) (fun it s₂ => TurnsAt _ _ _ _ _ _ _ _ _ it s₂) _ _); (rename Fr _ _ _ _ => lF'); (with_unfolding_all refine iter_strTurns (by rfl) lF' (by k_asm) ?_); clear lF'; intro i'_z T'_z hT'_z l1_z; (try k_lt l1_z))
  k_with "storeName" => (k_here; k_dflt (refine' st_cellC ?zF ?zN ?zc ?zU ?zd ?_ ?za ?zb; (case za => rfl); (case zb => rfl); (case zF => k_asm); (case zN => k_asm); (case zc => rfl); (case zU => kbo_bools); (case zd => k_asm)); intro h'_z o'_z F'_z N'_z d'_z; (try dsimp only at N'_z))
  k_with "exec Assign cons ListComp" => (k_here; k_dflt (refine Assign_PT (_F₀ := by k_asm) (by rfl) (by with_unfolding_all rfl) (by with_unfolding_all rfl) (by decide) (by rfl) (by decide) (by rfl) (by rfl) (by decide) (by rfl) (by rfl) ?_))
  k_with "eval ListComp" => (k_here; first | ((with_reducible show wpAny _ _ (eval (Expr.ListComp _ [⟨Expr.Tuple _ _ _, _, [_], _⟩] _ _) _) _ _ _); k_dflt (refine ListComp_PT (_F₀ := by k_asm) (by with_unfolding_all rfl) (by decide) (by rfl) (by decide) (by rfl) (by rfl) (by decide) ?_)) | ((with_reducible show wpAny _ _ (eval (Expr.ListComp _ [⟨Expr.Name _ _, _, [_], _⟩] _ _) _) _ _ _); k_dflt (refine LCt.ListComp_T (F₀ := by k_asm) (by with_unfolding_all rfl) (by decide) (by rfl) (by decide) (by rfl) ?_)))
  k_with "compareOp NotEq ref ref" => (k_here; (with_reducible show wpAny _ _ (compareOp CmpOp.NotEq (Value.ref _) (Value.ref _)) _ _ _); k_dflt (refine ne_strs (by is_list) (by is_list) (by with_reducible assumption) (by with_reducible assumption) (by first | units_room | exact Nat.le_of_ble_eq_true rfl) ?_))
  k_with "subscriptTail Name Name ref int" => (k_here; (with_reducible show wpAny _ _ (subscriptTail _ _ (Value.ref _) (Value.int _ _)) _ _ _); k_dflt (refine sub_ledK (by k_asm) (by k_mem) (by with_reducible assumption) (by omega) (by omega) ?_ (by with_unfolding_all rfl)))
  k_with "ItemsRest" => (k_here; refine halt ?_)
  k_with "SrcPT" => (k_here; refine halt ?_)
  k_with "call ref" => (k_here; refine halt ?_)
  k_with "CompEnd" => (k_here; refine halt ?_)
  k_with "CompRestT" => (k_here; refine halt ?_)
  k_dflt (refine' Cm.enterC4 (binds := [(nmE "weights", .ref Wa), (nmE "found", .ref Fo)]) (m₀ := fun y => if y = nmE "found" then some (.ref Fo) else none) (v1 := some (.ref Wa)) (v2 := none) (v3 := none) (v4 := none) ?ho ?hcd ?hr ?hb ?hkd ?hnd ?c2 ?c3 ?c4 ?hcf ?hm ?hcm ?h)
  all_goals (try k_fill)
  case ho => k_is
  case hcd => k_is
  case hr => decide
  case hb => exact fun s => BindsTo.of_eq rfl
  case hkd => exact rfl
  case hnd => decide +kernel
  case c2 => exact rfl
  case c3 => exact rfl
  case c4 => exact rfl
  case hcf => exact fun _ => rfl
  case hm => exact fun _ => rfl
  case hcm => exact fun _ => ⟨rfl, rfl, rfl, rfl⟩
  case h =>
  intro dp un gd outer A₀ base g' sh h₁ L' tk gs dr os R o1 o2 o3 o4 hdp hun l1 G' B' X' T' hback d1 d2 d3 d4 F' N'
  clear G'
  w_strict k_steps
  unfold Halt
  refine items_i1 (fun q : Int × Tok => .val (.int q.1 q.2)) (fun q _ => .int q.1 q.2) (JE tups _ _ _ _ _ _ _ _ _ _) [(1, _), (2, _), (3, _), (4, _)] L' rfl rfl is_val (JE.cast (m_st3 _) (JE.mk _ _ _ _ _ _ p1 p2 c1 c2 _ _ _ ?j0 hT d4 d3 d2 ?jI)) ?step ?done
  case j0 =>
    intro q hq
    simp only [List.mem_cons, List.not_mem_nil, or_false] at hq
    rcases hq with rfl | rfl | rfl | rfl <;> (constructor <;> (dsimp only; omega))
  case jI => exact fun r hr => Nat.ne_of_lt ((by with_reducible assumption : ∀ p ∈ (_ :: _ :: _ :: _ :: _ :: _ :: _ :: (tups ++ LedT p1 p2 c1 c2)), p.1 < _) r (even_mem _ hr))
  case done =>
    intro m1 n1 hJ
    cases hJ with
    | mk y4 y3 y2 v4 v3 v2 p1' p2' q1 q2 w1 w2 w3 hl4 hT' e4 e3 e2 hoI =>
    intro h1 tk1 F1 N1
    w_strict k_steps
    exact hback _ _ _ _ _ _ (by k_asm) N1 ⟨rfl, ⟨_, (N1 (61, tabObj p1') (even_mem _ List.mem_cons_self)).1⟩, ⟨_, (N1 (68, tabObj p2') (even_mem _ (List.mem_cons_of_mem _ List.mem_cons_self))).1⟩⟩
  case step =>
    intro x1 r1 m1 n1 hJ
    cases hJ with
    | mk y4 y3 y2 v4 v3 v2 p1' p2' q1 q2 w1 w2 w3 hl4 hT' e4 e3 e2 hoI =>
    intro _ h1 gs1 dr1 tk1 os1 oI1 R1 cI1 hend1 F1 N1
    have hln := hl4 _ List.mem_cons_self
    have hap := tail_apart htu hT'
    w_strict k_steps
    unfold Halt
    k_dflt (refine srcPT_il (fun i ys => StrsAre ys (selE fs x1.1 i)) (fun i v₁ v₂ => ∃ p a b, fs[i]? = some p ∧ v₁ = .str (enc p.1) a ∧ v₂ = .int (p.2 : Int) b) rfl (by k_asm) (by k_asm) (by k_mem) ?size .nil (fun i ys h => sel_len h) ?item ?turn ?fin)
    case size => rw [List.size_toArray, hfa.len]; exact Nat.le_trans hfl (by decide)
    case item =>
      intro i v hv
      obtain ⟨p, t, a, b, hp, rfl, hmt⟩ := FA.at hfa (i := i) (v := v) (by simpa using hv)
      exact ⟨t, FO p a b, _, _, _, rfl, List.mem_cons_of_mem _ (even_mem7 hmt), rfl, rfl, p, a, b, hp, rfl, rfl⟩
    case turn =>
      intro i ys v₁ v₂ hG hp I2 oI2 C2 oC2 D2 m2 h2 gs2 dr2 tk2 os2 E2 R2 R20 hC2 hx2 hy2 off2 ne2 hin2 hout2 F2 N2
      obtain ⟨p, a, b, hp, rfl, rfl⟩ := hp
      w_strict k_steps
      · exact hin2 _ _ _ (by k_asm) (by k_asm) (sel_in hG hp (by assumption))
      · exact hout2 _ _ (by k_asm) (by k_asm) (sel_out hG hp (by assumption))
    case fin =>
      intro g9
      refine sel_all ?_
      intro lr hlr hG
      have hok : ∀ y ∈ selE fs x1.1 fv.toArray.size, PyData.strOk y = true := fun y hy => by
        obtain ⟨p, hp, _, rfl⟩ := sel_mem hy
        exact enc_ok _ (hrow p hp)
      unfold LCg.FinA
      intro D2' h2' tk2' F2' N2' o12'
      (try dsimp only)
      w_strict k_steps
      · exact hend1 _ _ _ _ (by k_asm) (news_tl2 (by k_asm)) (je_off (by with_reducible assumption) hoI) ⟨List.mem_cons_self, trivial⟩ (JE.cast (m_rows (by decide) (by decide) _ _ _ _ _) (JE.mk _ _ _ _ _ _ _ _ _ _ _ _ _ (fun q hq => hl4 q (List.mem_cons_of_mem _ hq)) hT' e4 e3 (by with_reducible assumption) hoI))
      · unfold Halt
        have hrest9 := sel_rest (by assumption) hev
        refine even_div (by k_asm) (by k_asm) (by k_asm) (by k_asm) (by k_asm) rfl (room_le hdp (by decide)) (room_le hun (by decide)) hT' hsum hsum2 hln.1 hln.2 hoI htu rfl rfl rfl rfl (by assumption) (by assumption) (by assumption) (by assumption) ?_
        intro r9 t91 t92 p1n p2n q1n q2n h9 tk9 F9 N9 hT9 hoI9
        rw [hrest9] at N9
        have hap9 := tail_apart htu hT9
        w_strict k_steps
        unfold Halt
        refine items_i1 (fun q : (Row × Nat) × Tok => .val (.str (enc q.1.1) q.2)) (fun q _ => .str (enc q.1.1) q.2) (fun _ => JR fs x1.1 _ _ _ _ _ _ _ _) lr L' rfl (by rw [List.map_map]; rfl) is_val (JR.mk _ _ _ _ hlr e4 e3) ?rstep ?rdone
        case rdone =>
          intro m5 n5 hJ5
          cases hJ5 with
          | mk o45 o35 v45 v35 hl5 d45 d35 =>
          intro h5 tk5 F5 N5
          w_strict k_steps
          exact hend1 _ _ _ _ (by k_asm) (news_tl2 (by k_asm)) (je_off (by with_reducible assumption) hoI9) ⟨List.mem_cons_self, trivial⟩ (JE.cast (mq_three _ _ _ _ _ _ _) (JE.mk _ _ _ _ _ _ _ _ _ _ _ _ _ (fun q hq => hl4 q (List.mem_cons_of_mem _ hq)) hT9 d45 d35 (by with_reducible assumption) hoI9))
        case rstep =>
          intro x5 r5 m5 n5 hJ5
          cases hJ5 with
          | mk o45 o35 v45 v35 hl5 d45 d35 =>
          intro _ h5 gs5 dr5 tk5 os5 oI5 R5 cI5 hend5 F5 N5
          have hp5 := hl5 _ List.mem_cons_self
          have ev5 := hev _ hp5.1
          w_strict k_steps
          unfold Halt
          refine items_i1 (fun x : Nat => .tok fun t => .str ⟨#[sg8 x]⟩ t) (fun x t => .str ⟨#[sg8 x]⟩ t) (fun _ => JK x5.1.1 _ _ _ _ _ _ _ _) x5.1.1 L' rfl (row_toks _) is_tok (JK.mk o45 _ (fun x hx => hx) d45) ?tstep ?tdone
          case tdone =>
            intro m6 n6 hJ6
            cases hJ6 with
            | mk o46 v46 hl6 d46 =>
            intro h6 tk6 F6 N6
            w_strict k_steps
            exact hend5 _ _ _ _ (by k_asm) N6 (off_map (by with_reducible assumption) (by rfl)) ⟨by k_mem, trivial⟩ (JR.mk _ _ _ _ (fun q hq => hl5 q (List.mem_cons_of_mem _ hq)) d46 (by with_reducible assumption))
          case tstep =>
            intro x6 r6 m6 n6 hJ6
            cases hJ6 with
            | mk o46 v46 hl6 d46 =>
            intro t6 h6 gs6 dr6 tk6 os6 oI6 R6 cI6 hend6 F6 N6
            have hshx := ev_share ev5 hp5.2 (hl6 _ List.mem_cons_self)
            w_strict k_steps
            k_dflt (refine LCt.CompSrcT.range (n := 4) (by rfl) (by k_asm) (by k_asm) (by assumption) (by first | decide | rfl) (by first | rfl | decide) (by decide) ?_)
            intro g7
            refine restT_il (n := 4) (fun i ys => IntsAre ys (shareZ ws x5.1.1 x6 i)) trivial .nil ?rf ?rs
            case rs =>
              intro i7 hi7 ys7 hG7 v7 hv7 I7 oI7 C7 oC7 D7 m7 h7 gs7 dr7 tk7 os7 E7 R7 R70 hC7 hx7 F7 N7 off7 ne7 hin7 hout7
              obtain ⟨tv7, rfl⟩ := hv7
              have hl5' := ev_len ev5
              have hit7 := ev_item ev5 hi7
              obtain ⟨t97, ht7⟩ := ints_at0 hw i7 (hwl ▸ hi7)
              w_strict k_steps
              rw [hit7]
              unfold Halt
              refine Cl.use (t_subst w _ _ _ _ (Nat.le_refl 1) (Nat.le_refl 1)) (by k_asm) (by k_asm) (by k_asm) (by k_asm) (by k_asm) rfl (room_le hdp (by decide)) (room_le hun (by decide)) trivial ?_
              intro v8 h8 tk8 I8 F8 N8 hp8
              clear I8
              obtain ⟨t8, rfl⟩ := hp8
              w_strict k_steps
              · exact hin7 _ _ _ (by k_asm) (by k_asm) (share_in hG7 (by assumption))
              · exact hout7 _ _ (by k_asm) (by k_asm) (share_out hG7 (by omega))
            case rf =>
              intro ys7 hG7
              unfold LCg.FinE
              intro D7 h7 tk7 F7 N7 o17
              (try dsimp only)
              w_strict k_steps
              · exact absurd hshx (by assumption)
              · exact hend6 _ _ _ _ (by k_asm) (news_tl (by k_asm)) (off_map (by with_reducible assumption) (by rfl)) trivial (JK.mk _ _ (fun x hx => hl6 x (List.mem_cons_of_mem _ hx)) (by with_reducible assumption))
end
end Mine
end
/-! # Tpa2 -/
section
theorem Mine.reset_Tpa2 : True := by (w_top off); k_with_none; trivial
open PySem PySem.W PyProof.Rows
set_option Elab.async false
set_option maxRecDepth 100000
set_option maxHeartbeats 400000000
open PyProof.Rows.LCg PyProof.Rows.LCt
namespace Mine

noncomputable abbrev Road (g d : Nat) (a b : Tok) : Obj := W.listOf #[.str (enc [g]) a, .str (enc [d]) b] 2
noncomputable abbrev TupO (p : Row × Row) (a b : Tok) : Obj := { cls := .type "tuple", data := .seq #[.str (enc p.1) a, .str (enc p.2) b] }
noncomputable abbrev Rd := Addr × Nat × Nat × Tok × Tok
noncomputable def RdsIn (rs : List Rd) (acc : List (Addr × Obj)) : Prop := ∀ q ∈ rs, (q.1, Road q.2.1 q.2.2.1 q.2.2.2.1 q.2.2.2.2) ∈ acc ∧ q.2.1 < 4 ∧ q.2.2.1 < 4
noncomputable def PA (Q : Addr → Obj → Prop) : List (Row × Row) → List Value → Prop
  | [], [] => True
  | p :: ps, v :: vs => (∃ t a b, v = .ref t ∧ Q t (TupO p a b)) ∧ PA Q ps vs
  | _, _ => False
theorem PA.mono {Q Q' : Addr → Obj → Prop} (h : ∀ t o, Q t o → Q' t o) : ∀ {ps vs}, PA Q ps vs → PA Q' ps vs
  | [], [], _ => trivial
  | _ :: _, _ :: _, ⟨⟨t, a, b, e, q⟩, x⟩ => ⟨⟨t, a, b, e, h _ _ q⟩, PA.mono h x⟩
  | [], _ :: _, x => x.elim
  | _ :: _, [], x => x.elim
theorem PA.snoc {Q : Addr → Obj → Prop} {p : Row × Row} {t : Addr} {a b : Tok} (q : Q t (TupO p a b)) : ∀ {ps vs}, PA Q ps vs → PA Q (ps ++ [p]) (vs ++ [.ref t])
  | [], [], _ => ⟨⟨t, a, b, rfl, q⟩, trivial⟩
  | _ :: _, _ :: _, ⟨h, x⟩ => ⟨h, PA.snoc q x⟩
  | [], _ :: _, x => x.elim
  | _ :: _, [], x => x.elim
theorem PA.len {Q : Addr → Obj → Prop} : ∀ {ps vs}, PA Q ps vs → vs.length = ps.length
  | [], [], _ => rfl
  | _ :: _, _ :: _, ⟨_, x⟩ => by simp [PA.len x]
  | [], _ :: _, x => x.elim
  | _ :: _, [], x => x.elim
noncomputable def ClsLT (acc : List (Addr × Obj)) : Prop := ∀ q ∈ acc, q.2.cls = .type "list" ∨ q.2.cls = .type "tuple"
noncomputable abbrev nm := PySem.Str.ofString
noncomputable def RowsOk (k : Nat) (ps : List (Row × Row)) : Prop := ∀ p ∈ ps, p.1.length + k = 4 ∧ p.2.length + k = 4 ∧ (∀ x ∈ p.1, x < 8) ∧ ∀ x ∈ p.2, x < 8
/-- a painting with the tuple that holds it -/
noncomputable abbrev Pt := (Row × Row) × Addr × Tok × Tok
noncomputable def PtsIn (l : List Pt) (acc : List (Addr × Obj)) : Prop := ∀ q ∈ l, (q.2.1, TupO q.1 q.2.2.1 q.2.2.2) ∈ acc
noncomputable abbrev PtL (l : List Pt) : List Value := l.map fun q => .ref q.2.1
/-- what the loop over the roads keeps -/
inductive JO (goal : List (Row × Row)) (l0 : Addr × Obj) (rest : List (Addr × Obj)) (rs : List Rd) : (PySem.Str → Option Value) → List (Addr × Obj) → Prop
  | mk (l : List Pt) (k : Nat) (P : Addr) (acc : List (Addr × Obj)) (m : PySem.Str → Option Value) : m (nm "paintings") = some (.ref P) → RdsIn rs acc → PtsIn l acc → ClsLT acc → rs.foldl (fun ps q => paintTurnN q.2.1 q.2.2.1 ps) (l.map (·.1)) = goal → l.length * 2 ^ rs.length ≤ 16 → RowsOk rs.length (l.map (·.1)) →
    (∀ q ∈ l0 :: rest, q ∈ acc) → (∀ q ∈ l0 :: rest, q.1 ≠ P) → JO goal l0 rest rs m ((P, W.listOf (PtL l).toArray k) :: acc)
/-- what the loop over the paintings keeps -/
inductive JI (g d K : Nat) (goal : List (Row × Row)) (Q : Addr) (q1 q2 q3 : Addr × Obj) (acc : List (Addr × Obj)) (tg td : Tok) (pr : List Pt) : (PySem.Str → Option Value) → List (Addr × Obj) → Prop
  | mk (res : List Pt) (k : Nat) (acc' : List (Addr × Obj)) (m : PySem.Str → Option Value) : m (nm "longer") = some (.ref Q) → m (nm "ring") = some (.str (enc [g]) tg) → m (nm "drawn") = some (.str (enc [d]) td) → PtsIn pr acc → PtsIn res acc' → (∀ q ∈ acc, q ∈ acc') → (∀ q ∈ acc', q.1 ≠ Q) → ClsLT acc' → RowsOk (K + 1) (pr.map (·.1)) → res.map (·.1) ++ paintTurnN g d (pr.map (·.1)) = goal →
    JI g d K goal Q q1 q2 q3 acc tg td pr m ((Q, W.listOf (PtL res).toArray k) :: q1 :: q2 :: q3 :: acc')
theorem enc_size (a : Row) : (enc a).length = a.length := by
  show ((a.map sg8).toArray).size = _
  simp
section
variable {prog : Program} {w : World} {A : Around} {E : Value → Shared → Prop} {s : Shared} {a b : Row} {t u : Tok} {Q : Value → Shared → Prop}
theorem enc_add (hl : a.length + b.length ≤ 8) (h : ∀ t' tk, Q (.str (enc (a ++ b)) t') { s with toks := tk }) : wpAny (model prog w) A (binaryOp .Add (.str (enc a) t) (.str (enc b) u)) Q E s :=
  PyProof.Rows.add_str (fun t' tk => by rw [enc_app]; exact h t' tk) (by rw [enc_size, enc_size]; exact Nat.le_trans hl (by decide))
theorem short {n : Nat} (h : n ≤ 8) : Builtin.Str.tooLong n = false := by
  have : ∀ k, k < 9 → Builtin.Str.tooLong k = false := by decide
  exact this n (by omega)
theorem enc_upper {x : Nat} (hx : x < 4) (h : ∀ t' k, Q (.str (enc [x + 4]) t') { s with toks := k }) : wpAny (model prog w) A (call (.builtin "str.upper") [.str (enc [x]) t]) Q E s :=
  KXw.upper (upper_enc hx) (by rw [upper_enc hx, enc_size]; exact short (by simp)) h
theorem enc_lower (hx : ∀ x ∈ a, x < 8) (hl : a.length ≤ 8) (h : ∀ t' k, Q (.str (enc (a.map (· % 4))) t') { s with toks := k }) : wpAny (model prog w) A (call (.builtin "str.lower") [.str (enc a) t]) Q E s :=
  KXw.lower (low_enc hx) (by rw [low_enc hx, enc_size, List.length_map]; exact short hl) h
end

theorem bne_g {g d : Nat} (hg : g < 4) (hd : d < 4) : (enc [g] != enc [d]) = (g != d) := by
  show (!(enc [g] == enc [d])) = _
  rw [enc_eq (by intro x hx; rw [List.mem_singleton.mp hx]; omega) (by intro x hx; rw [List.mem_singleton.mp hx]; omega)]
  show (!([g] == [d])) = !(g == d)
  congr 1
  simp
theorem bne_l (a b : Row) : (enc (a.map (· % 4)) != enc (b.map (· % 4))) = (a.map (· % 4) != b.map (· % 4)) := by
  have h4 : ∀ l : Row, ∀ x ∈ l.map (· % 4), x < 8 := fun l x hx => by
    obtain ⟨y, _, rfl⟩ := List.mem_map.mp hx
    have := Nat.mod_lt y (show 0 < 4 by decide)
    omega
  show (!(_ == _)) = !(_ == _)
  rw [enc_eq (h4 a) (h4 b)]
theorem pt_two {g d : Nat} {p : Row × Row} {pr : List (Row × Row)} (h : (g != d) = true) (h' : (p.1.map (· % 4) != p.2.map (· % 4)) = true) : paintTurnN g d (p :: pr) = (p.1 ++ [g], p.2 ++ [d + 4]) :: (p.1 ++ [d + 4], p.2 ++ [g]) :: paintTurnN g d pr := by
  unfold paintTurnN
  rw [List.flatMap_cons, h, h']; rfl
theorem pt_one {g d : Nat} {p : Row × Row} {pr : List (Row × Row)} (h : ((g != d) && (p.1.map (· % 4) != p.2.map (· % 4))) = false) : paintTurnN g d (p :: pr) = (p.1 ++ [g], p.2 ++ [d + 4]) :: paintTurnN g d pr := by
  unfold paintTurnN
  rw [List.flatMap_cons, h]; rfl
theorem pt_len (g d : Nat) (ps : List (Row × Row)) : (paintTurnN g d ps).length ≤ 2 * ps.length := by
  unfold paintTurnN
  induction ps with
  | nil => exact Nat.le_refl _
  | cons p ps ih =>
    rw [List.flatMap_cons, List.length_append, List.length_cons]
    have : ((p.1 ++ [g], p.2 ++ [d + 4]) :: (if (g != d && (p.1.map (· % 4) != p.2.map (· % 4))) = true then [(p.1 ++ [d + 4], p.2 ++ [g])] else [])).length ≤ 2 := by split <;> simp
    simp only [List.length_cons] at this ⊢
    omega
theorem pt_rows {g d K : Nat} (hg : g < 4) (hd : d < 4) {ps : List (Row × Row)} (h : RowsOk (K + 1) ps) : RowsOk K (paintTurnN g d ps) := by
  intro q hq
  obtain ⟨p, hp, hq⟩ := List.mem_flatMap.mp hq
  obtain ⟨h1, h2, h3, h4⟩ := h p hp
  have e : q = (p.1 ++ [g], p.2 ++ [d + 4]) ∨ q = (p.1 ++ [d + 4], p.2 ++ [g]) := by
    rcases List.mem_cons.mp hq with e | hq
    · exact .inl e
    · split at hq
      · exact .inr (List.mem_singleton.mp hq)
      · cases hq
  have lt : ∀ (l : Row) (y : Nat), (∀ x ∈ l, x < 8) → y < 8 → ∀ x ∈ l ++ [y], x < 8 := fun l y hl hy x hx => by
    rcases List.mem_append.mp hx with hx | hx
    · exact hl x hx
    · rw [List.mem_singleton.mp hx]; exact hy
  rcases e with rfl | rfl
  · exact ⟨by simp only [List.length_append, List.length_singleton]; omega, by simp only [List.length_append, List.length_singleton]; omega, lt _ _ h3 (by omega), lt _ _ h4 (by omega)⟩
  · exact ⟨by simp only [List.length_append, List.length_singleton]; omega, by simp only [List.length_append, List.length_singleton]; omega, lt _ _ h3 (by omega), lt _ _ h4 (by omega)⟩
theorem cls_off {h₀ h' : Heap} {L I : Addr} {oI : Obj} {all acc : List (Addr × Obj)} (N : News h₀ L h' all) (hI : (I, oI) ∈ all) (hcI : oI.cls = .type "list_iterator") (hs : ∀ p ∈ acc, p ∈ all) (hcl : ClsLT acc) : ∀ p ∈ acc, p.1 ≠ I := fun p hp e => by
  have h1 := (N _ (hs p hp)).1
  have h2 := (N _ hI).1
  rw [e, h2] at h1
  have h3 := Option.some.inj h1
  have h4 := hcl p hp
  rw [← h3, hcI] at h4
  rcases h4 with h4 | h4
  · exact absurd h4 (by decide)
  · exact absurd h4 (by decide)
theorem pi_end {h₀ h' : Heap} {L Q I : Addr} {m' : PySem.Str → Option Value} {tk g d K k2 : Nat} {goal : List (Row × Row)} {q1 q2 q3 : Addr × Obj} {oI : Obj} {acc acc' new' all : List (Addr × Obj)} {tg td : Tok} {pr res' : List Pt} {gs : Array GenState} {dr : Drawn} {os : OsState} {R : Flow → Shared → Prop}
    (hend : ∀ h' tk' m' n', Fr h₀ L h' m' → News h₀ L h' ((I, oI) :: n') → (∀ p ∈ n', p.1 ≠ I) → SubL [q3] n' → JI g d K goal Q q1 q2 q3 acc tg td pr m' n' → R .next ⟨h', gs, dr, tk', os⟩)
    (F : Fr h₀ L h' m') (N : News h₀ L h' all) (hI : (I, oI) ∈ all) (hsub : ∀ p ∈ (Q, W.listOf (PtL res').toArray k2) :: q1 :: q2 :: q3 :: (new' ++ acc'), p ∈ all) (hcI : oI.cls = .type "list_iterator") (h4 : ∀ p ∈ (Q, W.listOf (PtL res').toArray k2) :: q1 :: q2 :: q3 :: [], p.1 ≠ I)
    (m1 : m' (nm "longer") = some (.ref Q)) (m2 : m' (nm "ring") = some (.str (enc [g]) tg)) (m3 : m' (nm "drawn") = some (.str (enc [d]) td))
    (hcl : ClsLT (new' ++ acc')) (hneQ : ∀ q ∈ new' ++ acc', q.1 ≠ Q) (hpr : PtsIn pr acc) (hres : PtsIn res' (new' ++ acc')) (hacc : ∀ q ∈ acc, q ∈ acc') (hok : RowsOk (K + 1) (pr.map (·.1))) (hg : res'.map (·.1) ++ paintTurnN g d (pr.map (·.1)) = goal) : R .next ⟨h', gs, dr, tk, os⟩ := by
  have off := cls_off N hI hcI (fun p hp => hsub p (List.mem_cons_of_mem _ (List.mem_cons_of_mem _ (List.mem_cons_of_mem _ (List.mem_cons_of_mem _ hp))))) hcl
  refine hend h' tk m' _ F (fun p hp => ?_) (fun p hp => ?_) ⟨List.mem_cons_of_mem _ (List.mem_cons_of_mem _ (List.mem_cons_of_mem _ List.mem_cons_self)), trivial⟩ (JI.mk res' k2 (new' ++ acc') m' m1 m2 m3 hpr hres (fun q hq => List.mem_append_right _ (hacc q hq)) hneQ hcl hok hg)
  · rcases List.mem_cons.mp hp with rfl | hp
    · exact N _ hI
    · exact N _ (hsub p hp)
  · simp only [List.mem_cons] at hp h4
    rcases hp with hp | hp | hp | hp | hp
    · exact h4 p (.inl hp)
    · exact h4 p (.inr (.inl hp))
    · exact h4 p (.inr (.inr (.inl hp)))
    · exact h4 p (.inr (.inr (.inr (.inl hp))))
    · exact off p hp
theorem po_end {h₀ h' : Heap} {L Q P I : Addr} {m' : PySem.Str → Option Value} {tk k2 : Nat} {goal : List (Row × Row)} {oP oI : Obj} {acc acc' all rest : List (Addr × Obj)} {l0 : Addr × Obj} {l : List Pt} {rs : List Rd} {ps : List (Row × Row)} {gs : Array GenState} {dr : Drawn} {os : OsState} {R : Flow → Shared → Prop}
    (hend : ∀ h' tk' m' n', Fr h₀ L h' m' → News h₀ L h' ((I, oI) :: n') → (∀ p ∈ n', p.1 ≠ I) → SubL [l0] n' → JO goal l0 rest rs m' n' → R .next ⟨h', gs, dr, tk', os⟩)
    (F : Fr h₀ L h' m') (N : News h₀ L h' all) (hI : (I, oI) ∈ all) (hsub : ∀ p ∈ (Q, W.listOf (PtL l).toArray k2) :: (P, oP) :: acc', p ∈ all) (hcI : oI.cls = .type "list_iterator") (hP : oP.cls = .type "list")
    (hm : m' (nm "paintings") = some (.ref Q)) (hcl : ClsLT acc') (hrd : RdsIn rs acc) (hss : ∀ q ∈ acc, q ∈ acc') (hpa : PtsIn l acc') (hl : l.map (·.1) ++ [] = ps) (hfold : rs.foldl (fun ps q => paintTurnN q.2.1 q.2.2.1 ps) ps = goal) (hsz : ps.length * 2 ^ rs.length ≤ 16) (hok : RowsOk rs.length ps) (hk : ∀ q ∈ l0 :: rest, q ∈ acc) (hneQ : ∀ q ∈ acc', q.1 ≠ Q) : R .next ⟨h', gs, dr, tk, os⟩ := by
  rw [List.append_nil] at hl
  subst hl
  rw [List.length_map] at hsz
  have hcl2 : ClsLT ((Q, W.listOf (PtL l).toArray k2) :: (P, oP) :: acc') := fun q hq => by
    rcases List.mem_cons.mp hq with rfl | hq
    · exact .inl rfl
    rcases List.mem_cons.mp hq with rfl | hq
    · exact .inl hP
    · exact hcl q hq
  have off := cls_off N hI hcI hsub hcl2
  refine hend h' tk m' _ F (fun p hp => ?_) off ⟨List.mem_cons_of_mem _ (List.mem_cons_of_mem _ (hss _ (hk _ List.mem_cons_self))), trivial⟩ (JO.mk l k2 Q ((P, oP) :: acc') m' hm (fun q hq => ⟨List.mem_cons_of_mem _ (hss _ (hrd q hq).1), (hrd q hq).2⟩) (fun q hq => List.mem_cons_of_mem _ (hpa q hq)) (fun q hq => hcl2 q (List.mem_cons_of_mem _ hq)) hfold hsz hok (fun q hq => List.mem_cons_of_mem _ (hss _ (hk q hq))) (fun q hq => hneQ q (hss _ (hk q hq))))
  rcases List.mem_cons.mp hp with rfl | hp
  · exact N _ hI
  · exact N _ (hsub p hp)
theorem PtsIn.pa {acc : List (Addr × Obj)} {Q : Addr → Obj → Prop} : ∀ {l : List Pt}, PtsIn l acc → (∀ t o, (t, o) ∈ acc → Q t o) → PA Q (l.map (·.1)) (PtL l)
  | [], _, _ => trivial
  | q :: l, x, h => ⟨⟨q.2.1, q.2.2.1, q.2.2.2, rfl, h _ _ (x q List.mem_cons_self)⟩, PtsIn.pa (fun r hr => x r (List.mem_cons_of_mem _ hr)) h⟩
theorem po_post {h g h1 : Heap} {L P : Addr} {led acc : List (Addr × Obj)} {l : List Pt} {k : Nat} {goal : List (Row × Row)} (G : GSub h g (led.map (·.1))) (N : News g L h1 ((P, W.listOf (PtL l).toArray k) :: acc)) (hkeep : ∀ q ∈ led, q ∈ acc) (hP : ∀ q ∈ led, q.1 ≠ P)
    (hls : ∀ p ∈ led, p.2.cls = .type "list") (hpa : PtsIn l acc) (hg : l.map (·.1) = goal) :
    (∀ q ∈ led, h1.get? q.1 = some q.2) ∧ ∃ r vs k, Value.ref P = .ref r ∧ h1.get? r = some (W.listOf vs.toArray k) ∧ h.get? r = none ∧ PA (fun t o => h1.get? t = some o ∧ h.get? t = none) goal vs := by
  subst hg
  have nn : ∀ b o, (b, o) ∈ (P, W.listOf (PtL l).toArray k) :: acc → (b ∉ led.map (·.1)) → h.get? b = none := fun b o hm hb => by
    cases e : h.get? b with
    | none => rfl
    | some o' =>
      have z := (N _ hm).2.2
      dsimp only at z
      rw [G b o' e hb] at z; cases z
  refine ⟨fun q hq => (N q (List.mem_cons_of_mem _ (hkeep q hq))).1, P, PtL l, k, rfl, (N _ List.mem_cons_self).1, nn P _ List.mem_cons_self fun hb => ?_, ?_⟩
  · obtain ⟨q, hq, e⟩ := List.mem_map.mp hb
    exact hP q hq e
  · refine PtsIn.pa (acc := acc.filter fun q => q.2.cls == .type "tuple") (fun q hq => List.mem_filter.mpr ⟨hpa q hq, rfl⟩) fun t o hm => ?_
    obtain ⟨hm, hc⟩ := List.mem_filter.mp hm
    refine ⟨(N _ (List.mem_cons_of_mem _ hm)).1, nn t _ (List.mem_cons_of_mem _ hm) fun hb => ?_⟩
    obtain ⟨q, hq, e⟩ := List.mem_map.mp hb
    have e1 := (N q (List.mem_cons_of_mem _ (hkeep q hq))).1
    rw [e, (N _ (List.mem_cons_of_mem _ hm)).1] at e1
    have e2 := hls q hq
    rw [← Option.some.inj e1] at e2
    dsimp only at hc
    rw [e2] at hc
    exact absurd hc (by decide)
noncomputable abbrev paintN4 (g0 d0 g1 d1 g2 d2 g3 d3 : Nat) : List (Row × Row) := paintTurnN g3 d3 (paintTurnN g2 d2 (paintTurnN g1 d1 (paintTurnN g0 d0 [([], [])])))
theorem sz_turn {g d k : Nat} {ps : List (Row × Row)} (h : ps.length * 2 ^ (k + 1) ≤ 16) : (paintTurnN g d ps).length * 2 ^ k ≤ 16 := by
  have h1 := pt_len g d ps
  have h2 : (paintTurnN g d ps).length * 2 ^ k ≤ (2 * ps.length) * 2 ^ k := Nat.mul_le_mul_right _ h1
  have h3 : ps.length * 2 ^ (k + 1) = (2 * ps.length) * 2 ^ k := by rw [Nat.pow_succ, Nat.mul_comm (2 ^ k) 2, ← Nat.mul_assoc, Nat.mul_comm ps.length 2]
  omega
section
variable {h₀ h' : Heap} {L Q I D1 D2 t : Addr} {m' : PySem.Str → Option Value} {tk g d K k2 : Nat} {goal : List (Row × Row)} {q1 q2 q3 : Addr × Obj} {oI ot : Obj} {acc acc' : List (Addr × Obj)} {tg td : Tok} {p : Pt} {pr res : List Pt} {gs : Array GenState} {dr : Drawn} {os : OsState} {R : Flow → Shared → Prop} {x1 y1 x2 y2 : Tok}
theorem rows_tl {k : Nat} {p : Row × Row} {pr : List (Row × Row)} (h : RowsOk k (p :: pr)) : RowsOk k pr := fun q hq => h q (List.mem_cons_of_mem _ hq)
theorem pts_snoc {l : List Pt} {q : Pt} {a : List (Addr × Obj)} (h : PtsIn l a) (hq : (q.2.1, TupO q.1 q.2.2.1 q.2.2.2) ∈ a) : PtsIn (l ++ [q]) a := fun r hr => by
  rcases List.mem_append.mp hr with hr | hr
  · exact h r hr
  · rw [List.mem_singleton.mp hr]; exact hq
theorem pi_one (hend : ∀ h' tk' m' n', Fr h₀ L h' m' → News h₀ L h' ((I, oI) :: n') → (∀ p ∈ n', p.1 ≠ I) → SubL [q3] n' → JI g d K goal Q q1 q2 q3 acc tg td pr m' n' → R .next ⟨h', gs, dr, tk', os⟩)
    (F : Fr h₀ L h' m') (N : News h₀ L h' ((D1, TupO (p.1.1 ++ [g], p.1.2 ++ [d + 4]) x1 y1) :: (t, ot) :: (I, oI) :: (Q, W.listOf ((PtL res).toArray.push (.ref D1)) k2) :: q1 :: q2 :: q3 :: acc')) (hcI : oI.cls = .type "list_iterator") (h4 : ∀ p ∈ (Q, W.listOf (PtL res).toArray k2) :: q1 :: q2 :: q3 :: [], p.1 ≠ I) (n5 : @Ne Nat D1 Q)
    (m1 : m' (nm "longer") = some (.ref Q)) (m2 : m' (nm "ring") = some (.str (enc [g]) tg)) (m3 : m' (nm "drawn") = some (.str (enc [d]) td))
    (hcl : ClsLT acc') (hneQ : ∀ q ∈ acc', q.1 ≠ Q) (hpr : PtsIn (p :: pr) acc) (hres : PtsIn res acc') (hacc : ∀ q ∈ acc, q ∈ acc') (hok : RowsOk (K + 1) ((p :: pr).map (·.1))) (hg : res.map (·.1) ++ paintTurnN g d ((p :: pr).map (·.1)) = goal)
    (hc : ((g != d) && (p.1.1.map (· % 4) != p.1.2.map (· % 4))) = false) : R .next ⟨h', gs, dr, tk, os⟩ := by
  rw [List.map_cons, pt_one hc] at hg
  have eL : (PtL res).toArray.push (.ref D1) = (PtL (res ++ [((p.1.1 ++ [g], p.1.2 ++ [d + 4]), D1, x1, y1)])).toArray := by simp [PtL]
  rw [eL] at N
  refine pi_end (k2 := k2) (acc' := acc') (new' := [(D1, TupO (p.1.1 ++ [g], p.1.2 ++ [d + 4]) x1 y1)]) hend F N (by simp) (fun q hq => ?_) hcI (fun q hq => ?_) m1 m2 m3 (fun q hq => ?_) (fun q hq => ?_) (fun q hq => hpr q (List.mem_cons_of_mem _ hq)) (pts_snoc (q := ((p.1.1 ++ [g], p.1.2 ++ [d + 4]), D1, x1, y1)) (fun q hq => List.mem_append_right _ (hres q hq)) List.mem_cons_self) hacc (rows_tl hok) (by rw [List.map_append, List.append_assoc]; exact hg)
  · simp only [List.cons_append, List.nil_append, List.mem_cons] at hq ⊢
    rcases hq with hq | hq | hq | hq | hq | hq <;> simp only [hq, true_or, or_true]
  · rcases List.mem_cons.mp hq with rfl | hq
    · exact h4 (Q, W.listOf (PtL res).toArray k2) List.mem_cons_self
    · exact h4 q (List.mem_cons_of_mem _ hq)
  · rcases List.mem_cons.mp hq with rfl | hq
    · exact .inr rfl
    · exact hcl q hq
  · rcases List.mem_cons.mp hq with rfl | hq
    · exact n5
    · exact hneQ q hq
theorem pi_two (hend : ∀ h' tk' m' n', Fr h₀ L h' m' → News h₀ L h' ((I, oI) :: n') → (∀ p ∈ n', p.1 ≠ I) → SubL [q3] n' → JI g d K goal Q q1 q2 q3 acc tg td pr m' n' → R .next ⟨h', gs, dr, tk', os⟩)
    (F : Fr h₀ L h' m') (N : News h₀ L h' ((D2, TupO (p.1.1 ++ [d + 4], p.1.2 ++ [g]) x2 y2) :: (D1, TupO (p.1.1 ++ [g], p.1.2 ++ [d + 4]) x1 y1) :: (t, ot) :: (I, oI) :: (Q, W.listOf (((PtL res).toArray.push (.ref D1)).push (.ref D2)) k2) :: q1 :: q2 :: q3 :: acc')) (hcI : oI.cls = .type "list_iterator") (h4 : ∀ p ∈ (Q, W.listOf (PtL res).toArray k2) :: q1 :: q2 :: q3 :: [], p.1 ≠ I) (n5 : @Ne Nat D1 Q) (n6 : @Ne Nat D2 Q)
    (m1 : m' (nm "longer") = some (.ref Q)) (m2 : m' (nm "ring") = some (.str (enc [g]) tg)) (m3 : m' (nm "drawn") = some (.str (enc [d]) td))
    (hcl : ClsLT acc') (hneQ : ∀ q ∈ acc', q.1 ≠ Q) (hpr : PtsIn (p :: pr) acc) (hres : PtsIn res acc') (hacc : ∀ q ∈ acc, q ∈ acc') (hok : RowsOk (K + 1) ((p :: pr).map (·.1))) (hg : res.map (·.1) ++ paintTurnN g d ((p :: pr).map (·.1)) = goal)
    (hc : (g != d) = true) (hc2 : (p.1.1.map (· % 4) != p.1.2.map (· % 4)) = true) : R .next ⟨h', gs, dr, tk, os⟩ := by
  rw [List.map_cons, pt_two hc hc2] at hg
  have eL : ((PtL res).toArray.push (.ref D1)).push (.ref D2) = (PtL ((res ++ [((p.1.1 ++ [g], p.1.2 ++ [d + 4]), D1, x1, y1)]) ++ [((p.1.1 ++ [d + 4], p.1.2 ++ [g]), D2, x2, y2)])).toArray := by simp [PtL]
  rw [eL] at N
  refine pi_end (k2 := k2) (acc' := acc') (new' := [(D2, TupO (p.1.1 ++ [d + 4], p.1.2 ++ [g]) x2 y2), (D1, TupO (p.1.1 ++ [g], p.1.2 ++ [d + 4]) x1 y1)]) hend F N (by simp) (fun q hq => ?_) hcI (fun q hq => ?_) m1 m2 m3 (fun q hq => ?_) (fun q hq => ?_) (fun q hq => hpr q (List.mem_cons_of_mem _ hq)) (pts_snoc (q := ((p.1.1 ++ [d + 4], p.1.2 ++ [g]), D2, x2, y2)) (pts_snoc (q := ((p.1.1 ++ [g], p.1.2 ++ [d + 4]), D1, x1, y1)) (fun q hq => List.mem_append_right _ (hres q hq)) (List.mem_cons_of_mem _ List.mem_cons_self)) List.mem_cons_self) hacc (rows_tl hok) (by rw [List.map_append, List.map_append, List.append_assoc, List.append_assoc]; exact hg)
  · simp only [List.cons_append, List.nil_append, List.mem_cons] at hq ⊢
    rcases hq with hq | hq | hq | hq | hq | hq | hq <;> simp only [hq, true_or, or_true]
  · rcases List.mem_cons.mp hq with rfl | hq
    · exact h4 (Q, W.listOf (PtL res).toArray k2) List.mem_cons_self
    · exact h4 q (List.mem_cons_of_mem _ hq)
  · rcases List.mem_cons.mp hq with rfl | hq
    · exact .inr rfl
    rcases List.mem_cons.mp hq with rfl | hq
    · exact .inr rfl
    · exact hcl q hq
  · rcases List.mem_cons.mp hq with rfl | hq
    · exact n6
    rcases List.mem_cons.mp hq with rfl | hq
    · exact n5
    · exact hneQ q hq
end
theorem pts_len {g d : Nat} {res pr : List Pt} {ps : List (Row × Row)} (h : res.map (·.1) ++ paintTurnN g d (pr.map (·.1)) = ps) (hl : ps.length ≤ 16) : (PtL res).toArray.size ≤ 32 := by
  have e := congrArg List.length h
  rw [List.length_append, List.length_map] at e
  rw [List.size_toArray, List.length_map]; omega
theorem rows_hd {k : Nat} {x : Pt} {l : List Pt} (h : RowsOk k ((x :: l).map (·.1))) : x.1.1.length + k = 4 ∧ x.1.2.length + k = 4 ∧ (∀ y ∈ x.1.1, y < 8) ∧ ∀ y ∈ x.1.2, y < 8 := h _ List.mem_cons_self
theorem sub_ad {a b c d : Addr × Obj} {l : List (Addr × Obj)} : ∀ p ∈ a :: d :: l, p ∈ a :: b :: c :: d :: l := fun p hp => by
  simp only [List.mem_cons] at hp ⊢
  rcases hp with hp | hp | hp <;> simp only [hp, true_or, or_true]
theorem off_hd4 {Q I : Addr} {o o' : Obj} {q1 q2 q3 : Addr × Obj} {acc : List (Addr × Obj)} (h : ∀ p ∈ (Q, o) :: q1 :: q2 :: q3 :: acc, p.1 < I) : ∀ p ∈ (Q, o') :: q1 :: q2 :: q3 :: [], p.1 ≠ I :=
  off_map (l := (Q, o) :: q1 :: q2 :: q3 :: []) (fun p hp => h p (by simp only [List.mem_cons, List.not_mem_nil, or_false] at hp ⊢; rcases hp with hp | hp | hp | hp <;> simp only [hp, true_or, or_true])) rfl
theorem jo_start {l' D : Addr} {rest : List (Addr × Obj)} {l0 : Addr × Obj} {rs : List Rd} {m : PySem.Str → Option Value} {a b : Tok} (hm : m (nm "paintings") = some (.ref l')) (h4 : rs.length = 4) (hrd : RdsIn rs rest) (hls : ∀ p ∈ l0 :: rest, p.2.cls = .type "list") (hd : ∀ p ∈ (D, TupO ([], []) a b) :: l0 :: rest, p.1 < l') :
    JO (rs.foldl (fun ps q => paintTurnN q.2.1 q.2.2.1 ps) [([], [])]) l0 rest rs m ((l', W.listOf #[.ref D] 0) :: (D, TupO ([], []) a b) :: l0 :: rest) := by
  refine JO.mk [(([], []), D, a, b)] 0 l' ((D, TupO ([], []) a b) :: l0 :: rest) m hm (fun q hq => ⟨List.mem_cons_of_mem _ (List.mem_cons_of_mem _ (hrd q hq).1), (hrd q hq).2⟩) (fun q hq => ?_) (fun q hq => ?_) rfl (show (1 : Nat) * 2 ^ rs.length ≤ 16 by rw [h4]; decide) (fun p hp => ?_) (fun q hq => List.mem_cons_of_mem _ hq) (fun q hq => Nat.ne_of_lt (hd q (List.mem_cons_of_mem _ hq)))
  · rw [List.mem_singleton.mp hq]; exact List.mem_cons_self
  · rcases List.mem_cons.mp hq with rfl | hq
    · exact .inr rfl
    · exact .inl (hls q hq)
  · rw [List.mem_singleton.mp hp]
    exact ⟨by rw [h4]; rfl, by rw [h4]; rfl, (by intro x h; cases h), (by intro x h; cases h)⟩
section
theorem t_paintS (w : World) {p : Program} {loose : List PySem.Str} {mean : ExcName → Option Value} {mg mb : PySem.Str → Option Value} (l : Addr) (kl : Nat) (rs : List Rd) (rest : List (Addr × Obj)) (h4 : rs.length = 4) (hrd : RdsIn rs rest) (hls : ∀ p ∈ rest, p.2.cls = .type "list") :
    Cm w p loose mean mg mb PySem.Challenge.rw_to0087_01 330 12 [.ref l] ((l, W.listOf (rs.map fun q => Value.ref q.1).toArray kl) :: rest) (fun h rv h' => (∀ q ∈ (l, W.listOf (rs.map fun q => Value.ref q.1).toArray kl) :: rest, h'.get? q.1 = some q.2) ∧ ∃ r vs k, rv = .ref r ∧ h'.get? r = some (W.listOf vs.toArray k) ∧ h.get? r = none ∧ PA (fun t o => h'.get? t = some o ∧ h.get? t = none) (rs.foldl (fun ps q => paintTurnN q.2.1 q.2.2.1 ps) [([], [])]) vs) := by
  k_with_none
  k_with "k_all" => with_reducible assumption
  k_with "k_lt0" => skip
  k_with "k_ne" => first | exact ne_old (by with_reducible assumption) (by k_mem) | exact ne_new (by with_reducible assumption) (by k_mem) | (refine neN ?_; (try dsimp only); omega)
  k_with "exec For Tuple Name cons nil" => (k_here; (rename Fr _ _ _ _ => lF'); (with_unfolding_all refine' For_turns lF' ?_; k_whole))
  k_with "pyIter ref" => (k_here; (with_reducible show wpAny _ _ (pyIter (Value.ref _)) (fun it s₂ => TurnsAt _ _ _ _ _ _ _ _ _ it s₂) _ _); (rename Fr _ _ _ _ => lF'); (with_unfolding_all refine iter_listTurns (by rfl) lF' (by k_asm) (by k_mem) (by rfl) (by rfl) ?_); clear lF'; intro i'_z l1_z; (try k_lt l1_z))
  k_with "binaryOp Add str str" => (k_here; k_dflt (refine enc_add (by simp only [List.length_cons, List.length_nil]; omega) ?_); intro t9'_z k9'_z)
  k_with "call builtin:str.upper" => (k_here; k_dflt (refine enc_upper (by with_reducible assumption) ?_); intro t9'_z k9'_z)
  k_with "call builtin:str.lower" => (k_here; k_dflt (refine enc_lower (by with_reducible assumption) (by omega) ?_); intro t9'_z k9'_z)
  k_with "call builtin:list.append" => (k_here; (with_reducible show wpAny _ _ (call (Value.builtin _) [Value.ref _, _]) _ _ _); k_dflt (refine' append_K ?k1 ?k2 ?k3 ?_ ?z; (case k1 => k_asm); (case k2 => k_asm); (case k3 => k_upd); (case z => exact Nat.le_trans (m := 64) (by (try simp only [Array.size_push]); omega) (by decide)); k_whole); intro h'_z F'_z N'_z; (try k_sweep))
  k_with "eval Name" => (k_here; k_dflt (refine' ld_via ?k1 ?k2 ?k3 ?_; (case k1 => k_asm); (case k2 => with_reducible assumption); (case k3 => rfl); k_whole))
  k_with "ItemsRest" => (k_here; refine halt ?_)
  k_dflt (refine' Cm.enter (binds := [(nm "roads", .ref l)]) ?ho ?hcd ?hr ?hb ?hloc ?c2 ?c3 ?c4 ?c5 ?h)
  all_goals (try k_fill)
  case ho => k_is
  case hcd => k_is
  case hr => decide
  case hb => exact fun s => BindsTo.of_eq rfl
  case hloc => exact locs rfl
  case c2 => exact rfl
  case c3 => exact rfl
  case c4 => exact rfl
  case c5 => decide
  case h =>
  intro dp un gd outer A₀ base g' sh h₁ L' tk gs dr os R hdp hun G' B' X' T' hback F' N'
  have hls' : ∀ p ∈ (l, W.listOf (rs.map fun q => Value.ref q.1).toArray kl) :: rest, p.2.cls = .type "list" := List.forall_mem_cons.mpr ⟨rfl, hls⟩
  w_strict k_steps
  unfold Halt
  refine items_i1 (fun q : Rd => .val (.ref q.1)) (fun q _ => .ref q.1) (fun _ => JO (rs.foldl (fun ps q => paintTurnN q.2.1 q.2.2.1 ps) [([], [])]) (l, W.listOf (rs.map fun q => Value.ref q.1).toArray kl) rest) rs L' rfl (by rw [List.map_map]; rfl) is_val (jo_start (by rfl) h4 hrd hls' (by assumption)) ?step ?done
  case done =>
    intro m1 n1 hJ
    cases hJ with
    | mk pl k P acc m hm hrd hpa hcl hfold hsz hok hkeep hneP =>
    intro h1 tk1 F1 N1
    w_strict k_steps
    exact hback _ _ _ _ _ _ (by k_asm) N1 (po_post G' N1 hkeep hneP hls' hpa hfold)
  case step =>
    intro x1 rs1 m1 n1 hJ
    cases hJ with
    | mk pl k P acc m hm hrd hpa hcl hfold hsz hok hkeep hneP =>
    intro _ h1 gs1 dr1 tk1 os1 oI1 R1 cI1 hend1 F1 N1
    obtain ⟨hrq, hg4, hd4⟩ := hrd _ List.mem_cons_self
    have hsz' : (paintTurnN x1.2.1 x1.2.2.1 (pl.map (·.1))).length * 2 ^ rs1.length ≤ 16 := sz_turn (by rw [List.length_map]; exact hsz)
    have hgl : (paintTurnN x1.2.1 x1.2.2.1 (pl.map (·.1))).length ≤ 16 := Nat.le_trans (Nat.le_mul_of_pos_right _ (Nat.two_pow_pos _)) hsz'
    have hok' : RowsOk rs1.length (paintTurnN x1.2.1 x1.2.2.1 (pl.map (·.1))) := pt_rows hg4 hd4 hok
    have N1 := news_dup N1 (List.mem_cons_of_mem _ (List.mem_cons_of_mem _ hrq))
    w_strict k_steps
    unfold Halt
    refine items_i1 (fun q : Pt => .val (.ref q.2.1)) (fun q _ => .ref q.2.1) (fun _ => JI x1.2.1 x1.2.2.1 rs1.length (paintTurnN x1.2.1 x1.2.2.1 (pl.map (·.1))) _ _ _ _ _ _ _) pl L' rfl (by rw [List.map_map]; rfl) is_val (JI.mk [] 0 acc _ rfl rfl rfl hpa (fun _ h => nomatch h) (fun _ h => h) ?jq hcl hok rfl) ?istep ?idone
    case jq => exact fun q hq => Nat.ne_of_lt ((by with_reducible assumption : ∀ p ∈ (_ :: _ :: _ :: acc), p.1 < _) q (List.mem_cons_of_mem _ (List.mem_cons_of_mem _ (List.mem_cons_of_mem _ hq))))
    case idone =>
      intro m2 n2 hJ2
      cases hJ2 with
      | mk res k' acc' m' hm1 hm2 hm3 hpr hres hsub hne hcl' hok2 hgoal =>
      intro h2 tk2 F2 N2
      w_strict k_steps
      exact po_end hend1 (by k_asm) (by k_asm) (by k_mem) sub_ad cI1 rfl rfl hcl' (fun q hq => hrd q (List.mem_cons_of_mem _ hq)) hsub hres hgoal hfold hsz' hok' hkeep hne
    case istep =>
      intro x2 pr m2 n2 hJ2
      cases hJ2 with
      | mk res k' acc' m' hm1 hm2 hm3 hpr hres hsub hne hcl' hok2 hgoal =>
      intro _ h2 gs2 dr2 tk2 os2 oI2 R2 cI2 hend2 F2 N2
      have htm := hsub _ (hpr _ List.mem_cons_self)
      have N2 := news_dup N2 (List.mem_cons_of_mem _ (List.mem_cons_of_mem _ (List.mem_cons_of_mem _ (List.mem_cons_of_mem _ (List.mem_cons_of_mem _ htm)))))
      have hl1 := (rows_hd hok2).1
      have hl2 := (rows_hd hok2).2.1
      have hx1 := (rows_hd hok2).2.2.1
      have hx2 := (rows_hd hok2).2.2.2
      have htne := hne _ htm
      have hvl := pts_len hgoal hgl
      w_strict k_steps
      · have c1 : (enc [x1.2.1] != enc [x1.2.2.1]) = true := by assumption
        have c2 : (enc (x2.1.1.map (· % 4)) != enc (x2.1.2.map (· % 4))) = true := by assumption
        rw [bne_g hg4 hd4] at c1; rw [bne_l] at c2
        exact pi_two hend2 (by k_asm) (by k_asm) cI2 (off_hd4 (by with_reducible assumption)) (by k_ne) (by k_ne) (by exact hm1) (by exact hm2) (by exact hm3) hcl' hne hpr hres hsub hok2 hgoal c1 c2
      · have c2 : (enc (x2.1.1.map (· % 4)) != enc (x2.1.2.map (· % 4))) = false := by assumption
        rw [bne_l] at c2
        exact pi_one hend2 (by k_asm) (by k_asm) cI2 (off_hd4 (by with_reducible assumption)) (by k_ne) (by exact hm1) (by exact hm2) (by exact hm3) hcl' hne hpr hres hsub hok2 hgoal (by rw [c2, Bool.and_false])
      · have c1 : (enc [x1.2.1] != enc [x1.2.2.1]) = false := by assumption
        rw [bne_g hg4 hd4] at c1
        exact pi_one hend2 (by k_asm) (by k_asm) cI2 (off_hd4 (by with_reducible assumption)) (by k_ne) (by exact hm1) (by exact hm2) (by exact hm3) hcl' hne hpr hres hsub hok2 hgoal (by rw [c1, Bool.false_and])
end
theorem t_paint (w : World) {p : Program} {loose : List PySem.Str} {mean : ExcName → Option Value} {mg mb : PySem.Str → Option Value} (l r0 r1 r2 r3 : Addr) (a0 a1 a2 a3 b0 b1 b2 b3 : Tok) (g0 g1 g2 g3 d0 d1 d2 d3 : Nat) (hg0 : g0 < 4) (hg1 : g1 < 4) (hg2 : g2 < 4) (hg3 : g3 < 4) (hd0 : d0 < 4) (hd1 : d1 < 4) (hd2 : d2 < 4) (hd3 : d3 < 4) :
    Cm w p loose mean mg mb PySem.Challenge.rw_to0087_01 330 12 [.ref l] [(l, W.listOf #[.ref r0, .ref r1, .ref r2, .ref r3] 4), (r0, Road g0 d0 a0 b0), (r1, Road g1 d1 a1 b1), (r2, Road g2 d2 a2 b2), (r3, Road g3 d3 a3 b3)] (fun h rv h' => (∀ q ∈ [(l, W.listOf #[.ref r0, .ref r1, .ref r2, .ref r3] 4), (r0, Road g0 d0 a0 b0), (r1, Road g1 d1 a1 b1), (r2, Road g2 d2 a2 b2), (r3, Road g3 d3 a3 b3)], h'.get? q.1 = some q.2) ∧ ∃ r vs k, rv = .ref r ∧ h'.get? r = some (W.listOf vs.toArray k) ∧ h.get? r = none ∧ PA (fun t o => h'.get? t = some o ∧ h.get? t = none) (paintN4 g0 d0 g1 d1 g2 d2 g3 d3) vs) :=
  t_paintS w l 4 [(r0, g0, d0, a0, b0), (r1, g1, d1, a1, b1), (r2, g2, d2, a2, b2), (r3, g3, d3, a3, b3)] [(r0, Road g0 d0 a0 b0), (r1, Road g1 d1 a1 b1), (r2, Road g2 d2 a2 b2), (r3, Road g3 d3 a3 b3)] rfl
    (by
      intro q hq
      simp only [List.mem_cons, List.not_mem_nil, or_false] at hq
      rcases hq with rfl | rfl | rfl | rfl
      · exact ⟨by k_mem, hg0, hd0⟩
      · exact ⟨by k_mem, hg1, hd1⟩
      · exact ⟨by k_mem, hg2, hd2⟩
      · exact ⟨by k_mem, hg3, hd3⟩)
    (by
      intro p hp
      simp only [List.mem_cons, List.not_mem_nil, or_false] at hp
      rcases hp with rfl | rfl | rfl | rfl <;> rfl)
end Mine
end
/-! # Tread -/
section
theorem Mine.reset_Tread : True := by (w_top off); k_with_none; trivial
open PySem PySem.W PyProof.Rows
set_option Elab.async false
set_option maxRecDepth 100000
set_option maxHeartbeats 400000000
open PyProof.Rows.LCg PyProof.Rows.LCt
namespace Mine

/-- a sign as map_table_b3 gives it -/
noncomputable def mapP (a : PySem.Str) : PySem.Str := (b3P.lookup (cpOf a)).getD (Txt.lower a)
theorem join_one (x : PySem.Str) : Txt.join (PySem.Str.ofString "") [x] = x := by
  show Builtin.Str.glued _ _ = _
  rw [StrLaws.glued_eq_join]
  rfl

section
theorem t_read1 (w : World) {p : Program} {loose : List PySem.Str} {mean : ExcName → Option Value} {mg mb : PySem.Str → Option Value} (a : PySem.Str) (ta : Tok) (ha : a.length = 1) (hs : sgns a = [a]) (h1 : b1P.contains (cpOf a) = false) (hr : (mapP a).length ≤ 4) :
    Cl w p loose mean mg mb PySem.Challenge.rw_to0087_01 316 12 [.str a ta] (fun h => h.get? 95 = some (o95v3 w.params)) (fun _ v _ => ∃ t, v = .str (mapP a) t) := by
  k_with_none
  k_with "CompRestT" => (with_unfolding_all first | (refine CompRestT.succ ?_; intro v'_z I'_z oI'_z C'_z oC'_z D'_z m'_z h'_z tk'_z E'_z hv'_z hC'_z hx'_z F'_z N'_z off'_z ne'_z; (obtain ⟨c9', t9', hc9', hv9'⟩ := hv'_z; cases hc9'; subst hv9'); (try simp only [LCg.Off3, and_true] at off'_z)) | refine CompRestT.zero ?_)
  k_with "eval ListComp" => (k_here; k_dflt (refine ListComp_ST (F₀ := by k_asm) (by with_unfolding_all rfl) (by decide) (by rfl) (by decide) (by rfl) ?_))
  k_with "SrcS" => (k_here; (refine SrcS.intro (by rfl) (by k_asm) (by k_asm) (by assumption) (by assumption) (by decide) ?_); intro g')
  k_with "call ref" => (k_here; k_dflt (first | ((refine' Cl.use (t_b1 _ _ _ (by assumption)) ?k1 ?k2 ?k3 ?k4 ?k5 ?kK ?kd ?ku ?kp ?_; (case k1 => k_asm); (case k2 => k_asm); (case k3 => k_asm); (case k4 => k_asm); (case k5 => k_asm); (case kK => first | exact rfl | assumption); (case kd => ktr_room); (case ku => ktr_units); (case kp => exact Fr.keep (by assumption) _ _ (by assumption)); intro v9 h9 tk9 I9 F9 N9 P9; (try dsimp only at P9)); subst P9) | ((refine' Cl.use (t_map _ _ _ (by assumption)) ?k1 ?k2 ?k3 ?k4 ?k5 ?kK ?kd ?ku ?kp ?_; (case k1 => k_asm); (case k2 => k_asm); (case k3 => k_asm); (case k4 => k_asm); (case k5 => k_asm); (case kK => first | exact rfl | assumption); (case kd => ktr_room); (case ku => ktr_units); (case kp => trivial); intro v9 h9 tk9 I9 F9 N9 P9; (try dsimp only at P9)); obtain ⟨t9, P9⟩ := P9; subst P9)))
  unfold Cl
  k_fill
  intros
  rename_i hpre hret
  try dsimp only at hpre
  refine wpAny_call ?_
  w_strict (k_dflt (refine' enterP ?k1 ?k2 ?k3 ?k5 ?kA ?kF ?kK ?k6 ?k7 ?k8 ?k9 ?kB ?_ ?c2 ?c3 ?c4 ?c5; (case kA => exact rfl); (case kF => exact rfl); (case kK => assumption); (case k1 => k_asm); (case k2 => k_asm); (case k3 => k_asm); (case k5 => k_asm); (case k6 => k_is); (case k7 => k_is); (case k8 => ktr_room); (case k9 => exact BindsTo.of_eq rfl); (case c5 => decide); (case kB => exact locs rfl); (case c2 => exact rfl); (case c3 => exact rfl); (case c4 => exact rfl); k_whole; intro L' h' F' N' B' X' T'; (try dsimp only); (try k_lift B'); (try k_fold)))
  w_strict k_steps
  all_goals refine join_listW (ys := [mapP a]) (News.isList (by k_asm) (by k_mem)) (StrsAre.cons _ _ .nil) (by decide +kernel) (by simp only [List.map_cons, List.map_nil, List.sum_cons, List.sum_nil, List.length_cons, List.length_nil]; omega) ?_
  all_goals intro t8 k8
  all_goals refine back_ (by k_asm) (by k_asm) (fun kE => hret _ _ _ kE ?_)
  all_goals exact mkS (join_one _)
theorem t_read2 (w : World) {p : Program} {loose : List PySem.Str} {mean : ExcName → Option Value} {mg mb : PySem.Str → Option Value} (a b : PySem.Str) (ta : Tok) (hl : (a ++ b).length = 2) (ha : a.length = 1) (hb : b.length = 1) (hs : sgns (a ++ b) = [a, b]) (h1 : b1P.contains (cpOf a) = true) (h2 : b1P.contains (cpOf b) = false) (hr : (mapP b).length ≤ 4) :
    Cl w p loose mean mg mb PySem.Challenge.rw_to0087_01 316 12 [.str (a ++ b) ta] (fun h => h.get? 95 = some (o95v3 w.params)) (fun _ v _ => ∃ t, v = .str (mapP b) t) := by
  k_with_none
  k_with "CompRestT" => (with_unfolding_all first | (refine CompRestT.succ ?_; intro v'_z I'_z oI'_z C'_z oC'_z D'_z m'_z h'_z tk'_z E'_z hv'_z hC'_z hx'_z F'_z N'_z off'_z ne'_z; (obtain ⟨c9', t9', hc9', hv9'⟩ := hv'_z; cases hc9'; subst hv9'); (try simp only [LCg.Off3, and_true] at off'_z)) | refine CompRestT.zero ?_)
  k_with "eval ListComp" => (k_here; k_dflt (refine ListComp_ST (F₀ := by k_asm) (by with_unfolding_all rfl) (by decide) (by rfl) (by decide) (by rfl) ?_))
  k_with "SrcS" => (k_here; (refine SrcS.intro (by rfl) (by k_asm) (by k_asm) (by assumption) (by assumption) (by decide) ?_); intro g')
  k_with "call ref" => (k_here; k_dflt (first | ((refine' Cl.use (t_b1 _ _ _ (by assumption)) ?k1 ?k2 ?k3 ?k4 ?k5 ?kK ?kd ?ku ?kp ?_; (case k1 => k_asm); (case k2 => k_asm); (case k3 => k_asm); (case k4 => k_asm); (case k5 => k_asm); (case kK => first | exact rfl | assumption); (case kd => ktr_room); (case ku => ktr_units); (case kp => exact Fr.keep (by assumption) _ _ (by assumption)); intro v9 h9 tk9 I9 F9 N9 P9; (try dsimp only at P9)); subst P9) | ((refine' Cl.use (t_map _ _ _ (by assumption)) ?k1 ?k2 ?k3 ?k4 ?k5 ?kK ?kd ?ku ?kp ?_; (case k1 => k_asm); (case k2 => k_asm); (case k3 => k_asm); (case k4 => k_asm); (case k5 => k_asm); (case kK => first | exact rfl | assumption); (case kd => ktr_room); (case ku => ktr_units); (case kp => trivial); intro v9 h9 tk9 I9 F9 N9 P9; (try dsimp only at P9)); obtain ⟨t9, P9⟩ := P9; subst P9)))
  unfold Cl
  k_fill
  intros
  rename_i hpre hret
  try dsimp only at hpre
  refine wpAny_call ?_
  w_strict (k_dflt (refine' enterP ?k1 ?k2 ?k3 ?k5 ?kA ?kF ?kK ?k6 ?k7 ?k8 ?k9 ?kB ?_ ?c2 ?c3 ?c4 ?c5; (case kA => exact rfl); (case kF => exact rfl); (case kK => assumption); (case k1 => k_asm); (case k2 => k_asm); (case k3 => k_asm); (case k5 => k_asm); (case k6 => k_is); (case k7 => k_is); (case k8 => ktr_room); (case k9 => exact BindsTo.of_eq rfl); (case c5 => decide); (case kB => exact locs rfl); (case c2 => exact rfl); (case c3 => exact rfl); (case c4 => exact rfl); k_whole; intro L' h' F' N' B' X' T'; (try dsimp only); (try k_lift B'); (try k_fold)))
  w_strict k_steps
  all_goals refine join_listW (ys := [mapP b]) (News.isList (by k_asm) (by k_mem)) (StrsAre.cons _ _ .nil) (by decide +kernel) (by simp only [List.map_cons, List.map_nil, List.sum_cons, List.sum_nil, List.length_cons, List.length_nil]; omega) ?_
  all_goals intro t8 k8
  all_goals refine back_ (by k_asm) (by k_asm) (fun kE => hret _ _ _ kE ?_)
  all_goals exact mkS (join_one _)

end
end Mine
end
/-! # TreadT -/
section
open PySem PySem.W PyProof.Rows
set_option Elab.async false
set_option maxRecDepth 100000
set_option maxHeartbeats 400000000
namespace Mine

/-- the small letter of a place -/
noncomputable def letterP (p : Nat) : PySem.Str := Txt.item (PySem.Str.ofString "abcd") p
noncomputable def okV (s l : PySem.Str) : Bool := sgns s == [s] && s.length == 1 && !b1P.contains (cpOf s) && mapP s == l && l.length == 1
theorem read_let : ((List.range 4).all fun p => !b1P.contains (cpOf (letterP p)) && mapP (letterP p) == letterP p && (letterP p).length == 1) = true := by kernel_rfl
theorem read_01 : ((List.range 4).all fun p => (List.range 2).all fun m => okV (typedV p m 0 0) (letterP p)) = true := by kernel_rfl
theorem read_2 : ((List.range 4).all fun p => (List.range 6).all fun j => okV (typedV p 2 j 0) (letterP p)) = true := by kernel_rfl
theorem read_3 : ((List.range 4).all fun p => (List.range 16).all fun k => sgns (typedV p 3 0 k) == [⟨#[65024 + k]⟩, letterP p] && (typedV p 3 0 k).length == 2 && b1P.contains (cpOf ⟨#[65024 + k]⟩)) = true := by kernel_rfl
theorem read_s {p m j k : Nat} (hp : p < 4) (hm : m < 4) (hj : j < 6) (h3 : m ≠ 3) : okV (typedV p m j k) (letterP p) = true := by
  have a := read_01
  have b := read_2
  simp only [List.all_eq_true, List.mem_range] at a b
  rcases (by omega : m = 0 ∨ m = 1 ∨ m = 2) with rfl | rfl | rfl
  · exact a p hp 0 (by omega)
  · exact a p hp 1 (by omega)
  · exact b p hp j hj
theorem typedV3 (p j k : Nat) : typedV p 3 j k = ⟨#[65024 + k]⟩ ++ letterP p := rfl
/-- a goal is read as it was drawn -/
theorem t_readT (w : World) {pr : Program} {loose : List PySem.Str} {mean : ExcName → Option Value} {mg mb : PySem.Str → Option Value} (p x : Int) (ta : Tok) (h0 : 0 ≤ p) (h1 : p < 4) :
    Cl w pr loose mean mg mb PySem.Challenge.rw_to0087_01 316 12 [.str (typedP p x) ta] (fun h => h.get? 95 = some (o95v3 w.params)) (fun _ v _ => ∃ t, v = .str (Txt.item (PySem.Str.ofString "abcd") p) t) := by
  obtain ⟨p', m, j, k, hp, hm, hj, hk, rfl, _, e⟩ := typedP_V (x := x) h0 h1
  rw [e]
  by_cases h3 : m = 3
  · subst h3
    have za := read_let
    have zb := read_3
    simp only [List.all_eq_true, List.mem_range] at za zb
    have za := za p' hp
    have zb := zb p' hp k hk
    simp only [Bool.and_eq_true, beq_iff_eq, Bool.not_eq_true'] at za zb
    obtain ⟨⟨z4, z5⟩, z6⟩ := za
    obtain ⟨⟨z1, z2⟩, z3⟩ := zb
    rw [typedV3] at z1 z2 ⊢
    have r := t_read2 w (p := pr) (loose := loose) (mean := mean) (mg := mg) (mb := mb) ⟨#[65024 + k]⟩ (letterP p') ta z2 rfl z6 z1 z3 z4 (by rw [z5, z6]; decide)
    rw [z5] at r
    exact r
  · have z := read_s (k := k) hp hm hj h3
    simp only [okV, Bool.and_eq_true, beq_iff_eq, Bool.not_eq_true'] at z
    obtain ⟨⟨⟨⟨z1, z2⟩, z3⟩, z4⟩, z5⟩ := z
    have r := t_read1 w (p := pr) (loose := loose) (mean := mean) (mg := mg) (mb := mb) (typedV p' m j k) ta z2 z1 z3 (by rw [z4, z5]; decide)
    rw [z4] at r
    exact r
end Mine
end
/-! # LcAsg -/
section
open PySem PySem.Spec PySem.Calls PySem.W PyProof.Rows PyProof.Rows.LCg PyProof.Rows.LCt
set_option Elab.async false
set_option maxRecDepth 100000
set_option maxHeartbeats 400000000
namespace Mine
section
variable {prog : Program} {w : World} {A : Around} {E : Value → Shared → Prop} {s : Shared} {h₀ : Heap} {L : Addr} {m : PySem.Str → Option Value} {env : Env}
theorem Assign_SU {elt iter : Expr} {x z : PySem.Str} {px pz : Pos} {scope : Scope} {cl : List (PySem.Str × Addr)} {pos spos : Pos} {Q : Flow → Shared → Prop} (_F₀ : Fr h₀ L s.heap m) (hLe : env.locals = L)
    (hsw : swapsWith (.ListComp elt [⟨.Name x px, iter, [], 0⟩] scope pos) (some (.Name z pz)) spos.line env = pure true)
    (hclos : closureFor scope env = pure cl) (hcell : ∀ y ∈ scope.names, y.2 ≠ .cell) (hkind : scope.kind = .function)
    (hnames : ∀ y ∈ scope.names, y.2 = .local → scope.names.lookup y.1 = some .local) (hx : scope.names.lookup x = some .local)
    (hz : env.kindOf z = some .local) (hp : (env.scope.kind == .class || (env.scope.kind == .module && env.locals != env.globals)) = false)
    (h : wpAny (model prog w) A (eval iter env) (SrcS h₀ L m A fun s₂ l n news => CompRest prog w A h₀ L m env elt x scope cl s₂ (fun _ => True) (SgnP l) (FinA h₀ L m s₂ z Q) n 0 [] news) E s)
    (hs : ∀ x, foldedSetIterable iter env x = pure x := by intro _; rfl) :
    wpAny (model prog w) A (exec (.Assign [.Name z pz] (.ListComp elt [⟨.Name x px, iter, [], 0⟩] scope pos) spos) env) Q E s := by
  subst hLe
  rw [exec_Assign_Name_used _ _ _ _ hsw]
  refine wpAny_bind (wpAny_standAt (wpAny_bind ?_))
  show wpAny _ A (do let _ ← comprehension (.ListComp elt [⟨.Name x px, iter, [], 0⟩] scope pos) scope env _ (newList []) false (eval iter env) (some (assign (.Name z pz) env))) _ _ s
  refine wpAny_bind (wpAny_mono (wpAny_comprehension_free (use := some (assign (.Name z pz) env)) (Q := fun _ s' => Q .next s') rfl hs hclos hkind hnames
    (wpAny_mono h (fun xv s₁ h₁ => ?_) fun _ _ e => e)) (fun _ s' hq => wpAny_pure (wpAny_pure hq)) fun _ _ e => e)
  obtain ⟨y, t, news, rfl, hh, F, N, hsz, R⟩ := h₁
  have go : ∀ (T : String) (o : Obj), Walks prog w A s₁.heap.objs.size [s₁.heap.objs.size] [s₁.heap.objs.size] y.cps.size (SignAt y) (fun i h => h.IsStrIter s₁.heap.objs.size T y t i) → (s₁.heap.push o).IsStrIter s₁.heap.objs.size T y t 0 →
      wpAny (model prog w) A (newList []) (fun acc s₃ => wpAny (model prog w) A (newFunctionEnv scope env.globals cl [] env.qual none .none (some env)) (fun cenv s₄ =>
        codeAny (model prog w) A (.compStart (.ListComp elt [⟨.Name x px, iter, [], 0⟩] scope pos) 0 (.ref s₁.heap.objs.size) acc { cenv with scope := relabel scope env })
          (compPost (model prog w) A E (some (assign (.Name z pz) env)) (fun _ s' => Q .next s') acc cenv.locals) s₄) E s₃) E { s₁ with heap := s₁.heap.push o } := by
    intro T o W hst
    refine block_U (sgn_walks W) hsz (fun i h st => by obtain ⟨o, e, _⟩ := st; exact ⟨o, e⟩) sgn_st hcell hkind hx hst (fun b hb => ?_)
      (F.keeps fun _ _ e => Heap.get?_push_of_some _ e) (N.grown fun _ _ e => Heap.get?_push_of_some _ e) (Nat.ne_of_lt F.ns.lt) (next_is_new F) (fun p hp => Nat.ne_of_lt (Heap.lt_size (N p hp).1)) trivial (R _ ⟨_, rfl⟩) ?_
    · rw [List.mem_singleton.mp hb]
      show s₁.heap.objs.size < (s₁.heap.push _).objs.size
      rw [Heap.size_push]; exact Nat.lt_succ_self _
    · intro D C h tk m' ys news' F' N' o1 hn hC₀ hD₀ hCL hDL hCD offC fin
      show wpAny _ A (assign (.Name z pz) env (.ref D)) _ _ _
      refine wpAny_assign_Name (wpAny_storeName_local hz F'.ns (fun h₂ hn₂ hs₂ => ?_) hp)
      have hL₀ : h₀.get? env.locals = none := Heap.get?_none_of_le F'.above
      have F₂ : Fr h₀ env.locals h₂ (fun q => if q = z then some (.ref D) else m q) := ⟨hn₂, fun b o e => hs₂.extBut b o (fun q => by rw [q, hL₀] at e; cases e) (F'.keep b o e), F'.above⟩
      refine ⟨m', hn.sameBut hs₂ hCL, fun h'' hs'' => fin D h'' _ (F₂.change hs'' hCL hC₀) (fun p hp => ?_) o1⟩
      have z2 : h₂.get? p.1 = some p.2 := hs₂.extBut _ _ (N' p hp).2.1 (N' p hp).1
      refine ⟨hs''.extBut _ _ ?_ z2, (N' p hp).2⟩
      rcases List.mem_cons.mp hp with rfl | hp
      · exact Ne.symm hCD
      · exact offC p hp
  cases ha : y.cps.all (· < 128)
  · exact wpAny_pyIter_wide ha (go "str_iterator" _ (Walks.strWide hh _ y t) ⟨_, Heap.get?_push_size _ rfl, rfl, rfl⟩)
  · exact wpAny_pyIter_ascii ha (go "str_ascii_iterator" _ (Walks.strAscii hh _ y t) ⟨_, Heap.get?_push_size _ rfl, rfl, rfl⟩)
end
end Mine
end
/-! # Tgiven -/
section
theorem Mine.reset_Tgiven : True := by (w_top off); k_with_none; trivial
open PySem PySem.W PyProof.Rows PySem.Calls PySem.Spec PyProof.Rows.LCg PyProof.Rows.LCt
set_option Elab.async false
set_option maxRecDepth 100000
set_option maxHeartbeats 400000000
namespace Mine

/-- what the law draws from its script -/
noncomputable def drawn1 (ns : List Int) (k : Nat) (d : Int) : Int := if k < ns.length then (ns.getD k 0).fmod 1000000000 else d
noncomputable def drawnP (ns : List Int) : List Int := [drawn1 ns 0 282, drawn1 ns 1 541, drawn1 ns 2 771, drawn1 ns 3 4]
theorem drawn_eq (ns : List Int) : (rangeKs 0 4).map (fun k' : Int => if k' < (ns.length : Int) then (ns.getD k'.toNat 0).fmod 1000000000 else (([282, 541, 771, 4] : List Int).getD k'.toNat 0).fmod 1000000000) = drawnP ns := by
  have e : rangeKs 0 4 = [0, 1, 2, 3] := by decide
  rw [e]
  simp only [List.map_cons, List.map_nil, drawnP, drawn1]
  have e0 : ((0 : Int) < (ns.length : Int)) = (0 < ns.length) := propext ⟨fun h => Int.ofNat_lt.mp h, fun h => Int.ofNat_lt.mpr h⟩
  have e1 : ((1 : Int) < (ns.length : Int)) = (1 < ns.length) := propext ⟨fun h => Int.ofNat_lt.mp h, fun h => Int.ofNat_lt.mpr h⟩
  have e2 : ((2 : Int) < (ns.length : Int)) = (2 < ns.length) := propext ⟨fun h => Int.ofNat_lt.mp h, fun h => Int.ofNat_lt.mpr h⟩
  have e3 : ((3 : Int) < (ns.length : Int)) = (3 < ns.length) := propext ⟨fun h => Int.ofNat_lt.mp h, fun h => Int.ofNat_lt.mpr h⟩
  simp only [e0, e1, e2, e3]
  rfl
section
variable {w : World} {p : Program} {loose : List PySem.Str} {mean : ExcName → Option Value} {mg mb : PySem.Str → Option Value} {f : Addr} {room : Nat} {vs : List Value} {pre : Heap → Prop} {post : Heap → Value → Heap → Prop}
  {name qual : PySem.Str} {params : Arguments} {body : List Stmt} {scope : Scope} {dV kV doc pm cdv ct oc : Value} {an od : Option Addr} {osl : Array (Option Value)} {binds : List (PySem.Str × Value)}
theorem Cl.enterC2 {m₀ : PySem.Str → Option Value} {n1 n2 : PySem.Str} {v1 v2 : Option Value} (ho : (hd.heap_1 w.params).lookup f = some ⟨oc, od, .func (fnOf name qual params body scope dV kV doc pm an cdv ct), osl⟩) (hcd : codeIn (hd.heap_1 w.params) cdv qual = true)
    (hr : 1 ≤ room) (hbind : ∀ s, BindsTo s (fnOf name qual params body scope dV kV doc pm an cdv ct) ⟨vs, []⟩ binds) (hkind : (binds.all fun y => scope.names.lookup y.1 == some .local || scope.names.lookup y.1 == some .cell) = true)
    (hnd : ((cellsFrom 0 scope.names []).map (·.1)).Nodup) (hco : scope.isCoroutine = false) (hgen : scope.isGenerator = false) (hk : scope.kind = .function)
    (hcf : ∀ L', cellsFrom (L' + 1) scope.names [] = [(n2, L' + 1 + 1), (n1, L' + 1)]) (hm : ∀ L', (bindL (envOfC qual scope L' f cdv).kindOf binds fun _ => none) = m₀) (hcm : ∀ L', bindC (envOfC qual scope L' f cdv).kindOf binds (fun _ => none) n1 = v1 ∧ bindC (envOfC qual scope L' f cdv).kindOf binds (fun _ => none) n2 = v2)
    (h : ∀ (dp un : Nat) (gd : Option (List Code)) (outer : List Env) (A₀ : Around) (base g h₁ : Heap) (L' : Addr) (tk : Nat) (gs : Array GenState) (dr : Drawn) (os : OsState) (R : Value → Shared → Prop) (o1 o2 : Obj),
      dp + (room - 1) < recursionLimit → un + 8 * (room - 1) < cLine → Below A₀ base outer g → (hd.heap_1 w.params).In g → Top p loose mean mg mb g → pre g → 
      (∀ v h' tk' L'' m' news', Fr g L'' h' m' → News g L'' h' news' → post g v h' → R v ⟨h', gs, dr, tk', os⟩) → o1.data = .cell v1 → o2.data = .cell v2 →
      Fr g L' h₁ m₀ → News g L' h₁ ([(L' + 1 + 1, o2), (L' + 1, o1)]) →
      wpAny (model (PySem.Challenge.rw_to0087_01).row.prog w) (AX dp un gd (envOfC qual scope L' f cdv) outer) (execs body (envOfC qual scope L' f cdv)) (RetTo R) (fun _ _ => False) ⟨h₁, gs, dr, tk, os⟩) :
    Cl w p loose mean mg mb PySem.Challenge.rw_to0087_01 f room vs pre post := by
  refine Cl.enterC ho hcd hr hbind hkind hnd hco hgen hk fun dp un gd outer A₀ base g h₁ L' tk gs dr os cells R a b c d e pr ret Y F' N' => ?_
  rw [hcf] at Y
  rw [hm] at F'
  obtain ⟨o2, o1, rfl, e2, e1⟩ := Y.two
  obtain ⟨c1, c2⟩ := hcm L'
  exact h dp un gd outer A₀ base g h₁ L' tk gs dr os R o1 o2 a b c d e pr ret (e1.trans (congrArg Data.cell c1)) (e2.trans (congrArg Data.cell c2)) F' N'
end
section
theorem t_given (w : World) {p : Program} {loose : List PySem.Str} {mean : ExcName → Option Value} {mg mb : PySem.Str → Option Value} (l : Addr) (vs : List Value) (ns : List Int) (hI : IntsAre vs ns) (hll : ns.length ≤ 63) :
    Cl w p loose mean mg mb PySem.Challenge.rw_to0087_01 304 6 [.ref l] (fun h => h.IsList l vs.toArray) (fun h v h' => ∃ a ys k, v = .ref a ∧ h'.get? a = some (W.listOf (List.toArray ys) k) ∧ h.get? a = none ∧ IntsAre ys (drawnP ns)) := by
  k_with_none
  k_with "k_lt1" => skip
  k_dflt (refine' Cl.enterC2 (binds := [(PySem.Str.ofString "script", .ref l)]) (m₀ := fun _ => none) (v1 := some (.ref l)) (v2 := none) ?ho ?hcd ?hr ?hb ?hkd ?hnd ?c2 ?c3 ?c4 ?hcf ?hm ?hcm ?h); all_goals (try k_fill)
  case ho => k_is
  case hcd => k_is
  case hr => decide
  case hb => exact fun s => BindsTo.of_eq rfl
  case hkd => exact rfl
  case hnd => decide +kernel
  case c2 => exact rfl
  case c3 => exact rfl
  case c4 => exact rfl
  case hcf => exact fun _ => rfl
  case hm => exact fun _ => rfl
  case hcm => exact fun _ => ⟨rfl, rfl⟩
  intro dp un gd outer A₀ base g h' L' tk gs dr os R o1 o2 hdp hun B' X' T' hpre hret e1 e2 F' N'
  (try dsimp only at hpre)
  (try dsimp only)
  w_strict k_steps
  rename IntsAre _ (List.map _ _) => hY
  have hY' : IntsAre _ (drawnP ns) := drawn_eq ns ▸ hY
  exact hret _ _ _ _ _ _ (by k_asm) (by k_asm) ⟨_, _, _, rfl, News.get (by k_asm) (by k_mem), News.fresh (by k_asm) (by k_mem), hY'⟩
end
end Mine
end
/-! # LawL -/
section
open PySem PySem.W PyProof.Rows PySem.Calls PySem.Spec
set_option Elab.async false
set_option maxRecDepth 100000
set_option maxHeartbeats 400000000
open PyProof.Rows.LCg PyProof.Rows.LCt
namespace Mine

theorem drawn_b (ns : List Int) (k : Nat) {d : Int} (h : 0 ≤ d ∧ d < 1000000000) : 0 ≤ drawn1 ns k d ∧ drawn1 ns k d < 1000000000 := by
  unfold drawn1
  split
  · exact ⟨Int.fmod_nonneg_of_pos _ (by decide), Int.fmod_lt_of_pos _ (by decide)⟩
  · exact h

theorem drawn_all {ns : List Int} {vs : List Value} (h : IntsAre vs (drawnP ns)) : ∃ g0 g1 g2 g3 : Int, IntsAre vs [g0, g1, g2, g3] ∧ (0 ≤ g0 ∧ g0 < 1000000000) ∧ (0 ≤ g1 ∧ g1 < 1000000000) ∧ (0 ≤ g2 ∧ g2 < 1000000000) ∧ (0 ≤ g3 ∧ g3 < 1000000000) :=
  ⟨_, _, _, _, h, drawn_b ns 0 (by decide), drawn_b ns 1 (by decide), drawn_b ns 2 (by decide), drawn_b ns 3 (by decide)⟩

theorem item_nat {d : Nat} (h : d < 4) : Txt.item (PySem.Str.ofString "abcd") (d : Int) = enc [d] := by
  obtain rfl | rfl | rfl | rfl : d = 0 ∨ d = 1 ∨ d = 2 ∨ d = 3 := lt4 h
  all_goals rfl
theorem t_readE (w : World) {pr : Program} {loose : List PySem.Str} {mean : ExcName → Option Value} {mg mb : PySem.Str → Option Value} (p x : Int) (ta : Tok) (d : Nat) (hp : p = (d : Int)) (hd4 : d < 4) :
    Cl w pr loose mean mg mb PySem.Challenge.rw_to0087_01 316 12 [.str (typedP p x) ta] (fun h => h.get? 95 = some (o95v3 w.params)) (fun _ v _ => ∃ t, v = .str (enc [d]) t) := by
  subst hp
  intro dp un gd cn cs a ccd cl outer A₀ base h₀ L m s Q E B F X T hk hdd hu hpre k
  refine t_readT w (d : Int) x ta (by omega) (by omega) dp un gd cn cs a ccd cl outer A₀ base h₀ L m s Q E B F X T hk hdd hu hpre fun v h' tk' I hp => k v h' tk' I ?_
  obtain ⟨t, rfl⟩ := hp
  exact ⟨t, by rw [item_nat hd4]⟩
theorem dN_eq (g : Int) : g.fmod 4 = ((g.fmod 4).toNat : Int) ∧ (g.fmod 4).toNat < 4 := by
  have h1 := fmod_lo g (show (0 : Int) < 4 by decide)
  have h2 := fmod_hi g (show (0 : Int) < 4 by decide)
  omega

/-! ## the roads' comparison -/
theorem item_g (g : Int) : Txt.item (PySem.Str.ofString "abcd") (g.fmod 4) = enc [(g.fmod 4).toNat] := by
  obtain ⟨h1, h2⟩ := dN_eq g
  have := item_nat h2
  rwa [← h1] at this
noncomputable def roadD (d0 d1 d2 d3 : Nat) : PyData := .list [.list [.str (enc [1]), .str (enc [d0])], .list [.str (enc [2]), .str (enc [d1])], .list [.str (enc [3]), .str (enc [d2])], .list [.str (enc [0]), .str (enc [d3])]]
theorem enc1_ok {d : Nat} (h : d < 4) : PyData.strOk (enc [d]) = true := enc_ok _ (by intro x hx; rw [List.mem_singleton.mp hx]; omega)
theorem roadD_shaped {d0 d1 d2 d3 : Nat} (h0 : d0 < 4) (h1 : d1 < 4) (h2 : d2 < 4) (h3 : d3 < 4) : SeqAt.shaped (roadD d0 d1 d2 d3) = true := by
  simp [roadD, SeqAt.shaped, PyData.canLay0, PyData.canLayAll0, PyData.depth, PyData.depthAll, enc1_ok h0, enc1_ok h1, enc1_ok h2, enc1_ok h3, enc1_ok (show 0 < 4 by decide), enc1_ok (show 1 < 4 by decide), enc1_ok (show 2 < 4 by decide), enc1_ok (show 3 < 4 by decide)]
theorem roadD_eqv (d0 d1 d2 d3 : Nat) : PyData.eqv (roadD d0 d1 d2 d3) (roadD d0 d1 d2 d3) = true := by
  simp [roadD, PyData.eqv, PyData.eqvAll]
theorem ne_roads {prog : Program} {w : World} {A : Around} {E : Value → Shared → Prop} {s : Shared} {a b : Addr} {as bs : List Addr} {d0 d1 d2 d3 : Nat} {Q : Value → Shared → Prop} (h0 : d0 < 4) (h1 : d1 < 4) (h2 : d2 < 4) (h3 : d3 < 4) (ra : Reads s.heap (.ref a) (roadD d0 d1 d2 d3) as) (rb : Reads s.heap (.ref b) (roadD d0 d1 d2 d3) bs) (hu : A.units + 64 < cLine) (h : Q (.bool false) s) :
    wpAny (model prog w) A (compareOp .NotEq (.ref a) (.ref b)) Q E s :=
  ne_dataH ra rb (roadD_shaped h0 h1 h2 h3) (roadD_shaped h0 h1 h2 h3) hu (by rw [roadD_eqv]; exact h)
/-! ## rests -/
theorem rest_call {w : World} {p : Program} {loose : List PySem.Str} {mean : ExcName → Option Value} {mg mb : PySem.Str → Option Value}
  {dp un : Nat} {gd : Option (List Code)} {cn : PySem.Str} {cs : Scope} {L a₁ : Addr} {ccd : Value} {cl : List (PySem.Str × Addr)} {outer : List Env} {A₀ : Around} {base h₀ : Heap} {m : PySem.Str → Option Value} {s : Shared} {Q E : Value → Shared → Prop}
  {p1 p2 : Array Value} {q1 q2 : List (Addr × Obj)} {a b : Int} {ta tb : Tok} {I C D : Addr} {oI oC oD : Obj} (K : List (Addr × Obj))
    (B : Below A₀ base outer h₀) (F : Fr h₀ L s.heap m) (N : News h₀ L s.heap ((I, oI) :: (C, oC) :: (D, oD) :: (K ++ LedT p1 p2 q1 q2))) (X : (hd.heap_1 w.params).In h₀) (T : Top p loose mean mg mb h₀) (hk : cs.kind = .function)
    (hdp : dp + 80 < recursionLimit) (hu : un + 8 * 80 < cLine) (hT : TabsOk p1 p2 q1 q2) (off : Off3 I C D (K ++ LedT p1 p2 q1 q2)) (hK : ∀ q ∈ K, ∀ v, q.2.data ≠ Data.fields v) (h0 : -4096 < a) (h1 : a < 4096) (h2 : 1 ≤ b) (h3 : b ≤ 4)
    (h : ∀ (r : Addr) (t1 t2 : Tok) (p1' p2' : Array Value) (q1' q2' : List (Addr × Obj)) (h' : Heap) (tk' : Nat), Fr h₀ L h' m → News h₀ L h' ((r, { cls := .type "tuple", data := .seq #[.int (a.fdiv b) t1, .int (a.fmod b) t2] }) :: (I, oI) :: (C, oC) :: (D, oD) :: (K ++ LedT p1' p2' q1' q2')) → TabsOk p1' p2' q1' q2' → Off3 I C D (K ++ LedT p1' p2' q1' q2') → Q (.ref r) { s with heap := h', toks := tk' }) :
    wpAny (model (PySem.Challenge.rw_to0087_01).row.prog w) (ktrTop dp un gd cn cs L a₁ ccd cl outer) (call (.ref 87) [.int a ta, .int b tb]) Q E s := by
  have mem : ∀ q ∈ LedT p1 p2 q1 q2, q ∈ (I, oI) :: (C, oC) :: (D, oD) :: (K ++ LedT p1 p2 q1 q2) := fun q hq => List.mem_cons_of_mem _ (List.mem_cons_of_mem _ (List.mem_cons_of_mem _ (List.mem_append_right _ hq)))
  have offm := off.mem
  refine use_div (t_div w a b ta tb h0 h1 h2 h3 hT) B F N X T hk hdp hu mem ((I, oI) :: (C, oC) :: (D, oD) :: K) (fun q hq => ⟨?_, fun r hr => ?_⟩) ?_
  · simp only [List.mem_cons, List.mem_append] at hq ⊢
    rcases hq with hq | hq | hq | hq <;> simp only [hq, true_or, or_true]
  · have o3 := offm r (List.mem_append_right _ hr)
    rcases List.mem_cons.mp hq with rfl | hq
    · exact o3.1
    rcases List.mem_cons.mp hq with rfl | hq
    · exact o3.2.1
    rcases List.mem_cons.mp hq with rfl | hq
    · exact o3.2.2
    · intro e
      obtain ⟨v, hv⟩ := hT.code r hr
      have e1 := (N r (mem r hr)).1
      have e2 := (N q (List.mem_cons_of_mem _ (List.mem_cons_of_mem _ (List.mem_cons_of_mem _ (List.mem_append_left _ hq))))).1
      rw [e, e2] at e1
      exact hK q hq v (Option.some.inj e1 ▸ hv)
  · intro r t1 t2 p1' p2' q1' q2' h' tk' F' N' T' ho'
    refine h r t1 t2 p1' p2' q1' q2' h' tk' F' (by simpa only [List.cons_append] using N') T' (Off3.of fun q hq => ?_)
    rcases List.mem_append.mp hq with hq | hq
    · exact offm q (List.mem_append_left _ hq)
    · exact ⟨ho' (I, oI) List.mem_cons_self q hq, ho' (C, oC) (List.mem_cons_of_mem _ List.mem_cons_self) q hq, ho' (D, oD) (List.mem_cons_of_mem _ (List.mem_cons_of_mem _ List.mem_cons_self)) q hq⟩
/-! ## comprehensions over symbolic pairs -/
section
variable {prog : Program} {w : World} {A : Around} {h₀ : Heap} {L : Addr} {m : PySem.Str → Option Value} {env : Env}
theorem restP_grow {elt : Expr} {x x₂ : PySem.Str} {scope : Scope} {cl : List (PySem.Str × Addr)} {s : Shared} {S : List (Addr × Obj) → Prop} {P : Nat → Value → Prop} {Fin : List Value → List (Addr × Obj) → Prop} {n : Nat} {news : List (Addr × Obj)} (G : Nat → List Value → List (Addr × Obj) → Prop)
    (h0 : G 0 [] news) (hf : ∀ ys nw, G n ys nw → Fin ys nw)
    (step : ∀ i, i < n → ∀ ys nw, G i ys nw → ∀ v, P i v → ∃ (t : Addr) (ot : Obj) (v₁ v₂ : Value) (nt : Nat), v = .ref t ∧ (t, ot) ∈ nw ∧ ot.cls = .type "tuple" ∧ ot.data = .seq #[v₁, v₂] nt ∧
      ∀ I oI C oC D m₂ h tk (E' : Value → Shared → Prop), NsObj oC m₂ → m₂ x = some v₁ → m₂ x₂ = some v₂ → Fr h₀ L h m → News h₀ L h ((I, oI) :: (C, oC) :: (D, lst ys) :: nw) → Off3 I C D nw → ((@Ne Nat I C) ∧ (@Ne Nat I D) ∧ (@Ne Nat C D)) →
        wpAny (model prog w) A (eval elt (compEnvC scope cl C env)) (CompEnd h₀ L m { s with heap := h, toks := tk } I oI C oC D (lst ys) S (fun y nw' => G (i + 1) (ys ++ [y]) nw')) E' { s with heap := h, toks := tk }) :
    LCp.CompRestP prog w A h₀ L m env elt x x₂ scope cl s S P Fin n 0 [] news := by
  have go : ∀ k i, i + k = n → ∀ ys nw, G i ys nw → LCp.CompRestP prog w A h₀ L m env elt x x₂ scope cl s S P Fin k i ys nw := by
    intro k
    induction k with
    | zero =>
      intro i hi ys nw hg
      obtain rfl : i = n := by omega
      exact hf ys nw hg
    | succ k ih =>
      intro i hi ys nw hg
      refine LCp.CompRestP.succ fun v hv => ?_
      obtain ⟨t, ot, v₁, v₂, nt, e1, e2, e3, e4, R⟩ := step i (by omega) ys nw hg v hv
      refine ⟨t, ot, v₁, v₂, nt, e1, e2, e3, e4, fun I oI C oC D m₂ h tk E' hC hx hx2 F N off ne => ?_⟩
      refine wpAny_mono (R I oI C oC D m₂ h tk E' hC hx hx2 F N off ne) (fun y s₂ hc => ?_) fun _ _ e => e
      obtain ⟨h', tk', news', f1, f2, f3, f4, f5, f6⟩ := hc
      exact ⟨h', tk', _, f1, f2, f3, f4, f5, ih (i + 1) (by omega) _ _ f6⟩
  exact go n 0 (by omega) [] news h0
end
theorem PA.list {Q : Addr → Obj → Prop} : ∀ {ps vs}, PA Q ps vs → ∃ pl : List (Addr × Obj), (∀ q ∈ pl, Q q.1 q.2) ∧ PA (fun t o => (t, o) ∈ pl) ps vs
  | [], [], _ => ⟨[], fun _ h => (nomatch h), trivial⟩
  | p :: _, _ :: _, ⟨⟨t, a, b, e, q⟩, x⟩ => by
    obtain ⟨pl, h1, h2⟩ := PA.list x
    refine ⟨(t, TupO p a b) :: pl, fun r hr => ?_, ⟨t, a, b, e, List.mem_cons_self⟩, h2.mono fun _ _ h => List.mem_cons_of_mem _ h⟩
    rcases List.mem_cons.mp hr with rfl | hr
    · exact q
    · exact h1 r hr
  | [], _ :: _, x => x.elim
  | _ :: _, [], x => x.elim
theorem PA.at {Q : Addr → Obj → Prop} : ∀ {ps vs} {i : Nat} {v : Value}, PA Q ps vs → vs[i]? = some v → ∃ p t a b, ps[i]? = some p ∧ v = .ref t ∧ Q t (TupO p a b)
  | [], [], _, _, _, h => by simp at h
  | p :: _, _ :: _, 0, _, ⟨⟨t, a, b, e, q⟩, _⟩, h => by
    simp only [List.getElem?_cons_zero, Option.some.injEq] at h
    exact ⟨p, t, a, b, rfl, h ▸ e, q⟩
  | _ :: _, _ :: _, i + 1, _, ⟨_, x⟩, h => by
    simp only [List.getElem?_cons_succ] at h ⊢
    exact PA.at x h
  | [], _ :: _, _, _, x, _ => x.elim
  | _ :: _, [], _, _, x, _ => x.elim
theorem FA.snoc {Q : Addr → Obj → Prop} {p : Row × Nat} {t : Addr} {a b : Tok} (q : Q t (FO p a b)) : ∀ {ps vs}, FA Q ps vs → FA Q (ps ++ [p]) (vs ++ [.ref t])
  | [], [], _ => ⟨⟨t, a, b, rfl, q⟩, trivial⟩
  | _ :: _, _ :: _, ⟨h, x⟩ => ⟨h, FA.snoc q x⟩
  | [], _ :: _, x => x.elim
  | _ :: _, [], x => x.elim
theorem FA.mono {Q Q' : Addr → Obj → Prop} (h : ∀ t o, Q t o → Q' t o) : ∀ {ps vs}, FA Q ps vs → FA Q' ps vs
  | [], [], _ => trivial
  | _ :: _, _ :: _, ⟨⟨t, a, b, e, q⟩, x⟩ => ⟨⟨t, a, b, e, h _ _ q⟩, FA.mono h x⟩
  | [], _ :: _, x => x.elim
  | _ :: _, [], x => x.elim
/-! ## the plain law, once more -/
noncomputable def resN (p : Row × Row) : Row × Nat := (runN 20 p.1 p.2 0 [[0, 1, 2, 3]] [15]).getD ([], 0)
theorem found_eq (d0 d1 d2 d3 : Nat) : foundN d0 d1 d2 d3 = (paintN d0 d1 d2 d3).map resN := rfl
structure LawOk (d0 d1 d2 d3 : Nat) : Prop where
  row : ∀ p ∈ paintN d0 d1 d2 d3, Row4 p.1 ∧ Row4 p.2
  fnd : ∀ f ∈ foundN d0 d1 d2 d3, 1 ≤ f.2 ∧ f.2 ≤ 4 ∧ f.1.length = 4
  mn : (foundN d0 d1 d2 d3).foldl (fun m x => min m x.2) 4 = measN d0 d1 d2 d3
  ev : evenN (weightsN (rateN (d0, d1, d2, d3))) (foundN d0 d1 d2 d3) = true
theorem law_ok {d0 d1 d2 d3 : Nat} (h0 : d0 < 4) (h1 : d1 < 4) (h2 : d2 < 4) (h3 : d3 < 4) : LawOk d0 d1 d2 d3 := by
  have hm := mem_allD h0 h1 h2 h3
  have z := ok_all _ hm
  have y := paint_ok
  simp only [List.all_eq_true] at y
  have y := y _ hm
  unfold okN at z
  simp only [Bool.and_eq_true, List.all_eq_true, decide_eq_true_eq, beq_iff_eq] at z
  refine ⟨fun p hp => ?_, fun f hf => ⟨(z.1.1 f hf).1.1, (z.1.1 f hf).1.2, (z.1.1 f hf).2⟩, z.1.2, z.2⟩
  have := y p hp
  rw [Bool.and_eq_true] at this
  exact ⟨row4_of this.1, row4_of this.2⟩
theorem res_run {d0 d1 d2 d3 : Nat} (K : LawOk d0 d1 d2 d3) {p : Row × Row} (hp : p ∈ paintN d0 d1 d2 d3) : ∃ res, runN 20 p.1 p.2 0 [[0, 1, 2, 3]] [15] = some res ∧ resN p = res ∧ res.1 ≠ [] := by
  have hf : resN p ∈ foundN d0 d1 d2 d3 := by rw [found_eq]; exact List.mem_map_of_mem hp
  have h4 := (K.fnd _ hf).2.2
  unfold resN at h4 ⊢
  cases e : runN 20 p.1 p.2 0 [[0, 1, 2, 3]] [15] with
  | none => rw [e] at h4; simp at h4
  | some res =>
    rw [e] at h4
    refine ⟨res, rfl, rfl, fun h => ?_⟩
    have h4 : res.1.length = 4 := h4
    rw [h] at h4; simp at h4
end Mine
end
/-! # LawM -/
section
open PySem PySem.W PyProof.Rows PySem.Calls PySem.Spec
set_option Elab.async false
set_option maxRecDepth 100000
set_option maxHeartbeats 400000000
open PyProof.Rows.LCg PyProof.Rows.LCt
namespace Mine

theorem hK7 {e0 e1 e2 e3 e4 e5 e6 : Addr × Obj} (h0 : ∀ v, e0.2.data ≠ Data.fields v) (h1 : ∀ v, e1.2.data ≠ Data.fields v) (h2 : ∀ v, e2.2.data ≠ Data.fields v) (h3 : ∀ v, e3.2.data ≠ Data.fields v) (h4 : ∀ v, e4.2.data ≠ Data.fields v) (h5 : ∀ v, e5.2.data ≠ Data.fields v) (h6 : ∀ v, e6.2.data ≠ Data.fields v) : ∀ q ∈ [e0, e1, e2, e3, e4, e5, e6], ∀ v, q.2.data ≠ Data.fields v := by
  intro q hq
  simp only [List.mem_cons, List.not_mem_nil, or_false] at hq
  rcases hq with rfl | rfl | rfl | rfl | rfl | rfl | rfl <;> assumption
theorem tabs0 : TabsOk #[] #[] [] [] := ⟨.inl ⟨rfl, rfl⟩, .inl ⟨rfl, rfl⟩, fun _ h => (nomatch h), fun _ h => (nomatch h)⟩
noncomputable def GF (base : List (Addr × Obj)) (fs : List (Row × Nat)) (i : Nat) (ys : List Value) (nw : List (Addr × Obj)) : Prop :=
  ∃ ft : List (Addr × Obj), nw = ft ++ base ∧ FA (fun t o => (t, o) ∈ ft) (fs.take i) ys ∧ ∀ q ∈ ft, q.2.cls = .type "tuple" ∧ ∃ xs n, q.2.data = .seq xs n
noncomputable def GM (base : List (Addr × Obj)) (fs : List (Row × Nat)) (i : Nat) (ys : List Value) (nw : List (Addr × Obj)) : Prop :=
  nw = base ∧ IntsAre ys ((fs.take i).map fun p => (p.2 : Int))
theorem gm_snoc {base : List (Addr × Obj)} {fs : List (Row × Nat)} {i : Nat} {ys : List Value} {p : Row × Nat} {t : Tok} (h : GM base fs i ys base) (hp : fs[i]? = some p) : GM base fs (i + 1) (ys ++ [.int (p.2 : Int) t]) base := by
  refine ⟨rfl, ?_⟩
  rw [List.take_add_one, hp, Option.toList_some, List.map_append]
  exact IntsAre.append h.2 (.cons _ _ .nil)
theorem found_end {h₀ : Heap} {L I C D tt ax : Addr} {m : PySem.Str → Option Value} {s₁ : Shared} {oI oC oD : Obj} {its : Array Value} {h' : Heap} {tk i : Nat} {ft base : List (Addr × Obj)} {fs : List (Row × Nat)} {ys : List Value} {res : Row × Nat} {t1 t2 : Tok} {ka : Nat}
    (F : Fr h₀ L h' m) (N : News h₀ L h' ((tt, FO res t1 t2) :: (I, oI) :: (C, oC) :: (D, oD) :: (ft ++ base))) (n1 : tt ≠ I) (n2 : tt ≠ C) (n3 : tt ≠ D) (off : Off3 I C D (ft ++ base)) (hS : (ax, ({ cls := .type "list", data := .seq its ka } : Obj)) ∈ base)
    (hfa : FA (fun t o => (t, o) ∈ ft) (fs.take i) ys) (hft : ∀ q ∈ ft, q.2.cls = .type "tuple" ∧ ∃ xs n, q.2.data = .seq xs n) (hp : fs[i]? = some res) :
    CompEnd h₀ L m s₁ I oI C oC D oD (SrcAt h₀ ax its) (fun y nw' => GF base fs (i + 1) (ys ++ [y]) nw') (.ref tt) { s₁ with heap := h', toks := tk } := by
  refine ⟨h', tk, (tt, FO res t1 t2) :: (ft ++ base), rfl, F, fun q hq => ?_, Off3.of fun q hq => ?_, .inr ⟨_, List.mem_cons_of_mem _ (List.mem_append_right _ hS), rfl, _, rfl⟩, ⟨(tt, FO res t1 t2) :: ft, rfl, ?_, fun q hq => ?_⟩⟩
  · refine N q ?_
    simp only [List.mem_cons, List.mem_append] at hq ⊢
    rcases hq with hq | hq | hq | hq | hq | hq <;> simp only [hq, true_or, or_true]
  · rcases List.mem_cons.mp hq with rfl | hq
    · exact ⟨n1, n2, n3⟩
    · exact off.mem q hq
  · rw [List.take_add_one, hp, Option.toList_some]
    exact FA.snoc List.mem_cons_self (hfa.mono fun _ _ h => List.mem_cons_of_mem _ h)
  · rcases List.mem_cons.mp hq with rfl | hq
    · exact ⟨rfl, _, _, rfl⟩
    · exact hft q hq
theorem paint_len (d0 d1 d2 d3 : Nat) : (paintN d0 d1 d2 d3).length ≤ 16 := by
  unfold paintN
  have h1 := pt_len 1 d0 [([], [])]
  have h2 := pt_len 2 d1 (paintTurnN 1 d0 [([], [])])
  have h3 := pt_len 3 d2 (paintTurnN 2 d1 (paintTurnN 1 d0 [([], [])]))
  have h4 := pt_len 0 d3 (paintTurnN 3 d2 (paintTurnN 2 d1 (paintTurnN 1 d0 [([], [])])))
  have h5 : ([(([] : Row), ([] : Row))]).length = 1 := rfl
  omega
theorem found_len (d0 d1 d2 d3 : Nat) : (foundN d0 d1 d2 d3).length = (paintN d0 d1 d2 d3).length := by rw [found_eq, List.length_map]
theorem found_at {d0 d1 d2 d3 i : Nat} {p : Row × Row} (h : (paintN d0 d1 d2 d3)[i]? = some p) : (foundN d0 d1 d2 d3)[i]? = some (resN p) := by
  rw [found_eq, List.getElem?_map, h]; rfl
theorem hs51 {x e0 e1 e2 e3 e4 : Addr × Obj} {tl : List (Addr × Obj)} : ∀ q ∈ [e0, e1, e2, e3, e4], q ∈ x :: e0 :: e1 :: e2 :: e3 :: e4 :: tl := fun q hq => by
  simp only [List.mem_cons, List.not_mem_nil, or_false] at hq ⊢
  rcases hq with hq | hq | hq | hq | hq <;> simp only [hq, true_or, or_true]
theorem newl_cons {h h' : Heap} {r : Addr} {o : Obj} {pl : List (Addr × Obj)} (e1 : h'.get? r = some o) (e2 : h.get? r = none) (hp : ∀ q ∈ pl, h'.get? q.1 = some q.2 ∧ h.get? q.1 = none) : NewL h h' ((r, o) :: pl) := fun q hq => by
  rcases List.mem_cons.mp hq with rfl | hq
  · exact ⟨e1, e2⟩
  · exact hp q hq
theorem min_eq {fs : List (Row × Nat)} {M : Int} (h4 : ∀ f ∈ fs, f.2 ≤ 4) (a : M ∈ fs.map fun p => (p.2 : Int)) (b : ∀ a, a ∈ (fs.map fun p => (p.2 : Int)) → M ≤ a) : M = ((fs.foldl (fun m x => min m x.2) 4 : Nat) : Int) := by
  have e : fs.foldl (fun m x => min m x.2) 4 = (fs.map (·.2)).foldl min 4 := by
    generalize (4 : Nat) = z
    clear h4 a b
    induction fs generalizing z with
    | nil => rfl
    | cons f fs ih => exact ih (min z f.2)
  obtain ⟨h1, h2, h3⟩ := fold_min (fs.map (·.2)) 4
  rw [← e] at h1 h2 h3
  obtain ⟨p, hp, rfl⟩ := List.mem_map.mp a
  have g1 := h2 p.2 (List.mem_map_of_mem hp)
  have g4 := h4 p hp
  rcases h3 with h3 | h3
  · omega
  · obtain ⟨q, hq, e2⟩ := List.mem_map.mp h3
    have := b q.2 (List.mem_map.mpr ⟨q, hq, rfl⟩)
    omega

theorem any_cast (c : Nat) : ∀ l : List Nat, ((l.map fun n => ((n : Nat) : Int)).any fun x => x == (c : Int)) = l.contains c
  | [] => rfl
  | a :: l => by
    rw [List.map_cons, List.any_cons, any_cast c l, List.contains_cons]
    have e : (((a : Nat) : Int) == (c : Int)) = (c == a) := by
      rw [Bool.eq_iff_iff, beq_iff_eq, beq_iff_eq]
      omega
    rw [e]
noncomputable def RZ (g0 g1 g2 g3 : Int) : List Int := [(0 + 1 - ([g0, g1, g2, g3].getD (Int.toNat 0) 0).fmod 4).fmod 4, (1 + 1 - ([g0, g1, g2, g3].getD (Int.toNat 1) 0).fmod 4).fmod 4, (2 + 1 - ([g0, g1, g2, g3].getD (Int.toNat 2) 0).fmod 4).fmod 4, (3 + 1 - ([g0, g1, g2, g3].getD (Int.toNat 3) 0).fmod 4).fmod 4]
noncomputable def rN (d0 d1 d2 d3 : Nat) : List Nat := [(1 + 4 - d0) % 4, (2 + 4 - d1) % 4, (3 + 4 - d2) % 4, (4 + 4 - d3) % 4]
theorem rest_one (g : Int) (k : Nat) : ((k : Int) + 1 - g.fmod 4).fmod 4 = (((k + 1 + 4 - (g.fmod 4).toNat) % 4 : Nat) : Int) := by
  obtain ⟨h1, h2⟩ := dN_eq g
  rw [Int.fmod_eq_emod_of_nonneg _ (show (0 : Int) ≤ 4 by decide)]
  omega
theorem rz_eq (g0 g1 g2 g3 : Int) : RZ g0 g1 g2 g3 = (rN (g0.fmod 4).toNat (g1.fmod 4).toNat (g2.fmod 4).toNat (g3.fmod 4).toNat).map fun n => ((n : Nat) : Int) := by
  have a0 := rest_one g0 0
  have a1 := rest_one g1 1
  have a2 := rest_one g2 2
  have a3 := rest_one g3 3
  show [(0 + 1 - g0.fmod 4).fmod 4, (1 + 1 - g1.fmod 4).fmod 4, (2 + 1 - g2.fmod 4).fmod 4, (3 + 1 - g3.fmod 4).fmod 4] = [_, _, _, _]
  rw [show (0 + 1 - g0.fmod 4).fmod 4 = _ from a0, show (1 + 1 - g1.fmod 4).fmod 4 = _ from a1, show (2 + 1 - g2.fmod 4).fmod 4 = _ from a2, show (3 + 1 - g3.fmod 4).fmod 4 = _ from a3]
theorem meas_of (g0 g1 g2 g3 : Int) : measN (g0.fmod 4).toNat (g1.fmod 4).toNat (g2.fmod 4).toNat (g3.fmod 4).toNat = if ((RZ g0 g1 g2 g3).any fun x => x == 1) || ((RZ g0 g1 g2 g3).any fun x => x == 3) then 1 else if ((RZ g0 g1 g2 g3).any fun x => x == 2) then 2 else 4 := by
  rw [rz_eq]
  have e1 := any_cast 1 (rN (g0.fmod 4).toNat (g1.fmod 4).toNat (g2.fmod 4).toNat (g3.fmod 4).toNat)
  have e2 := any_cast 2 (rN (g0.fmod 4).toNat (g1.fmod 4).toNat (g2.fmod 4).toNat (g3.fmod 4).toNat)
  have e3 := any_cast 3 (rN (g0.fmod 4).toNat (g1.fmod 4).toNat (g2.fmod 4).toNat (g3.fmod 4).toNat)
  rw [show (fun x : Int => x == 1) = fun x : Int => x == ((1 : Nat) : Int) from rfl, show (fun x : Int => x == 2) = fun x : Int => x == ((2 : Nat) : Int) from rfl, show (fun x : Int => x == 3) = fun x : Int => x == ((3 : Nat) : Int) from rfl, e1, e2, e3]
  rfl
theorem m_a {g0 g1 g2 g3 : Int} (h : ((RZ g0 g1 g2 g3).any fun x => x == 1) = true) : measN (g0.fmod 4).toNat (g1.fmod 4).toNat (g2.fmod 4).toNat (g3.fmod 4).toNat = 1 := by rw [meas_of, h]; rfl
theorem m_b {g0 g1 g2 g3 : Int} (h : ((RZ g0 g1 g2 g3).any fun x => x == 3) = true) : measN (g0.fmod 4).toNat (g1.fmod 4).toNat (g2.fmod 4).toNat (g3.fmod 4).toNat = 1 := by rw [meas_of, h, Bool.or_true]; rfl
theorem m_c {g0 g1 g2 g3 : Int} (h1 : ((RZ g0 g1 g2 g3).any fun x => x == 1) = false) (h3 : ((RZ g0 g1 g2 g3).any fun x => x == 3) = false) (h : ((RZ g0 g1 g2 g3).any fun x => x == 2) = true) : measN (g0.fmod 4).toNat (g1.fmod 4).toNat (g2.fmod 4).toNat (g3.fmod 4).toNat = 2 := by rw [meas_of, h1, h3, h]; rfl
theorem m_d {g0 g1 g2 g3 : Int} (h1 : ((RZ g0 g1 g2 g3).any fun x => x == 1) = false) (h3 : ((RZ g0 g1 g2 g3).any fun x => x == 3) = false) (h : ((RZ g0 g1 g2 g3).any fun x => x == 2) = false) : measN (g0.fmod 4).toNat (g1.fmod 4).toNat (g2.fmod 4).toNat (g3.fmod 4).toNat = 4 := by rw [meas_of, h1, h3, h]; rfl
theorem pt_ge (g d : Nat) (ps : List (Row × Row)) : ps.length ≤ (paintTurnN g d ps).length := by
  unfold paintTurnN
  induction ps with
  | nil => exact Nat.le_refl _
  | cons p ps ih =>
    rw [List.flatMap_cons, List.length_append, List.length_cons]
    simp only [List.length_cons]
    omega
theorem found_pos (d0 d1 d2 d3 : Nat) : 1 ≤ (foundN d0 d1 d2 d3).length := by
  rw [found_len]
  unfold paintN
  have h1 := pt_ge 1 d0 [([], [])]
  have h2 := pt_ge 2 d1 (paintTurnN 1 d0 [([], [])])
  have h3 := pt_ge 3 d2 (paintTurnN 2 d1 (paintTurnN 1 d0 [([], [])]))
  have h4 := pt_ge 0 d3 (paintTurnN 3 d2 (paintTurnN 2 d1 (paintTurnN 1 d0 [([], [])])))
  have h5 : ([(([] : Row), ([] : Row))]).length = 1 := rfl
  omega
theorem half_row {g r : Row} {st : List Row × List Nat} {res : Row × Nat} (hg : Row4 g) (hr : Row4 r) (h : halfN g r st = .inl res) : Row4 res.1 := by
  unfold halfN at h
  dsimp only at h
  split at h
  · cases h; exact (hg.aft hr).1
  · split at h <;> cases h
theorem run_row {red blue : Row} (hr : Row4 red) (hb : Row4 blue) : ∀ (n k : Nat) (rows : List Row) (held : List Nat) (res : Row × Nat), StOk rows held → runN n red blue k rows held = some res → res.1 ≠ [] → Row4 res.1
  | 0, _, _, _, _, _, h, _ => by simp [runN] at h
  | n + 1, k, rows, held, res, hs, h, hne => by
    unfold runN at h
    by_cases hk : k < rows.length
    · rw [if_pos hk] at h
      have hrow : Row4 (rows.getD k []) := by
        have : rows.getD k [] = rows[k] := by simp [List.getD, hk]
        rw [this]; exact hs.rows _ (List.getElem_mem hk)
      rcases half_enc hr hrow hs with ⟨r1, e1, _⟩ | ⟨rows', held', e1, _, hs'⟩
      · rw [e1] at h
        cases h
        exact half_row hr hrow e1
      · rw [e1] at h
        dsimp only at h
        rcases half_enc hb hrow hs' with ⟨r1, e2, _⟩ | ⟨rows'', held'', e2, _, hs''⟩
        · rw [e2] at h
          cases h
          exact half_row hb hrow e2
        · rw [e2] at h
          exact run_row hr hb n (k + 1) rows'' held'' res hs'' h hne
    · rw [if_neg hk] at h
      cases h
      unfold firstN at hne ⊢
      dsimp only at hne ⊢
      generalize hl : ((((rows.zip held).take rows.length).filter fun p => cntN p.2 == leastN held).map (·.1)) = l at hne ⊢
      cases l with
      | nil => exact absurd rfl hne
      | cons a l =>
        have ha : a ∈ ((((rows.zip held).take rows.length).filter fun p => cntN p.2 == leastN held).map (·.1)) := by rw [hl]; exact List.mem_cons_self
        obtain ⟨p, hp, rfl⟩ := List.mem_map.mp ha
        exact hs.rows _ (List.of_mem_zip (List.mem_of_mem_take (List.mem_filter.mp hp).1)).1
theorem found_row {d0 d1 d2 d3 : Nat} (K : LawOk d0 d1 d2 d3) {f : Row × Nat} (hf : f ∈ foundN d0 d1 d2 d3) : Row4 f.1 := by
  rw [found_eq] at hf
  obtain ⟨p, hp, rfl⟩ := List.mem_map.mp hf
  obtain ⟨hr, hb⟩ := K.row p hp
  obtain ⟨res, hrun, hres, hne⟩ := res_run K hp
  rw [hres]
  exact run_row hr hb 20 0 _ _ res ⟨fun r h => by rw [List.mem_singleton.mp h]; exact ⟨0, 1, 2, 3, rfl, by decide, by decide, by decide, by decide⟩, fun u h => by rw [List.mem_singleton.mp h]; decide⟩ hrun hne
theorem row_lt {r : Row} (h : Row4 r) : ∀ x ∈ r, x < 8 := by
  obtain ⟨a, b, c, d, rfl, ha, hb, hc, hd⟩ := h
  intro x hx
  simp only [List.mem_cons, List.not_mem_nil, or_false] at hx
  rcases hx with rfl | rfl | rfl | rfl <;> assumption
theorem cost_all : ((List.range 8).all fun x => (List.range 8).all fun y => decide (costP ⟨#[sg8 x]⟩ ⟨#[sg8 y]⟩ < 2) == (y % 4 == x % 4)) = true := by decide +kernel
theorem cost_eq {x y : Nat} (hx : x < 8) (hy : y < 8) : decide (costP ⟨#[sg8 x]⟩ ⟨#[sg8 y]⟩ < 2) = (y % 4 == x % 4) := by
  have z := cost_all
  simp only [List.all_eq_true, List.mem_range] at z
  exact eq_of_beq (z x hx y hy)
theorem sum_cast : ∀ l : List Nat, (l.map fun n => ((n : Nat) : Int)).sum = ((l.foldl (· + ·) 0 : Nat) : Int) := by
  have go : ∀ (l : List Nat) (a : Nat), ((l.foldl (· + ·) a : Nat) : Int) = (a : Int) + (l.map fun n => ((n : Nat) : Int)).sum := by
    intro l
    induction l with
    | nil => intro a; simp
    | cons x l ih => intro a; rw [List.foldl_cons, ih, List.map_cons, List.sum_cons]; push_cast; omega
  intro l
  have := go l 0
  rw [this]; simp
theorem ev_ok {d0 d1 d2 d3 : Nat} (K : LawOk d0 d1 d2 d3) : ∀ p ∈ foundN d0 d1 d2 d3, EvOk ((weightsN (rateN (d0, d1, d2, d3))).map fun n => ((n : Nat) : Int)) p := by
  intro p hp
  have hr4 := found_row K hp
  have hlt := row_lt hr4
  have he := K.ev
  unfold evenN at he
  simp only [List.all_eq_true, Bool.and_eq_true, beq_iff_eq] at he
  obtain ⟨e1, e2⟩ := he p hp
  have hpos := (K.fnd p hp).1
  generalize weightsN (rateN (d0, d1, d2, d3)) = W at e1 e2 ⊢
  refine ⟨?_, ?_, fun x hx => ?_⟩
  · obtain ⟨a, b, c, d, h, _⟩ := hr4
    exact ⟨a, b, c, d, h⟩
  · rw [sum_cast, Int.fmod_eq_emod_of_nonneg _ (by omega)]
    exact_mod_cast e1
  · have e3 := e2 x hx
    rw [sum_cast, Int.fdiv_eq_ediv_of_nonneg _ (by omega)]
    have e4 : shareZ (W.map fun n => ((n : Nat) : Int)) p.1 x 4 = (((List.range 4).filter fun k => p.1.getD k 0 % 4 == x % 4).map fun k => W.getD k 0).map fun n => ((n : Nat) : Int) := by
      unfold shareZ
      rw [List.map_map]
      have e5 : ((List.range 4).filter fun k => decide (costP ⟨#[sg8 x]⟩ ⟨#[sg8 (p.1.getD k 0)]⟩ < 2)) = (List.range 4).filter fun k => p.1.getD k 0 % 4 == x % 4 := List.filter_congr fun k hk => cost_eq (hlt x hx) (hr4.get k (List.mem_range.mp hk))
      rw [e5]
      refine List.map_congr_left fun k _ => ?_
      show (W.map fun n => ((n : Nat) : Int)).getD k 0 = ((W.getD k 0 : Nat) : Int)
      simp only [List.getD, List.getElem?_map]
      cases W[k]? <;> rfl
    rw [e4, sum_cast, e3]
    push_cast; rfl
theorem w_sums : (allD.all fun d => decide ((weightsN (rateN d)).foldl (· + ·) 0 < 4096)) = true := by decide +kernel
theorem w_sum {d0 d1 d2 d3 : Nat} (h0 : d0 < 4) (h1 : d1 < 4) (h2 : d2 < 4) (h3 : d3 < 4) : -4096 < ((weightsN (rateN (d0, d1, d2, d3))).map fun n => ((n : Nat) : Int)).sum ∧ ((weightsN (rateN (d0, d1, d2, d3))).map fun n => ((n : Nat) : Int)).sum < 4096 := by
  have z := w_sums
  simp only [List.all_eq_true, decide_eq_true_eq] at z
  have := z _ (mem_allD h0 h1 h2 h3)
  rw [sum_cast]
  omega
theorem cls_ne {h₀ h : Heap} {L a b : Addr} {o o' : Obj} {all : List (Addr × Obj)} (N : News h₀ L h all) (m : (a, o) ∈ all) (m' : (b, o') ∈ all) (hd : o.cls ≠ o'.cls) : a ≠ b := fun e => by
  have h1 := (N _ m).1
  have h2 := (N _ m').1
  dsimp only at h1 h2
  rw [e, h2] at h1
  exact hd (congrArg Obj.cls (Option.some.inj h1)).symm
theorem weights_led {h₀ h : Heap} {L Fo : Addr} {xM pr rs ga cg eR ea eb ec ed : Addr × Obj} {oF : Obj} {ft pl : List (Addr × Obj)} {p1 p2 : Array Value} {q1 q2 : List (Addr × Obj)} {vR va vb vc vd : Array Value} {nR na nb nc nd : Nat}
    (N : News h₀ L h (xM :: (Fo, oF) :: (ft ++ pr :: (pl ++ rs :: eR :: ea :: eb :: ec :: ed :: ga :: cg :: LedT p1 p2 q1 q2)))) (oF1 : Off1 Fo (ft ++ pr :: (pl ++ rs :: eR :: ea :: eb :: ec :: ed :: ga :: cg :: LedT p1 p2 q1 q2))) (hT : TabsOk p1 p2 q1 q2) (hft : ∀ q ∈ ft, q.2.cls = .type "tuple" ∧ ∃ xs n, q.2.data = .seq xs n)
    (cR : eR.2 = W.listOf vR nR) (ca : ea.2 = W.listOf va na) (cb : eb.2 = W.listOf vb nb) (cc : ec.2 = W.listOf vc nc) (cd : ed.2 = W.listOf vd nd) :
    (∀ q ∈ [eR, ea, eb, ec, ed], q ∈ xM :: (Fo, oF) :: (ft ++ pr :: (pl ++ rs :: eR :: ea :: eb :: ec :: ed :: ga :: cg :: LedT p1 p2 q1 q2))) ∧
    ∀ q ∈ (Fo, oF) :: (ft ++ LedT p1 p2 q1 q2), q ∈ xM :: (Fo, oF) :: (ft ++ pr :: (pl ++ rs :: eR :: ea :: eb :: ec :: ed :: ga :: cg :: LedT p1 p2 q1 q2)) ∧ q.1 ∉ [eR, ea, eb, ec, ed].map (·.1) := by
  have hin : ∀ e ∈ [eR, ea, eb, ec, ed], e ∈ ft ++ pr :: (pl ++ rs :: eR :: ea :: eb :: ec :: ed :: ga :: cg :: LedT p1 p2 q1 q2) := fun e he => by
    refine List.mem_append_right _ (List.mem_cons_of_mem _ (List.mem_append_right _ (List.mem_cons_of_mem _ ?_)))
    simp only [List.mem_cons, List.not_mem_nil, or_false] at he ⊢
    rcases he with he | he | he | he | he <;> simp only [he, true_or, or_true]
  have hl : ∀ e ∈ [eR, ea, eb, ec, ed], ∃ v n, e.2 = W.listOf v n := fun e he => by
    simp only [List.mem_cons, List.not_mem_nil, or_false] at he
    rcases he with rfl | rfl | rfl | rfl | rfl
    · exact ⟨_, _, cR⟩
    · exact ⟨_, _, ca⟩
    · exact ⟨_, _, cb⟩
    · exact ⟨_, _, cc⟩
    · exact ⟨_, _, cd⟩
  have hin2 : ∀ e ∈ [eR, ea, eb, ec, ed], e ∈ xM :: (Fo, oF) :: (ft ++ pr :: (pl ++ rs :: eR :: ea :: eb :: ec :: ed :: ga :: cg :: LedT p1 p2 q1 q2)) := fun e he => List.mem_cons_of_mem _ (List.mem_cons_of_mem _ (hin e he))
  refine ⟨hin2, fun q hq => ?_⟩
  have hqm : q ∈ xM :: (Fo, oF) :: (ft ++ pr :: (pl ++ rs :: eR :: ea :: eb :: ec :: ed :: ga :: cg :: LedT p1 p2 q1 q2)) := by
    rcases List.mem_cons.mp hq with rfl | hq
    · exact List.mem_cons_of_mem _ List.mem_cons_self
    rcases List.mem_append.mp hq with hq | hq
    · exact List.mem_cons_of_mem _ (List.mem_cons_of_mem _ (List.mem_append_left _ hq))
    · refine List.mem_cons_of_mem _ (List.mem_cons_of_mem _ (List.mem_append_right _ (List.mem_cons_of_mem _ (List.mem_append_right _ (List.mem_cons_of_mem _ ?_)))))
      exact List.mem_cons_of_mem _ (List.mem_cons_of_mem _ (List.mem_cons_of_mem _ (List.mem_cons_of_mem _ (List.mem_cons_of_mem _ (List.mem_cons_of_mem _ (List.mem_cons_of_mem _ hq))))))
  refine ⟨hqm, fun hb => ?_⟩
  obtain ⟨e, he, hee⟩ := List.mem_map.mp hb
  obtain ⟨v, n, hv⟩ := hl e he
  rcases List.mem_cons.mp hq with rfl | hq
  · exact off1_mem oF1 e (hin e he) hee
  rcases List.mem_append.mp hq with hq | hq
  · refine cls_ne (o := e.2) (o' := q.2) N (hin2 e he) hqm ?_ hee
    rw [hv, (hft q hq).1]
    show Value.type "list" ≠ Value.type "tuple"
    decide
  · obtain ⟨w, hw⟩ := hT.code q hq
    exact seq_off (o := e.2) (o' := q.2) N (hin2 e he) hqm (by rw [hv]) hw hee

theorem t_weightsE (w : World) {p : Program} {loose : List PySem.Str} {mean : ExcName → Option Value} {mg mb : PySem.Str → Option Value} (l r0 r1 r2 r3 : Addr) (a0 a1 a2 a3 b0 b1 b2 b3 : Tok) {d0 d1 d2 d3 : Nat} (h0 : d0 < 4) (h1 : d1 < 4) (h2 : d2 < 4) (h3 : d3 < 4) :
    Cm w p loose mean mg mb PySem.Challenge.rw_to0087_01 340 12 [.ref l] [(l, W.listOf #[.ref r0, .ref r1, .ref r2, .ref r3] 4), (r0, Road 1 d0 a0 b0), (r1, Road 2 d1 a1 b1), (r2, Road 3 d2 a2 b2), (r3, Road 0 d3 a3 b3)] (fun h rv h' => ∃ r vs k, rv = .ref r ∧ NewL h h' [(r, W.listOf (List.toArray vs) k)] ∧ IntsAre vs ((weightsN (rateN (d0, d1, d2, d3))).map fun n => ((n : Nat) : Int))) := by
  intro dp un gd cn cs a ccd cl outer A₀ base h₀ L m s Q E B F X N T hk hdd hu k
  have z := t_weights w (p := p) (loose := loose) (mean := mean) (mg := mg) (mb := mb) l r0 r1 r2 r3 a0 a1 a2 a3 b0 b1 b2 b3 (enc [d0]) (enc [d1]) (enc [d2]) (enc [d3]) rfl rfl rfl rfl (rates_ok h0 h1 h2 h3)
  rw [show PySem.Str.ofString "a" = enc [0] from by kernel_rfl, show PySem.Str.ofString "b" = enc [1] from by kernel_rfl, show PySem.Str.ofString "c" = enc [2] from by kernel_rfl, show PySem.Str.ofString "d" = enc [3] from by kernel_rfl] at z
  refine z dp un gd cn cs a ccd cl outer A₀ base h₀ L m s Q E B F X N T hk hdd hu fun v h' tk' I hp => k v h' tk' I ?_
  obtain ⟨r, vs, kk, rfl, hN, hi⟩ := hp
  refine ⟨r, vs.toList, kk, rfl, ?_, ?_⟩
  · rw [Array.toArray_toList]; exact hN
  · rw [← weights_eq h0 h1 h2 h3]; exact hi
end Mine
end
/-! # LawR -/
section
open PySem PySem.W PyProof.Rows PySem.Calls PySem.Spec
set_option Elab.async false
set_option maxRecDepth 100000
set_option maxHeartbeats 400000000
open PyProof.Rows.LCg PyProof.Rows.LCt
namespace Mine
section
variable {prog : Program} {w : World} {A : Around} {h₀ : Heap} {L : Addr} {m : PySem.Str → Option Value} {env : Env}
/-- a comprehension that makes new objects, by what it has gathered and its ledger; each turn's end a letter -/
theorem rest_gl {elt : Expr} {x : PySem.Str} {scope : Scope} {cl : List (PySem.Str × Addr)} {s : Shared} {S : List (Addr × Obj) → Prop} {P : Nat → Value → Prop} {Fin : List Value → List (Addr × Obj) → Prop} {n : Nat} {news : List (Addr × Obj)} (G : Nat → List Value → List (Addr × Obj) → Prop)
    (h0 : G 0 [] news) (hf : ∀ ys nw, G n ys nw → Fin ys nw)
    (step : ∀ i, i < n → ∀ ys nw, G i ys nw → ∀ v, P i v → ∀ (I : Addr) (oI : Obj) (C : Addr) (oC : Obj) (D : Addr) (m₂ : PySem.Str → Option Value) (h : Heap) (gs : Array GenState) (dr : Drawn) (tk : Nat) (os : OsState) (E' R : Value → Shared → Prop), NsObj oC m₂ → m₂ x = some v → Fr h₀ L h m → News h₀ L h ((I, oI) :: (C, oC) :: (D, lst ys) :: nw) → Off3 I C D nw → ((@Ne Nat I C) ∧ (@Ne Nat I D) ∧ (@Ne Nat C D)) →
      (∀ y h' tk' nw', Fr h₀ L h' m → News h₀ L h' ((I, oI) :: (C, oC) :: (D, lst ys) :: nw') → Off3 I C D nw' → S nw' → G (i + 1) (ys ++ [y]) nw' → R y ⟨h', gs, dr, tk', os⟩) →
      wpAny (model prog w) A (eval elt (compEnvC scope cl C env)) R E' ⟨h, gs, dr, tk, os⟩) :
    CompRest prog w A h₀ L m env elt x scope cl s S P Fin n 0 [] news := by
  have go : ∀ k i, i + k = n → ∀ ys nw, G i ys nw → CompRest prog w A h₀ L m env elt x scope cl s S P Fin k i ys nw := by
    intro k
    induction k with
    | zero =>
      intro i hi ys nw hg
      obtain rfl : i = n := hi
      exact CompRest.zero (hf ys nw hg)
    | succ k ih =>
      intro i hi ys nw hg
      refine CompRest.succ fun v I oI C oC D m₂ h tk E' hv hC hx F N off ne => ?_
      exact step i (hi ▸ Nat.lt_add_of_pos_right (Nat.succ_pos k)) ys nw hg v hv I oI C oC D m₂ h s.gens s.drawn tk s.os E' _ hC hx F N off ne fun y h' tk' nw' F' N' off' hS hg' => ⟨h', tk', nw', rfl, F', N', off', hS, ih (i + 1) (by rw [Nat.succ_add]; exact hi) _ _ hg'⟩
  exact go n 0 (Nat.zero_add n) [] news h0
end
theorem gets_strs (κ : PySem.Str) : ∀ qs : List Hd, StrsAre (getsP κ (HdV qs)) (((qs.map (·.2)).filter fun p => Txt.lower p.1 == κ).map (·.2))
  | [] => .nil
  | q :: r => by
    have ih := gets_strs κ r
    unfold getsP at ih ⊢
    unfold HdV at ih ⊢
    simp only [List.map_cons, List.filter_cons]
    cases e : Txt.lower q.2.1 == κ with
    | true => exact .cons _ _ ih
    | false => exact ih
theorem page_filter (g0 g1 g2 g3 : Int) {i : Nat} (hi : i < 4) : (((pageHs [g0, g1, g2, g3] 4).filter fun p => Txt.lower p.1 == Txt.lower ⟨#[65 + i]⟩).map (·.2)) = [typedP (((i : Int) + 1).fmod 4) (([g0, g1, g2, g3].getD i 0).fdiv 4), typedP (([g0, g1, g2, g3].getD i 0).fmod 4) (([g0, g1, g2, g3].getD i 0).fdiv 256)] :=
  four (P := fun i => (((pageHs [g0, g1, g2, g3] 4).filter fun p => Txt.lower p.1 == Txt.lower ⟨#[65 + i]⟩).map (·.2)) = [typedP (((i : Int) + 1).fmod 4) (([g0, g1, g2, g3].getD i 0).fdiv 4), typedP (([g0, g1, g2, g3].getD i 0).fmod 4) (([g0, g1, g2, g3].getD i 0).fdiv 256)]) (by kernel_rfl) (by kernel_rfl) (by kernel_rfl) (by kernel_rfl) hi
theorem strs_two {vs : List Value} {a b : PySem.Str} (h : StrsAre vs [a, b]) : ∃ t u, vs = [.str a t, .str b u] := by
  cases h with | cons _ t h => cases h with | cons _ u h => cases h with | nil => exact ⟨t, u, rfl⟩
theorem gets_page {g0 g1 g2 g3 : Int} {qs : List Hd} (h : qs.map (·.2) = pageHs [g0, g1, g2, g3] 4) {i : Nat} (hi : i < 4) : ∃ t u, getsP (Txt.lower ⟨#[65 + i]⟩) (HdV qs) = [.str (typedP (((i : Int) + 1).fmod 4) (([g0, g1, g2, g3].getD i 0).fdiv 4)) t, .str (typedP (([g0, g1, g2, g3].getD i 0).fmod 4) (([g0, g1, g2, g3].getD i 0).fdiv 256)) u] := by
  have z := gets_strs (Txt.lower ⟨#[65 + i]⟩) qs
  rw [h, page_filter g0 g1 g2 g3 hi] at z
  exact strs_two z
theorem page_keys {gs : List Int} {qs : List Hd} (h : qs.map (·.2) = pageHs gs 4) : qs.length ≤ 8 ∧ ∀ q ∈ qs, q.2.1.length = 1 := by
  have e := congrArg List.length h
  rw [List.length_map, pageHs_len] at e
  refine ⟨Nat.le_of_eq e, fun q hq => ?_⟩
  have hm : q.2 ∈ pageHs gs 4 := h ▸ List.mem_map_of_mem hq
  obtain ⟨k, _, hk⟩ := List.mem_flatMap.mp hm
  simp only [pageTurn, List.mem_cons, List.not_mem_nil, or_false] at hk
  rcases hk with hk | hk <;> (rw [hk]; rfl)
theorem lower_clean (P : Params) {i : Nat} (hi : i < 4) : clean (cdN P) (Txt.lower ⟨#[65 + i]⟩).cps = true ∧ (Txt.lower ⟨#[65 + i]⟩).cps.size < 3 :=
  ⟨four (P := fun i => clean (cdN P) (Txt.lower ⟨#[65 + i]⟩).cps = true) (by kernel_rfl) (by kernel_rfl) (by kernel_rfl) (by kernel_rfl) hi, four (P := fun i => (Txt.lower ⟨#[65 + i]⟩).cps.size < 3) (by decide +kernel) (by decide +kernel) (by decide +kernel) (by decide +kernel) hi⟩
theorem next_place {i : Nat} (hi : i < 4) : ((i : Int) + 1).fmod 4 = (((i + 1) % 4 : Nat) : Int) := four (P := fun i => ((i : Int) + 1).fmod 4 = (((i + 1) % 4 : Nat) : Int)) rfl rfl rfl rfl hi
theorem sg4 {i : Nat} {c : PySem.Str} (hi : i < 4) (h : ([⟨#[65]⟩, ⟨#[66]⟩, ⟨#[67]⟩, ⟨#[68]⟩] : List PySem.Str)[i]? = some c) : c = ⟨#[65 + i]⟩ :=
  four (P := fun i => ∀ c, ([⟨#[65]⟩, ⟨#[66]⟩, ⟨#[67]⟩, ⟨#[68]⟩] : List PySem.Str)[i]? = some c → c = ⟨#[65 + i]⟩) (fun _ h => by cases h; rfl) (fun _ h => by cases h; rfl) (fun _ h => by cases h; rfl) (fun _ h => by cases h; rfl) hi c h
/-- a typed sign of the list that a page gives back -/
theorem two_at {p0 p1 x0 x1 : Int} {t u : Tok} {d0 d1 j : Nat} {v : Value} (e0 : p0 = (d0 : Int)) (e1 : p1 = (d1 : Int)) (h0 : d0 < 4) (h1 : d1 < 4) (h : ([Value.str (typedP p0 x0) t, .str (typedP p1 x1) u] : List Value).toArray[j]? = some v) :
    ∃ p x b d, v = .str (typedP p x) b ∧ p = ((d : Nat) : Int) ∧ d < 4 ∧ [enc [d0], enc [d1]][j]? = some (enc [d]) := by
  match j, h with
  | 0, h => cases h; exact ⟨p0, x0, t, d0, rfl, e0, h0, rfl⟩
  | 1, h => cases h; exact ⟨p1, x1, u, d1, rfl, e1, h1, rfl⟩
  | _ + 2, h => cases h
theorem strs_next {ys : List Value} {l : List PySem.Str} {j : Nat} {c : PySem.Str} {t : Tok} (h : StrsAre ys (l.take j)) (hc : l[j]? = some c) : StrsAre (ys ++ [.str c t]) (l.take (j + 1)) := by
  rw [List.take_add_one, hc]
  exact StrsAre.append' h (.cons _ _ .nil)
noncomputable abbrev RdK (kk : Nat) (q : RdW) : Obj := W.listOf #[.str q.2.1 q.2.2.2.1, .str q.2.2.1 q.2.2.2.2] kk
/-- what the first comprehension keeps -/
inductive GR (kk : Nat) (gs : List Int) (ga cp cg t1 t2 : Addr × Obj) (Λ : List (Addr × Obj)) (i : Nat) (ys : List Value) : List (Addr × Obj) → Prop
  | mk (rs : List RdW) (acc : List (Addr × Obj)) : ys = rs.map (fun q => .ref q.1) → rs.length = i → (∀ j q, rs[j]? = some q → q.2.1 = enc [(j + 1) % 4] ∧ q.2.2.1 = enc [((gs.getD j 0).fmod 4).toNat]) → (∀ q ∈ rs, (q.1, RdK kk q) ∈ acc) → (∀ q ∈ Λ, q ∈ acc) → GR kk gs ga cp cg t1 t2 Λ i ys (ga :: cp :: cg :: t1 :: t2 :: acc)
theorem gr_next {kk : Nat} {gs : List Int} {ga cp cg t1 t2 : Addr × Obj} {Λ acc : List (Addr × Obj)} {i : Nat} {rs : List RdW} {D : Addr} {a b : PySem.Str} {ta tb : Tok} (hl : rs.length = i) (h : ∀ j q, rs[j]? = some q → q.2.1 = enc [(j + 1) % 4] ∧ q.2.2.1 = enc [((gs.getD j 0).fmod 4).toNat]) (hin : ∀ q ∈ rs, (q.1, RdK kk q) ∈ acc) (hΛ : ∀ q ∈ Λ, q ∈ acc) (ha : a = enc [(i + 1) % 4]) (hb : b = enc [((gs.getD i 0).fmod 4).toNat]) :
    GR kk gs ga cp cg t1 t2 Λ (i + 1) (rs.map (fun q => Value.ref q.1) ++ [.ref D]) (ga :: cp :: cg :: t1 :: t2 :: (D, W.listOf #[.str a ta, .str b tb] kk) :: acc) := by
  refine .mk (rs ++ [(D, a, b, ta, tb)]) _ (by rw [List.map_append]; rfl) (by rw [List.length_append, hl]; rfl) ?_ ?_ (fun q hq => .tail _ (hΛ q hq))
  · intro j q hq
    rcases Nat.lt_or_ge j rs.length with hj | hj
    · rw [List.getElem?_append_left hj] at hq; exact h j q hq
    · rw [List.getElem?_append_right hj] at hq
      rcases e : j - rs.length with _ | k
      · rw [e] at hq
        cases hq
        obtain rfl : j = i := Nat.le_antisymm (hl ▸ Nat.sub_eq_zero_iff_le.mp e) (hl ▸ hj)
        exact ⟨ha, hb⟩
      · rw [e] at hq
        cases hq
  · intro q hq
    rcases List.mem_append.mp hq with hq | hq
    · exact .tail _ (hin q hq)
    · rw [List.mem_singleton.mp hq]; exact .head _
noncomputable abbrev RoadK (kk g d : Nat) (a b : Tok) : Obj := W.listOf #[.str (enc [g]) a, .str (enc [d]) b] kk
inductive Rows4 (kk : Nat) (h₀ : Heap) (L : Addr) (h : Heap) (d0 d1 d2 d3 : Nat) (D : Addr) (f1 f2 f3 f4 f5 : Addr × Obj) (Λ : List (Addr × Obj)) : List Value → Prop
  | mk (r0 r1 r2 r3 : Addr) (a0 b0 a1 b1 a2 b2 a3 b3 : Tok) : News h₀ L h ((D, lst [.ref r0, .ref r1, .ref r2, .ref r3]) :: (r0, RoadK kk 1 d0 a0 b0) :: (r1, RoadK kk 2 d1 a1 b1) :: (r2, RoadK kk 3 d2 a2 b2) :: (r3, RoadK kk 0 d3 a3 b3) :: f1 :: f2 :: f3 :: f4 :: f5 :: Λ) → Rows4 kk h₀ L h d0 d1 d2 d3 D f1 f2 f3 f4 f5 Λ [.ref r0, .ref r1, .ref r2, .ref r3]
theorem gr_four {kk : Nat} {h₀ h : Heap} {L D : Addr} {g0 g1 g2 g3 : Int} {f1 f2 f3 f4 f5 : Addr × Obj} {Λ nw : List (Addr × Obj)} {ys : List Value} (G : GR kk [g0, g1, g2, g3] f1 f2 f3 f4 f5 Λ 4 ys nw) (N : News h₀ L h ((D, lst ys) :: nw)) : Rows4 kk h₀ L h (g0.fmod 4).toNat (g1.fmod 4).toNat (g2.fmod 4).toNat (g3.fmod 4).toNat D f1 f2 f3 f4 f5 Λ ys := by
  cases G with
  | mk rs acc hy hl hr ha hΛ =>
  match rs, hl, hy, hr, ha with
  | [(r0, x0, y0, a0, b0), (r1, x1, y1, a1, b1), (r2, x2, y2, a2, b2), (r3, x3, y3, a3, b3)], _, hy, hr, ha =>
  obtain ⟨rfl, rfl⟩ := hr 0 _ rfl
  obtain ⟨rfl, rfl⟩ := hr 1 _ rfl
  obtain ⟨rfl, rfl⟩ := hr 2 _ rfl
  obtain ⟨rfl, rfl⟩ := hr 3 _ rfl
  subst hy
  refine .mk r0 r1 r2 r3 a0 b0 a1 b1 a2 b2 a3 b3 ?_
  have m := fun q hq => N (q.1, RdK kk q) (mem_drop 6 (ha q hq))
  exact cons_all (N _ (.head _)) (cons_all (m _ (.head _)) (cons_all (m _ (.tail _ (.head _))) (cons_all (m _ (.tail _ (.tail _ (.head _)))) (cons_all (m _ (.tail _ (.tail _ (.tail _ (.head _))))) (cons_all (N _ (.tail _ (.head _))) (cons_all (N _ (.tail _ (.tail _ (.head _)))) (cons_all (N _ (.tail _ (.tail _ (.tail _ (.head _))))) (cons_all (N _ (.tail _ (.tail _ (.tail _ (.tail _ (.head _)))))) (cons_all (N _ (.tail _ (.tail _ (.tail _ (.tail _ (.tail _ (.head _))))))) fun p hp => N p (mem_drop 6 (hΛ p hp)))))))))))
theorem news_perm {h₀ h : Heap} {L : Addr} {a b : List (Addr × Obj)} (N : News h₀ L h (a ++ b)) : News h₀ L h (b ++ a) := fun q hq => N q ((List.mem_append.mp hq).elim (List.mem_append_right _) (List.mem_append_left _))
theorem news_roads {h₀ h : Heap} {L : Addr} {D r0 r1 r2 r3 ga cp cg t1 t2 : Addr × Obj} {Λ : List (Addr × Obj)} (N : News h₀ L h (D :: r0 :: r1 :: r2 :: r3 :: ga :: cp :: cg :: t1 :: t2 :: Λ)) : News h₀ L h [ga, cg, t1, t2, D, r0, r1, r2, r3] := fun q hq => N q (by
  simp only [List.mem_cons, List.not_mem_nil, or_false] at hq ⊢
  rcases hq with hq | hq | hq | hq | hq | hq | hq | hq | hq <;> simp only [hq, true_or, or_true])
theorem news_roads2 {h₀ h : Heap} {L : Addr} {E s0 s1 s2 s3 D r0 r1 r2 r3 ga cg t1 t2 : Addr × Obj} (N : News h₀ L h [E, s0, s1, s2, s3, ga, cg, t1, t2, D, r0, r1, r2, r3]) : News h₀ L h [D, r0, r1, r2, r3, ga, cg, t2, t1] := fun q hq => N q (by
  simp only [List.mem_cons, List.not_mem_nil, or_false] at hq ⊢
  rcases hq with hq | hq | hq | hq | hq | hq | hq | hq | hq <;> simp only [hq, true_or, or_true])
theorem row_news {h₀ h : Heap} {L : Addr} {d r p1 p2 I C D ga cp cg t1 t2 : Addr × Obj} {acc : List (Addr × Obj)} (N : News h₀ L h (d :: r :: p1 :: p2 :: I :: C :: D :: ga :: cp :: cg :: t1 :: t2 :: acc)) : News h₀ L h (I :: C :: D :: ga :: cp :: cg :: t1 :: t2 :: d :: acc) := fun q hq => N q (by
  simp only [List.mem_cons] at hq ⊢
  rcases hq with hq | hq | hq | hq | hq | hq | hq | hq | hq | hq <;> simp only [hq, true_or, or_true])
theorem row_off {I C D d : Addr} {oI oC oD od : Obj} {f1 f2 f3 f4 f5 : Addr × Obj} {l acc : List (Addr × Obj)} (o : Off1 d l) (h1 : (I, oI) ∈ l) (h2 : (C, oC) ∈ l) (h3 : (D, oD) ∈ l) (off : Off3 I C D (f1 :: f2 :: f3 :: f4 :: f5 :: acc)) : Off3 I C D (f1 :: f2 :: f3 :: f4 :: f5 :: (d, od) :: acc) :=
  ⟨off.1, off.2.1, off.2.2.1, off.2.2.2.1, off.2.2.2.2.1, ⟨(off1_mem o _ h1).symm, (off1_mem o _ h2).symm, (off1_mem o _ h3).symm⟩, off.2.2.2.2.2⟩
theorem row_new1 {h₀ h : Heap} {L : Addr} {d I C D f1 f2 f3 f4 f5 : Addr × Obj} {acc : List (Addr × Obj)} (N : News h₀ L h (d :: I :: C :: D :: f1 :: f2 :: f3 :: f4 :: f5 :: acc)) : News h₀ L h (I :: C :: D :: f1 :: f2 :: f3 :: f4 :: f5 :: d :: acc) := fun q hq => N q (by
  simp only [List.mem_cons] at hq ⊢
  rcases hq with hq | hq | hq | hq | hq | hq | hq | hq | hq | hq <;> simp only [hq, true_or, or_true])
theorem row_off1 {I C D d : Addr} {oI oC oD od : Obj} {f1 f2 f3 f4 f5 : Addr × Obj} {l acc : List (Addr × Obj)} (o : AllLt d ((I, oI) :: (C, oC) :: (D, oD) :: l)) (off : Off3 I C D (f1 :: f2 :: f3 :: f4 :: f5 :: acc)) : Off3 I C D (f1 :: f2 :: f3 :: f4 :: f5 :: (d, od) :: acc) :=
  ⟨off.1, off.2.1, off.2.2.1, off.2.2.2.1, off.2.2.2.2.1, ⟨Nat.ne_of_gt (allLt_get o (.head _)), Nat.ne_of_gt (allLt_get o (.tail _ (.head _))), Nat.ne_of_gt (allLt_get o (.tail _ (.tail _ (.head _))))⟩, off.2.2.2.2.2⟩
theorem bcda_item {i : Nat} (hi : i < 4) : Txt.item (PySem.Str.ofString "bcda") (i : Int) = enc [(i + 1) % 4] := four (P := fun i => Txt.item (PySem.Str.ofString "bcda") (i : Int) = enc [(i + 1) % 4]) (by kernel_rfl) (by kernel_rfl) (by kernel_rfl) (by kernel_rfl) hi
noncomputable def RZk (gs : List Int) (i : Nat) : Int := ((i : Int) + 1 - (gs.getD i 0).fmod 4).fmod 4
theorem rz_map (g0 g1 g2 g3 : Int) : (List.range 4).map (RZk [g0, g1, g2, g3]) = RZ g0 g1 g2 g3 := rfl
theorem rest_bk {i : Nat} (hi : i < 4) (g : Int) : -4096 < (i : Int) + 1 - g.fmod 4 ∧ (i : Int) + 1 - g.fmod 4 < 4096 := by
  have h1 := fmod_lo g (show (0 : Int) < 4 by decide)
  have h2 := fmod_hi g (show (0 : Int) < 4 by decide)
  omega
/-- what the rests' comprehension keeps -/
inductive GT (K : List (Addr × Obj)) (f : Nat → Int) (i : Nat) (ys : List Value) : List (Addr × Obj) → Prop
  | mk (p1 p2 : Array Value) (q1 q2 : List (Addr × Obj)) : TabsOk p1 p2 q1 q2 → IntsAre ys ((List.range i).map f) → GT K f i ys (K ++ LedT p1 p2 q1 q2)
theorem tup_one {prog : Program} {w : World} {A : Around} {E : Value → Shared → Prop} {s : Shared} {value slice : Expr} {h₀ : Heap} {L a : Addr} {news : List (Addr × Obj)} {v0 v1 : Value} {u : Tok} {Q : Value → Shared → Prop} (N : News h₀ L s.heap ((a, { cls := .type "tuple", data := .seq #[v0, v1] }) :: news)) (h : Q v1 s)
    (hs : subscripted slice false (.ref a) (.int 1 u) = operate [.ref a, .int 1 u] (getItem (.ref a) (.int 1 u))) :
    wpAny (model prog w) A (subscriptTail value slice (.ref a) (.int 1 u)) Q E s := by
  have ht : IsTup s.heap a #[v0, v1] := ⟨_, (N _ (.head _)).1, rfl, _, rfl⟩
  exact tail_any ht.typeIs slot_tuple_getitem.lookup (getItem_tuple ht (by decide) (by decide) (seqIndex_of (by decide) (show (1 : Int) < ((2 : Nat) : Int) by decide)) (x := v1) rfl h) hs
theorem wp_cutL {M : Model} {A : Around} {E : Value → Shared → Prop} {s : Shared} {t : Sem Value} {n : Int} {Q : Value → Shared → Prop} (h1 : ∀ R : Value → Shared → Prop, (∀ v tk, (∃ u, v = Value.int n u) → R v { s with toks := tk }) → wpAny M A t R E s) (h2 : ∀ tk u, Q (.int n u) { s with toks := tk }) : wpAny M A t Q E s :=
  h1 Q fun v tk h => by obtain ⟨u, rfl⟩ := h; exact h2 tk u
theorem mv_1 {n : Nat} {t : Tok} (h : n = 1) : ∃ u, Value.int 1 t = .int (n : Int) u := ⟨t, by rw [h]; rfl⟩
theorem mv_2 {n : Nat} {t : Tok} (h : n = 2) : ∃ u, Value.int 2 t = .int (n : Int) u := ⟨t, by rw [h]; rfl⟩
theorem mv_4 {n : Nat} {t : Tok} (h : n = 4) : ∃ u, Value.int 4 t = .int (n : Int) u := ⟨t, by rw [h]; rfl⟩
end Mine
end
/-! # LawG2 -/
section
theorem Mine.reset_LawG2 : True := by (w_top off); k_with_none; trivial
open PySem PySem.W PyProof.Rows PySem.Calls PySem.Spec
set_option Elab.async false
set_option maxRecDepth 100000
set_option maxHeartbeats 400000000
open PyProof.Rows.LCg PyProof.Rows.LCt
namespace Mine
/-- the ends of a walk become letters -/
theorem to_letter {M : Model} {A : Around} {body : List Stmt} {env : Env} {Q : Flow → Shared → Prop} {E : Value → Shared → Prop} {s : Shared}
    (h : ∀ R : Flow → Shared → Prop, (∀ fl s', Q fl s' → R fl s') → wpAny M A (execs body env) R (fun _ _ => False) s) : wpAny M A (execs body env) Q E s :=
  wpAny_mono (h Q fun _ _ x => x) (fun _ _ x => x) fun _ _ x => x.elim
theorem gints4 {vs : List Value} {a b c d : Int} (h : IntsAre vs [a, b, c, d]) : ∃ t0 t1 t2 t3, vs = [.int a t0, .int b t1, .int c t2, .int d t3] := by
  cases h with | cons _ t0 h => cases h with | cons _ t1 h => cases h with | cons _ t2 h => cases h with | cons _ t3 h => cases h with | nil => exact ⟨t0, t1, t2, t3, rfl⟩
theorem good_true {cl : PySem.Str → Option Addr} {mean : ExcName → Option Value} {args : List WData} {s₁ s' : Shared} (hk : ∀ b o, s₁.heap.get? b = some o → s'.heap.get? b = some o) (ho : s'.os = s₁.os) (hg : s'.gens = #[]) :
    GoodW PySem.Challenge.rw_to0087_01.row.claim cl mean args s₁ (.ok (.ret (.bool true))) s' :=
  ⟨.inl ⟨_, _, _, rfl, fun _ => rfl, ReadsW.bool true, by with_unfolding_all rfl, fun _ => ⟨List.nodup_nil, fun a h => nomatch h⟩⟩, hk, ho, hg⟩
theorem grown_two {h : Heap} {a b c d : Addr} {p1 p2 : Array Value} (e1 : h.get? b = some (tabObj p1)) (e2 : h.get? d = some (tabObj p2)) : GrownAll [(a, b), (c, d)] h := ⟨⟨_, e1⟩, ⟨_, e2⟩, trivial⟩
end Mine
open Mine
section
set_option maxHeartbeats 400000000 in
theorem PySem.Challenge.cw_to0087_01_holds : PySem.Challenge.rw_to0087_01.Holds := by
  k_with_none
  k_with "kbo_bools" => first | (refine' UpdC.head ?x; (case x => kbo_bools)) | (refine' UpdC.tail ?y ?x; (case y => first | exact Or.inr (nc_seq rfl) | exact Or.inr (nc_fields rfl) | exact Or.inr (by intro v9 e9; cases e9) | exact Or.inl (by k_ne)); (case x => kbo_bools)) | ((with_reducible show ApartOr _ _); first | exact trivial | exact apart_nc (by with_reducible assumption) _ | (refine And.intro (by first | exact Or.inr (nc_seq rfl) | exact Or.inr (nc_fields rfl) | exact Or.inr (by intro v9 e9; cases e9) | exact Or.inl (by k_ne)) ?_; kbo_bools))
  k_with "k_ne" => first | exact off1_get (by with_reducible assumption) (by k_mem) | exact Ne.symm (off1_get (by with_reducible assumption) (by k_mem)) | exact Nat.ne_of_lt (allLt_get (by with_reducible assumption) (by k_mem)) | exact Nat.ne_of_gt (allLt_get (by with_reducible assumption) (by k_mem)) | (refine neN ?_; (try dsimp only); omega)
  k_with "k_lt1" => skip
  k_with "exec Assign cons ListComp" => (k_here; first | ((with_reducible show wpAny _ _ (exec (Stmt.Assign _ (Expr.ListComp _ [⟨_, Expr.Constant _ _ _, [], _⟩] _ _) _) _) _ _ _); k_dflt (refine Assign_SU (_F₀ := by k_asm) (by rfl) (by with_unfolding_all rfl) (by with_unfolding_all rfl) (by decide) (by rfl) (by decide) (by rfl) (by rfl) (by rfl) ?_)) | ((with_reducible show wpAny _ _ (exec (Stmt.Assign _ (Expr.ListComp _ [⟨Expr.Tuple _ _ _, _, [], _⟩] _ _) _) _) _ _ _); k_dflt (refine LCp.Assign_ListComp_P (F₀ := by k_asm) (by rfl) (by with_unfolding_all rfl) (by with_unfolding_all rfl) (by decide) (by rfl) (by decide) (by rfl) (by rfl) (by decide) (by rfl) (by rfl) ?_)) | ((with_reducible show wpAny _ _ (exec (Stmt.Assign _ (Expr.ListComp _ [⟨Expr.Name _ _, _, [], _⟩] _ _) _) _) _ _ _); k_dflt (refine LCg.Assign_ListComp_U (F₀ := by k_asm) (by rfl) (by with_unfolding_all rfl) (by rfl) (by decide) (by rfl) (by decide) (by rfl) (by rfl) (by rfl) ?_)))
  k_with "eval ListComp" => (k_here; first | ((with_reducible show wpAny _ _ (eval (Expr.ListComp _ [⟨Expr.Tuple _ _ _, _, [], _⟩] _ _) _) _ _ _); k_dflt (refine LCp.ListComp_P (F₀ := by k_asm) (by with_unfolding_all rfl) (by decide) (by rfl) (by decide) (by rfl) (by rfl) (by decide) ?_)) | ((with_reducible show wpAny _ _ (eval (Expr.ListComp _ [⟨_, Expr.Constant _ _ _, [], _⟩] _ _) _) _ _ _); k_dflt (refine ListComp_SU (F₀ := by k_asm) (by with_unfolding_all rfl) (by decide) (by rfl) (by decide) (by rfl) ?_)) | ((with_reducible show wpAny _ _ (eval (Expr.ListComp _ [⟨Expr.Name _ _, _, [], _⟩] _ _) _) _ _ _); k_dflt (refine LCg.ListComp_U (F₀ := by k_asm) (by with_unfolding_all rfl) (by decide) (by rfl) (by decide) (by rfl) ?_)))
  k_with "storeName" => (k_here; k_dflt (refine' st_cellC ?zF ?zN ?zc ?zU ?zd ?_ ?za ?zb; (case za => rfl); (case zb => rfl); (case zF => k_asm); (case zN => k_asm); (case zc => rfl); (case zU => kbo_bools); (case zd => k_asm)); intro h'_z o'_z F'_z N'_z d'_z; (try dsimp only at N'_z))
  k_with "CompSrc" => (k_here; refine halt ?_)
  k_with "FinE" => ((unfold LCg.FinE); intro D'_z h'_z tk'_z F'_z N'_z o1'_z; (try simp only [List.nil_append, List.cons_append] at N'_z); (try dsimp only))
  k_with "FinA" => ((unfold LCg.FinA); intro D'_z h'_z tk'_z F'_z N'_z o1'_z; (try simp only [List.nil_append, List.cons_append] at N'_z); (try dsimp only))
  k_with "SrcS" => (k_here; refine halt ?_)
  k_with "eval Name" => (k_here; (with_reducible show wpAny _ _ (eval (Expr.Name _ _) (compEnvC _ _ _ _)) _ _ _); k_dflt (first | (refine' LCgL.ld_own ?zN ?zm ?zC ?zx ?_ ?zk ?zl; (case zk => rfl); (case zl => rfl); (case zC => with_reducible assumption); (case zx => with_reducible assumption); (case zN => k_asm); (case zm => k_mem); k_whole) | (refine' lcf_free ?zN ?zc ?zm ?zd ?_ ?za ?zb; (case za => rfl); (case zb => rfl); (case zN => k_asm); (case zc => rfl); (case zm => k_mem); (case zd => with_reducible assumption); k_whole) | (refine' lcf_cell ?zN ?zc ?zm ?zd ?_ ?za ?zb; (case za => rfl); (case zb => rfl); (case zN => k_asm); (case zc => rfl); (case zm => k_mem); (case zd => with_reducible assumption); k_whole) | (refine' LCgL.ld_global ?zF ?zX ?zT ?ze ?_ ?zg ?zk ?zx; (case zg => rfl); (case zk => rfl); (case zx => rfl); (case zF => k_asm); (case zX => k_asm); (case zT => k_asm); (case ze => k_is); k_whole)))
  k_with "subscriptTail Name Name ref int" => (k_here; k_dflt (refine' item_listR ?zl ?z0 ?zf ?zx ?_ ?zs; (case zl => exact News.isList (by k_asm) (by k_mem)); (case z0 => exact Int.natCast_nonneg _); (case zf => with_reducible assumption); (case zx => with_reducible assumption); (case zs => with_unfolding_all rfl)))
  k_with "compareOp In int ref" => (k_here; k_dflt (refine' in_list_ints ?zl ?zi ?_; (case zl => exact News.isList (by k_asm) (by k_mem)); (case zi => with_reducible assumption)))
  k_with "compareOp NotEq ref ref" => (k_here; refine halt ?_)
  k_with "exec Assign" => (k_here; (with_reducible show wpAny _ _ (exec (Stmt.Assign _ (Expr.IfExp _ _ _ _) _) _) _ _ _); k_dflt (refine wpAny_Assign_Name ?_); refine halt ?_)
  k_with "SrcLP" => (k_here; refine halt ?_)
  k_with "call builtin:min" => (k_here; refine halt ?_)
  k_with "call ref" => (k_here; refine halt ?_)
  refine holds_law Mine.well fun _ => Mine.hd ?_
  w_on
  k_fill
  intro w s₀ s₁ mg mb G Y' fa o pm cd doc dV kV ho hd hcd hD hmg hg args vals as hpre hlay hrd hwl hlo
  have SB : s₁.heap.get? 95 = some (o95v3 w.params) := Y'.2
  have Y := Y'.1
  clear Y'
  have KX := km_in_of Y
  km_tabs Y
  have X := (Ground.X G).1
  have V := (Ground.X G).2
  refine Ground.open G ?_
  intro T B D TE TW
  try (refine guard_noD D (by decide +kernel) ?_; clear D)
  km_lay T hmg ho hd cd
  clear hmg
  wrow_args hpre hlay hrd hwl hlo
  all_goals (first | refine callC_kw (enter_call ?_) | refine enter_call ?_; w_top on; kn_posts; w_call any ho hd hcd hD T F; clear hd; kn_ghosts F T; k_drop; skip)
  all_goals try k_fold
  refine to_letter fun R hend => ?_

  w_strict k_steps
  unfold Halt
  have SB' : (ghostOf s₁.heap [(72, 68), (65, 61)]).get? 95 = some (o95v3 w.params) := ghost_ne SB (by decide)
  rename IntsAre _ _ => hI0
  refine Cl.use (t_given w _ _ _ hI0 (by omega)) (by k_asm) (by k_asm) (by k_asm) (by k_asm) (by k_asm) rfl (by decide) (by decide) (lifted.at fun o e => Fr.keep (by k_asm) _ _ e) ?_
  intro v9 h9 tk9 I9 F9 N9 hp9
  clear I9
  obtain ⟨ga, gv, gk, rfl, eg1, eg2, hgi⟩ := hp9
  obtain ⟨g0, g1, g2, g3, hgs, gb0, gb1, gb2, gb3⟩ := drawn_all hgi
  obtain ⟨gt0, gt1, gt2, gt3, rfl⟩ := gints4 hgs
  have N9 := news_add N9 eg1 eg2 (by k_asm)
  clear eg1 eg2 hgi hgs
  w_strict k_steps
  unfold Halt
  refine Cl.use (t_page w _ g0 g1 g2 g3 _ _ _ _ gb0 gb1 gb2 gb3) (by k_asm) (by k_asm) (by k_asm) (by k_asm) (by k_asm) rfl (by decide) (by decide) (News.isList (by k_asm) (by k_mem)) ?_
  intro v9 h9 tk9 I9 F9 N9 hp9
  clear I9
  obtain ⟨pl, px, pd, phh, qs, pacc, rfl, hqs, hin, hnc, hN9⟩ := hp9
  have N9 := news_perm (hN9.news (by k_asm) N9)
  clear hN9
  simp only [List.cons_append, List.nil_append] at N9
  w_strict k_steps
  unfold Halt
  k_dflt (refine SrcS.intro (l := [⟨#[65]⟩, ⟨#[66]⟩, ⟨#[67]⟩, ⟨#[68]⟩]) (n := 4) (by rfl) (by k_asm) (by k_asm) (by decide) (by rfl) (by decide) ?_)
  intro gS
  (try dsimp only)
  refine rest_gl (GR 2 [g0, g1, g2, g3] _ _ _ _ _ ((pl, lst (HdL qs)) :: (px, instObj 295 pd) :: (pd, PgD w pl phh) :: pacc)) (.mk [] _ rfl rfl (fun _ _ h => nomatch h) (fun _ h => nomatch h) (fun _ h => h)) ?fin1 ?step1
  case step1 =>
    intro i1 hi1 ys1 nw1 hG1 v1 hv1 I1 oI1 C1 oC1 D1 m1 h1 gs1 dr1 tk1 os1 E1 R1 hC1 hx1 F1 N1 off1 ne1 hin1
    cases hG1 with
    | mk rs1 acc1 hys1 hl1 hrow1 hra1 hΛ1 =>
    obtain ⟨c1, tc1, hc1, rfl⟩ := hv1
    obtain rfl := sg4 hi1 hc1
    have N2 := news_dup2 N1 (mem_drop 8 (hΛ1 _ (.tail _ (.tail _ (.head _))))) (mem_drop 8 (hΛ1 _ (.tail _ (.head _))))
    clear N1
    w_strict k_steps
    unfold Halt
    refine Cm.useR (t_get w pl px pd phh qs pacc hin hnc (page_keys hqs).1 (page_keys hqs).2 _ ⟨#[65 + i1]⟩ rfl (lower_clean w.params hi1).1 (lower_clean w.params hi1).2) (by k_asm) (by k_asm) (by k_asm) (by k_asm) (by k_asm) rfl (by decide) (by decide) ?hsA ?_
    case hsA => exact fun q hq => mem_drop 10 (hΛ1 q hq)
    intro v9 h9 tk9 F9 N9 hp9
    obtain ⟨rA, rfl, hN9⟩ := hp9
    obtain ⟨tA, uA, eA⟩ := gets_page hqs hi1
    rw [eA] at hN9
    have N9 := hN9.news (by k_asm) N9
    clear hN9 eA N2
    simp only [List.cons_append, List.nil_append] at N9
    w_strict k_steps
    unfold Halt
    k_dflt (refine LCg.CompSrc.ledger (by rfl) (by k_asm) (by k_asm) (by k_mem) (Nat.le_of_ble_eq_true rfl) ?_)
    intro gA
    refine rest_il (fun j ys => StrsAre ys ([enc [(i1 + 1) % 4], enc [(([g0, g1, g2, g3].getD i1 0).fmod 4).toNat]].take j)) (Or.inr ⟨_, by k_mem, rfl, _, rfl⟩) .nil ?finA ?stepA
    case stepA =>
      intro j2 hj2 ys2 hG2 v2 hv2 I2 oI2 C2 oC2 D2 m2 h2 gs2 dr2 tk2 os2 E2 R2 hC2 hx2 F2 N2 off2 ne2 hin2
      obtain ⟨p2, x2, b2, d2, rfl, hp2, hd2, he2⟩ := two_at (next_place hi1) (dN_eq _).1 (Nat.mod_lt _ (by decide)) (dN_eq _).2 hv2
      w_strict k_steps
      unfold Halt
      refine Cl.use (t_readE w p2 x2 b2 d2 hp2 hd2) (by k_asm) (by k_asm) (by k_asm) (by k_asm) (by k_asm) rfl (by decide) (by decide) (Fr.keep (by k_asm) _ _ SB') ?_
      intro v8 h8 tk8 I8 F8 N8 hp8
      clear I8
      obtain ⟨t8, rfl⟩ := hp8
      w_strict k_steps
      exact hin2 _ _ _ (by k_asm) (by k_asm) (strs_next hG2 he2)
    case finA =>
      intro ys2 hG2
      obtain ⟨ta2, tb2, rfl⟩ := strs_two (show StrsAre ys2 [enc [(i1 + 1) % 4], enc [(([g0, g1, g2, g3].getD i1 0).fmod 4).toNat]] from hG2)
      unfold LCg.FinE
      intro D3 h3 tk3 F3 N3 o3
      subst hys1
      clear N9 hG2
      exact hin1 _ _ _ _ F3 (row_news N3) (row_off o3 (by k_mem) (by k_mem) (by k_mem) off1) trivial (gr_next hl1 hrow1 hra1 hΛ1 rfl rfl)
  case fin1 =>
    intro ys1 nw1 hG1
    unfold LCg.FinA
    intro D1 h1 tk1 F1 N1 o1
    clear o1
    have hR1 := gr_four hG1 N1
    clear hG1 N1
    cases hR1 with
    | mk r0 r1 r2 r3 ra0 rb0 ra1 rb1 ra2 rb2 ra3 rb3 N1 =>
    replace N1 := news_roads N1
    (try dsimp only)
    w_strict k_steps
    unfold Halt
    k_dflt (refine LCg.CompSrc.range (n := 4) (by rfl) (by k_asm) (by k_asm) (by assumption) (by decide) (by rfl) (by decide) ?_)
    intro gT
    (try dsimp only)
    refine rest_gl (GR 0 [g0, g1, g2, g3] _ _ _ _ _ _) (.mk [] _ rfl rfl (fun _ _ h => nomatch h) (fun _ h => nomatch h) (fun _ h => h)) ?fin2 ?step2
    case step2 =>
      intro i2 hi2 ys2 nw2 hG2 v2 hv2 I2 oI2 C2 oC2 D2 m2 h2 gs2 dr2 tk2 os2 E2 R2 hC2 hx2 F2 N2 off2 ne2 hin2
      obtain ⟨tv2, hv2⟩ := hv2
      rw [Int.zero_add] at hv2
      subst hv2
      cases hG2 with
      | mk rs2 acc2 hys2 hl2 hrow2 hra2 hΛ2 =>
      subst hys2
      obtain ⟨gv, gt, hgx, hgd, hgb⟩ := g_at (t0 := gt0) (t1 := gt1) (t2 := gt2) (t3 := gt3) gb0 gb1 gb2 gb3 hi2
      have zf2 : (i2 : Int) < 2 ^ 63 := Int.lt_trans (Int.ofNat_lt.mpr hi2) (by decide)
      w_strict k_steps
      rename_i lA hA FA NA lt9
      clear hgx
      subst hgd
      exact hin2 _ _ _ _ FA (row_new1 NA) (row_off1 lt9 off2) trivial (gr_next hl2 hrow2 hra2 hΛ2 (bcda_item hi2) (item_g _))
    case fin2 =>
      intro ys2 nw2 hG2
      unfold LCg.FinE
      intro D2 h2 tk2 F2 N2 o2
      clear o2
      have hR2 := gr_four hG2 N2
      clear hG2 N2
      cases hR2 with
      | mk s0 s1 s2 s3 sa0 sb0 sa1 sb1 sa2 sb2 sa3 sb3 N2 =>
      (try dsimp only)
      w_strict k_steps
      unfold Halt
      have D0 := (dN_eq g0).2
      have D1 := (dN_eq g1).2
      have D2 := (dN_eq g2).2
      have D3 := (dN_eq g3).2
      rename News _ _ _ _ => N8
      k_dflt (refine ne_roads D0 D1 D2 D3 (show Reads _ _ (.list [.list [.str (enc [1]), .str (enc [(g0.fmod 4).toNat])], .list [.str (enc [2]), .str (enc [(g1.fmod 4).toNat])], .list [.str (enc [3]), .str (enc [(g2.fmod 4).toNat])], .list [.str (enc [0]), .str (enc [(g3.fmod 4).toNat])]]) _ from by ke_read) (show Reads _ _ (.list [.list [.str (enc [1]), .str (enc [(g0.fmod 4).toNat])], .list [.str (enc [2]), .str (enc [(g1.fmod 4).toNat])], .list [.str (enc [3]), .str (enc [(g2.fmod 4).toNat])], .list [.str (enc [0]), .str (enc [(g3.fmod 4).toNat])]]) _ from by ke_read) (by ke_room) ?_)
      have NP := news_roads2 N8
      clear N8
      w_strict k_steps
      unfold Halt
      k_dflt (refine LCg.CompSrc.range (n := 4) (by rfl) (by k_asm) (by k_asm) (by assumption) (by decide) (by rfl) (by decide) ?_)
      intro gU
      (try dsimp only)
      refine rest_gl (GT [_, _, _, _, _, _, _] (RZk [g0, g1, g2, g3])) (.mk #[] #[] [] [] tabs0 .nil) ?fin3 ?step3
      case step3 =>
        intro i3 hi3 ys3 nw3 hG3 v3 hv3 I3 oI3 C3 oC3 D3 m3 h3 gs3 dr3 tk3 os3 E3 R3 hC3 hx3 F3 N3 off3 ne3 hin3
        obtain ⟨tv3, hv3⟩ := hv3
        rw [Int.zero_add] at hv3
        subst hv3
        cases hG3 with
        | mk p1 p2 q1 q2 hT3 hI3 =>
        obtain ⟨gv, gt, hgx, hgd, hgb⟩ := g_at (t0 := gt0) (t1 := gt1) (t2 := gt2) (t3 := gt3) gb0 gb1 gb2 gb3 hi3
        have zf3 : (i3 : Int) < 2 ^ 63 := Int.lt_trans (Int.ofNat_lt.mpr hi3) (by decide)
        dsimp only [List.cons_append, List.nil_append] at N3 off3
        w_strict k_steps
        unfold Halt
        refine rest_call [_, _, _, _, _, _, _] (by k_asm) (by k_asm) N3 (by k_asm) (by k_asm) rfl (by decide) (by decide) hT3 off3 (hK7 (nf_seq rfl) (nf_seq rfl) (nf_seq rfl) (nf_seq rfl) (nf_seq rfl) (nf_seq rfl) (nf_cell (by assumption))) (rest_bk hi3 gv).1 (rest_bk hi3 gv).2 (by decide) (by decide) ?_
        intro r9 t91 t92 p1' p2' q1' q2' h9 tk9 F9 N9 hT9 off9
        dsimp only [List.cons_append, List.nil_append] at N9 off9
        clear N3 off3
        iterate 1 (first | walk1 | (dsimp only; walk1))
        k_dflt (refine tup_one N9 ?_ (by with_unfolding_all rfl))
        subst hgd
        exact hin3 _ _ _ _ F9 (news_tl N9) off9 trivial (.mk p1' p2' q1' q2' hT9 (ints_range hI3 rfl))
      case fin3 =>
        intro ys3 nw3 hG3
        cases hG3 with
        | mk p13 p23 q13 q23 hT4 hI3 =>
        rw [rz_map] at hI3
        unfold LCg.FinA
        intro DR hR tkR FR NR oR
        dsimp only [List.cons_append, List.nil_append] at NR
        clear oR
        (try dsimp only)
        w_strict k_steps
        unfold Halt
        have KL := law_ok D0 D1 D2 D3
        refine wp_cutL (n := ((measN (g0.fmod 4).toNat (g1.fmod 4).toNat (g2.fmod 4).toNat (g3.fmod 4).toNat : Nat) : Int)) ?c1 ?c2
        case c1 =>
          intro RM hRM
          w_strict k_steps
          all_goals first | exact hRM _ _ (mv_1 (m_a (by with_reducible assumption))) | exact hRM _ _ (mv_1 (m_b (by with_reducible assumption))) | exact hRM _ _ (mv_2 (m_c (by with_reducible assumption) (by with_reducible assumption) (by with_reducible assumption))) | exact hRM _ _ (mv_4 (m_d (by with_reducible assumption) (by with_reducible assumption) (by with_reducible assumption)))
        case c2 =>
          intro tkM uM
          (try dsimp only)
          w_strict k_steps
          unfold Halt
          refine Cm.useR (t_paint w _ _ _ _ _ _ _ _ _ _ _ _ _ 1 2 3 0 (g0.fmod 4).toNat (g1.fmod 4).toNat (g2.fmod 4).toNat (g3.fmod 4).toNat (by decide) (by decide) (by decide) (by decide) D0 D1 D2 D3) (by k_asm) (by k_asm) (by k_asm) (by k_asm) (by k_asm) rfl (by decide) (by decide) hs51 ?_
          intro vP hP tkP FP NP hpP
          obtain ⟨pr, pvs, pk, rfl, ep1, ep2, hPA⟩ := hpP
          obtain ⟨pl, hpl1, hpl2⟩ := PA.list hPA
          have NP := (newl_cons ep1 ep2 hpl1).news (by k_asm) NP
          simp only [List.cons_append] at NP
          have hpvl : pvs.toArray.size = (foundN (g0.fmod 4).toNat (g1.fmod 4).toNat (g2.fmod 4).toNat (g3.fmod 4).toNat).length := by rw [List.size_toArray, hPA.len, found_len]; rfl
          have hfl16 : (foundN (g0.fmod 4).toNat (g1.fmod 4).toNat (g2.fmod 4).toNat (g3.fmod 4).toNat).length ≤ 16 := by rw [found_len]; exact paint_len _ _ _ _
          w_strict k_steps
          unfold Halt
          k_dflt (refine LCp.SrcLP.ledger (k := pk) (by rfl) (by k_asm) (by k_asm) (by k_mem) ?size ?_)
          case size => rw [hpvl]; exact Nat.le_trans hfl16 (by decide)
          intro gP
          refine restP_grow (GF _ (foundN (g0.fmod 4).toNat (g1.fmod 4).toNat (g2.fmod 4).toNat (g3.fmod 4).toNat)) ⟨[], rfl, trivial, fun _ h => (nomatch h)⟩ ?hf ?step
          case step =>
            intro i hi ys nw hG v hv
            obtain ⟨ft, rfl, hfa, hft⟩ := hG
            obtain ⟨p, t, a, b, hp, rfl, hmt⟩ := PA.at hpl2 (i := i) (v := v) (by simpa using hv)
            have hpm : p ∈ paintN (g0.fmod 4).toNat (g1.fmod 4).toNat (g2.fmod 4).toNat (g3.fmod 4).toNat := List.mem_of_getElem? hp
            obtain ⟨hr4, hb4⟩ := KL.row p hpm
            obtain ⟨res, hrun, hres, hne⟩ := res_run KL hpm
            refine ⟨t, TupO p a b, _, _, _, rfl, List.mem_append_right _ (List.mem_cons_of_mem _ (List.mem_append_left _ hmt)), rfl, rfl, ?_⟩
            intro I2 oI2 C2 oC2 D2' m2 h2 tk2 E2 hC2 hx2 hy2 F2 N2 off2 ne2
            w_strict k_steps
            unfold Halt
            refine Cl.use (t_few w (enc p.1) (enc p.2) _ _ (enc_len hr4) (enc_len hb4) (closed hr4) (closed hb4) (enc res.1, res.2) (run_start hr4 hb4 hrun hne)) (by k_asm) (by k_asm) (by k_asm) (by k_asm) (by k_asm) rfl (by decide) (by decide) trivial ?_
            intro v8 h8 tk8 I8 F8 N8 hp8
            clear I8
            obtain ⟨tt, t81, t82, rfl, hN8⟩ := hp8
            have n1 : tt ≠ I2 := newl_ne hN8 N2 List.mem_cons_self
            have n2 : tt ≠ C2 := newl_ne hN8 N2 (List.mem_cons_of_mem _ List.mem_cons_self)
            have n3 : tt ≠ D2' := newl_ne hN8 N2 (List.mem_cons_of_mem _ (List.mem_cons_of_mem _ List.mem_cons_self))
            have N8 := hN8.news F2 N8
            clear hN8
            simp only [List.cons_append, List.nil_append] at N8
            w_strict k_steps
            have hfp := found_at hp
            rw [hres] at hfp
            exact found_end F8 N8 n1 n2 n3 off2 List.mem_cons_self hfa hft hfp
          case hf =>
            intro ys nw hG
            obtain ⟨ft, rfl, hfa, hft⟩ := hG
            rw [hpvl, List.take_of_length_le (Nat.le_refl _)] at hfa
            unfold LCg.FinA
            intro Fo hFo tkFo FFo NFo oFo
            (try dsimp only)
            w_strict k_steps
            unfold Halt
            have hysl := hfa.len
            k_dflt (refine LCp.SrcLP.ledger (by rfl) (by k_asm) (by k_asm) (by k_mem) ?size ?_)
            case size => rw [List.size_toArray, hysl]; exact Nat.le_trans hfl16 (by decide)
            intro gQ
            refine restP_grow (GM _ (foundN (g0.fmod 4).toNat (g1.fmod 4).toNat (g2.fmod 4).toNat (g3.fmod 4).toNat)) ⟨rfl, .nil⟩ ?hfM ?stepM
            case stepM =>
              intro i hi ys2 nw hG v hv
              obtain ⟨rfl, hG2⟩ := hG
              obtain ⟨p, t, a, b, hp, rfl, hmt⟩ := FA.at hfa (i := i) (v := v) (by simpa using hv)
              refine ⟨t, FO p a b, _, _, _, rfl, List.mem_cons_of_mem _ (List.mem_append_left _ hmt), rfl, rfl, ?_⟩
              intro I2 oI2 C2 oC2 D2' m2 h2 tk2 E2 hC2 hx2 hy2 F2 N2 off2 ne2
              w_strict k_steps
              refine end_same (by k_asm) (by k_asm) (by assumption) (by first | exact True.intro | exact Or.inr ⟨_, by k_mem, rfl, _, rfl⟩) ?_
              exact gm_snoc ⟨rfl, hG2⟩ hp
            case hfM =>
              intro ys2 nw hG
              obtain ⟨rfl, hG2⟩ := hG
              rw [List.size_toArray, hysl, List.take_of_length_le (Nat.le_refl _)] at hG2
              unfold LCg.FinE
              intro DM hM tkM2 FM NM oM
              (try dsimp only)
              w_strict k_steps
              unfold Halt
              k_dflt (refine kso_min (by k_asm) (by k_asm) (News.isList (by k_asm) (by k_mem)) hG2 (by rw [List.length_map]; exact found_pos _ _ _ _) (by rfl) ?_)
              intro hm M tm km Fm Nm a9 b9
              have hM : M = ((measN (g0.fmod 4).toNat (g1.fmod 4).toNat (g2.fmod 4).toNat (g3.fmod 4).toNat : Nat) : Int) := by rw [min_eq (fun f hf => (KL.fnd f hf).2.1) a9 b9, KL.mn]
              subst hM
              iterate 3 (first | walk1 | (dsimp only; walk1))
              rw [if_pos (beq_self_eq_true _)]
              w_strict k_steps
              unfold Halt
              rename News _ _ _ _ => NW0
              have WL := weights_led NW0 oFo hT4 hft rfl rfl rfl rfl rfl
              refine Cm.useS (t_weightsE w _ _ _ _ _ _ _ _ _ _ _ _ _ D0 D1 D2 D3) (by k_asm) (by k_asm) NW0 (by k_asm) (by k_asm) rfl (by decide) (by decide) WL.1 ((Fo, lst ys) :: (ft ++ LedT p13 p23 q13 q23)) WL.2 ?_
              intro vW hW tkW FW NW hpW
              obtain ⟨rW, vsW, kW, rfl, hNW, hIW⟩ := hpW
              have NW := NW [(rW, W.listOf vsW.toArray kW)] (fun q hq => by rw [List.mem_singleton.mp hq]; exact ⟨(hNW _ List.mem_cons_self).1, .inr (hNW _ List.mem_cons_self).2⟩)
              clear NW0 WL
              simp only [List.cons_append, List.nil_append] at NW
              w_strict k_steps
              unfold Halt
              refine Cm.useS (t_even w rW Fo vsW ys ((weightsN (rateN ((g0.fmod 4).toNat, (g1.fmod 4).toNat, (g2.fmod 4).toNat, (g3.fmod 4).toNat))).map fun n => ((n : Nat) : Int)) kW ys.length (foundN (g0.fmod 4).toNat (g1.fmod 4).toNat (g2.fmod 4).toNat (g3.fmod 4).toNat) hT4 hIW rfl hfa (fun q hq => (hft q hq).2) hfl16 (fun p hp => row_lt (found_row KL hp)) (ev_ok KL) (w_sum D0 D1 D2 D3).1 (w_sum D0 D1 D2 D3).2) (by k_asm) (by k_asm) NW (by k_asm) (by k_asm) rfl (by decide) (by decide) (fun q hq => hq) [] (fun q hq => nomatch hq) ?_
              intro vE hE tkE FE NE hpE
              obtain ⟨rfl, ⟨pz1, ez1⟩, ⟨pz2, ez2⟩⟩ := hpE
              exact hend _ _ ⟨good_true FE.keep rfl hg, grown_two ez2 ez1⟩
end
end
