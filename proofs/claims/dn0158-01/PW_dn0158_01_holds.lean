import PyProof.Rows.All
import Wide.All
import OpenK.AllK
import Wide.FinOn
import Lean
import PySem.Challenge.RW_dn0158_01
open PySem PySem.W PyProof.Rows PySem.Spec PySem.Calls
set_option Elab.async false
set_option maxRecDepth 100000
set_option maxHeartbeats 8000000
namespace Mine
local macro_rules | `(tactic| walk_at "m_enter") => `(tactic| first
  | (refine' code_def ?k1 ?k2 ?k3 ?k4 ?k5 ?kA ?kF ?kK ?k6 ?k7 ?k8 ?k9 ?kB ?_ ?c2 ?c3 ?c4 ?c5; (case kA => exact rfl); (case kF => exact rfl); (case kK => assumption); (case k1 => k_asm); (case k2 => k_asm); (case k3 => k_asm); (case k4 => k_asm); (case k5 => k_asm); (case k6 => k_is); (case k7 => k_is); (case k8 => k_room); (case k9 => first | exact BindsTo.of_eq rfl | exact binds_K (by k_in) rfl (by k_is) rfl rfl rfl | fail "m_enter: no rule for these arguments"); (case c5 => decide); (case kB => exact locs rfl); (case c2 => exact rfl); (case c3 => exact rfl); (case c4 => exact rfl); k_whole; intro g' L' h' FG' F' N' B' X' T'; (try dsimp only); (try k_fold))
  | (refine' code_defC ?k1 ?k2 ?k3 ?k4 ?k5 ?kA ?kF ?kK ?k6 ?k7 ?k8 ?k9 ?kB ?kD ?_ ?c2 ?c3 ?c4; (case kA => exact rfl); (case kF => exact rfl); (case kK => assumption); (case k1 => k_asm); (case k2 => k_asm); (case k3 => k_asm); (case k4 => k_asm); (case k5 => k_asm); (case k6 => k_is); (case k7 => k_is); (case k8 => k_room); (case k9 => first | exact BindsTo.of_eq rfl | exact binds_K (by k_in) rfl (by k_is) rfl rfl rfl | fail "m_enter: no rule for these arguments"); (case kB => exact rfl); (case kD => decide +kernel); (case c2 => exact rfl); (case c3 => exact rfl); (case c4 => exact rfl); k_whole; intro g' L' h' tk' cells' FG' F' N' Y' B' X' T' l1; (try k_lt l1); k_cells Y'; (try simp only [List.cons_append, List.nil_append] at N'); (try dsimp only); (try k_fold)))
local macro_rules | `(tactic| k_all) => `(tactic| assumption)
/- the top's run: the objects that it makes (printed by a program of mine; what belongs to the text is taken out of the given row by its place) -/
noncomputable def stIn : List Stmt → List Nat → Stmt
  | l, [i] => l.getD i (.Pass ⟨0, 0, 0, 0⟩)
  | l, i :: r => (match l.getD i (.Pass ⟨0, 0, 0, 0⟩) with | .ClassDef _ _ _ b _ _ _ _ _ _ _ => stIn b r | s => s)
  | _, [] => .Pass ⟨0, 0, 0, 0⟩
noncomputable def fP (p : List Nat) : Arguments := match stIn PySem.Challenge.pw_dn0158_01.main.body p with | .FunctionDef _ a _ _ _ _ _ _ _ _ => a | _ => ⟨[], [], none, [], [], none, []⟩
noncomputable def fB (p : List Nat) : List Stmt := match stIn PySem.Challenge.pw_dn0158_01.main.body p with | .FunctionDef _ _ b _ _ _ _ _ _ _ => b | _ => []
noncomputable def fS (p : List Nat) : Scope := match stIn PySem.Challenge.pw_dn0158_01.main.body p with | .FunctionDef _ _ _ _ _ _ s _ _ _ => s | _ => PySem.Challenge.pw_dn0158_01.main.scope
noncomputable abbrev en (P : Params) (k : Str) (t : Tok) (v : Value) : DictEntry := ⟨PyData.keyHash P k, .str k t, v⟩
noncomputable abbrev p_new : Arguments := by
  refine (fun (b : Arguments) (_ : fP [8, 1] = b) => b) ?b ?h
  case h => (conv => lhs; whnf)
noncomputable abbrev b_new : List Stmt := by
  refine (fun (b : List Stmt) (_ : fB [8, 1] = b) => b) ?b ?h
  case h => (conv => lhs; whnf)
noncomputable abbrev s_new : Scope := by
  refine (fun (b : Scope) (_ : fS [8, 1] = b) => b) ?b ?h
  case h => (conv => lhs; whnf)
noncomputable abbrev p_index : Arguments := by
  refine (fun (b : Arguments) (_ : fP [6] = b) => b) ?b ?h
  case h => (conv => lhs; whnf)
noncomputable abbrev b_index : List Stmt := by
  refine (fun (b : List Stmt) (_ : fB [6] = b) => b) ?b ?h
  case h => (conv => lhs; whnf)
noncomputable abbrev s_index : Scope := by
  refine (fun (b : Scope) (_ : fS [6] = b) => b) ?b ?h
  case h => (conv => lhs; whnf)
noncomputable abbrev p_sinit : Arguments := by
  refine (fun (b : Arguments) (_ : fP [12, 1] = b) => b) ?b ?h
  case h => (conv => lhs; whnf)
noncomputable abbrev b_sinit : List Stmt := by
  refine (fun (b : List Stmt) (_ : fB [12, 1] = b) => b) ?b ?h
  case h => (conv => lhs; whnf)
noncomputable abbrev s_sinit : Scope := by
  refine (fun (b : Scope) (_ : fS [12, 1] = b) => b) ?b ?h
  case h => (conv => lhs; whnf)
noncomputable abbrev p_trans : Arguments := by
  refine (fun (b : Arguments) (_ : fP [12, 2] = b) => b) ?b ?h
  case h => (conv => lhs; whnf)
noncomputable abbrev b_trans : List Stmt := by
  refine (fun (b : List Stmt) (_ : fB [12, 2] = b) => b) ?b ?h
  case h => (conv => lhs; whnf)
noncomputable abbrev s_trans : Scope := by
  refine (fun (b : Scope) (_ : fS [12, 2] = b) => b) ?b ?h
  case h => (conv => lhs; whnf)
noncomputable abbrev p_check : Arguments := by
  refine (fun (b : Arguments) (_ : fP [12, 3] = b) => b) ?b ?h
  case h => (conv => lhs; whnf)
noncomputable abbrev b_check : List Stmt := by
  refine (fun (b : List Stmt) (_ : fB [12, 3] = b) => b) ?b ?h
  case h => (conv => lhs; whnf)
noncomputable abbrev s_check : Scope := by
  refine (fun (b : Scope) (_ : fS [12, 3] = b) => b) ?b ?h
  case h => (conv => lhs; whnf)
noncomputable abbrev p_read : Arguments := by
  refine (fun (b : Arguments) (_ : fP [12, 25] = b) => b) ?b ?h
  case h => (conv => lhs; whnf)
noncomputable abbrev b_read : List Stmt := by
  refine (fun (b : List Stmt) (_ : fB [12, 25] = b) => b) ?b ?h
  case h => (conv => lhs; whnf)
noncomputable abbrev s_read : Scope := by
  refine (fun (b : Scope) (_ : fS [12, 25] = b) => b) ?b ?h
  case h => (conv => lhs; whnf)
noncomputable abbrev p_linit : Arguments := by
  refine (fun (b : Arguments) (_ : fP [22, 0] = b) => b) ?b ?h
  case h => (conv => lhs; whnf)
noncomputable abbrev b_linit : List Stmt := by
  refine (fun (b : List Stmt) (_ : fB [22, 0] = b) => b) ?b ?h
  case h => (conv => lhs; whnf)
noncomputable abbrev s_linit : Scope := by
  refine (fun (b : Scope) (_ : fS [22, 0] = b) => b) ?b ?h
  case h => (conv => lhs; whnf)
noncomputable abbrev p_punct : Arguments := by
  refine (fun (b : Arguments) (_ : fP [22, 1] = b) => b) ?b ?h
  case h => (conv => lhs; whnf)
noncomputable abbrev b_punct : List Stmt := by
  refine (fun (b : List Stmt) (_ : fB [22, 1] = b) => b) ?b ?h
  case h => (conv => lhs; whnf)
noncomputable abbrev s_punct : Scope := by
  refine (fun (b : Scope) (_ : fS [22, 1] = b) => b) ?b ?h
  case h => (conv => lhs; whnf)
noncomputable abbrev p_gettok : Arguments := by
  refine (fun (b : Arguments) (_ : fP [22, 5] = b) => b) ?b ?h
  case h => (conv => lhs; whnf)
noncomputable abbrev b_gettok : List Stmt := by
  refine (fun (b : List Stmt) (_ : fB [22, 5] = b) => b) ?b ?h
  case h => (conv => lhs; whnf)
noncomputable abbrev s_gettok : Scope := by
  refine (fun (b : Scope) (_ : fS [22, 5] = b) => b) ?b ?h
  case h => (conv => lhs; whnf)
noncomputable abbrev p_readtok : Arguments := by
  refine (fun (b : Arguments) (_ : fP [22, 6] = b) => b) ?b ?h
  case h => (conv => lhs; whnf)
noncomputable abbrev b_readtok : List Stmt := by
  refine (fun (b : List Stmt) (_ : fB [22, 6] = b) => b) ?b ?h
  case h => (conv => lhs; whnf)
noncomputable abbrev s_readtok : Scope := by
  refine (fun (b : Scope) (_ : fS [22, 6] = b) => b) ?b ?h
  case h => (conv => lhs; whnf)
noncomputable abbrev p_iter : Arguments := by
  refine (fun (b : Arguments) (_ : fP [22, 9] = b) => b) ?b ?h
  case h => (conv => lhs; whnf)
noncomputable abbrev b_iter : List Stmt := by
  refine (fun (b : List Stmt) (_ : fB [22, 9] = b) => b) ?b ?h
  case h => (conv => lhs; whnf)
noncomputable abbrev s_iter : Scope := by
  refine (fun (b : Scope) (_ : fS [22, 9] = b) => b) ?b ?h
  case h => (conv => lhs; whnf)
noncomputable abbrev p_next : Arguments := by
  refine (fun (b : Arguments) (_ : fP [22, 10] = b) => b) ?b ?h
  case h => (conv => lhs; whnf)
noncomputable abbrev b_next : List Stmt := by
  refine (fun (b : List Stmt) (_ : fB [22, 10] = b) => b) ?b ?h
  case h => (conv => lhs; whnf)
noncomputable abbrev s_next : Scope := by
  refine (fun (b : Scope) (_ : fS [22, 10] = b) => b) ?b ?h
  case h => (conv => lhs; whnf)
noncomputable abbrev p_split : Arguments := by
  refine (fun (b : Arguments) (_ : fP [23] = b) => b) ?b ?h
  case h => (conv => lhs; whnf)
noncomputable abbrev b_split : List Stmt := by
  refine (fun (b : List Stmt) (_ : fB [23] = b) => b) ?b ?h
  case h => (conv => lhs; whnf)
noncomputable abbrev s_split : Scope := by
  refine (fun (b : Scope) (_ : fS [23] = b) => b) ?b ?h
  case h => (conv => lhs; whnf)
noncomputable abbrev p_join : Arguments := by
  refine (fun (b : Arguments) (_ : fP [24] = b) => b) ?b ?h
  case h => (conv => lhs; whnf)
noncomputable abbrev b_join : List Stmt := by
  refine (fun (b : List Stmt) (_ : fB [24] = b) => b) ?b ?h
  case h => (conv => lhs; whnf)
noncomputable abbrev s_join : Scope := by
  refine (fun (b : Scope) (_ : fS [24] = b) => b) ?b ?h
  case h => (conv => lhs; whnf)
noncomputable abbrev p_quote : Arguments := by
  refine (fun (b : Arguments) (_ : fP [27] = b) => b) ?b ?h
  case h => (conv => lhs; whnf)
noncomputable abbrev b_quote : List Stmt := by
  refine (fun (b : List Stmt) (_ : fB [27] = b) => b) ?b ?h
  case h => (conv => lhs; whnf)
noncomputable abbrev s_quote : Scope := by
  refine (fun (b : Scope) (_ : fS [27] = b) => b) ?b ?h
  case h => (conv => lhs; whnf)
noncomputable abbrev p_digits : Arguments := by
  refine (fun (b : Arguments) (_ : fP [29] = b) => b) ?b ?h
  case h => (conv => lhs; whnf)
noncomputable abbrev b_digits : List Stmt := by
  refine (fun (b : List Stmt) (_ : fB [29] = b) => b) ?b ?h
  case h => (conv => lhs; whnf)
noncomputable abbrev s_digits : Scope := by
  refine (fun (b : Scope) (_ : fS [29] = b) => b) ?b ?h
  case h => (conv => lhs; whnf)
noncomputable abbrev p_sign : Arguments := by
  refine (fun (b : Arguments) (_ : fP [30] = b) => b) ?b ?h
  case h => (conv => lhs; whnf)
noncomputable abbrev b_sign : List Stmt := by
  refine (fun (b : List Stmt) (_ : fB [30] = b) => b) ?b ?h
  case h => (conv => lhs; whnf)
noncomputable abbrev s_sign : Scope := by
  refine (fun (b : Scope) (_ : fS [30] = b) => b) ?b ?h
  case h => (conv => lhs; whnf)
noncomputable abbrev p_words : Arguments := by
  refine (fun (b : Arguments) (_ : fP [31] = b) => b) ?b ?h
  case h => (conv => lhs; whnf)
noncomputable abbrev b_words : List Stmt := by
  refine (fun (b : List Stmt) (_ : fB [31] = b) => b) ?b ?h
  case h => (conv => lhs; whnf)
noncomputable abbrev s_words : Scope := by
  refine (fun (b : Scope) (_ : fS [31] = b) => b) ?b ?h
  case h => (conv => lhs; whnf)
noncomputable abbrev p_isbare : Arguments := by
  refine (fun (b : Arguments) (_ : fP [32] = b) => b) ?b ?h
  case h => (conv => lhs; whnf)
noncomputable abbrev b_isbare : List Stmt := by
  refine (fun (b : List Stmt) (_ : fB [32] = b) => b) ?b ?h
  case h => (conv => lhs; whnf)
noncomputable abbrev s_isbare : Scope := by
  refine (fun (b : Scope) (_ : fS [32] = b) => b) ?b ?h
  case h => (conv => lhs; whnf)
noncomputable abbrev p_marks : Arguments := by
  refine (fun (b : Arguments) (_ : fP [33] = b) => b) ?b ?h
  case h => (conv => lhs; whnf)
noncomputable abbrev b_marks : List Stmt := by
  refine (fun (b : List Stmt) (_ : fB [33] = b) => b) ?b ?h
  case h => (conv => lhs; whnf)
noncomputable abbrev s_marks : Scope := by
  refine (fun (b : Scope) (_ : fS [33] = b) => b) ?b ?h
  case h => (conv => lhs; whnf)
noncomputable abbrev p_lread : Arguments := by
  refine (fun (b : Arguments) (_ : fP [34] = b) => b) ?b ?h
  case h => (conv => lhs; whnf)
noncomputable abbrev b_lread : List Stmt := by
  refine (fun (b : List Stmt) (_ : fB [34] = b) => b) ?b ?h
  case h => (conv => lhs; whnf)
noncomputable abbrev s_lread : Scope := by
  refine (fun (b : Scope) (_ : fS [34] = b) => b) ?b ?h
  case h => (conv => lhs; whnf)
noncomputable abbrev p_law : Arguments := by
  refine (fun (b : Arguments) (_ : fP [35] = b) => b) ?b ?h
  case h => (conv => lhs; whnf)
noncomputable abbrev b_law : List Stmt := by
  refine (fun (b : List Stmt) (_ : fB [35] = b) => b) ?b ?h
  case h => (conv => lhs; whnf)
noncomputable abbrev s_law : Scope := by
  refine (fun (b : Scope) (_ : fS [35] = b) => b) ?b ?h
  case h => (conv => lhs; whnf)
set_option linter.unusedVariables false
noncomputable def o0 (P : Params) : Obj := ⟨.type "dict", none, .dict #[en P "__name__" 1 (.str "builtins" 160), en P "__doc__" 2 (.builtin "builtins.__doc__:str#opaque"), en P "__package__" 3 (.builtin "builtins.__package__:str#opaque"), en P "__loader__" 4 (.builtin "builtins.__loader__:shared#opaque"), en P "__spec__" 5 (.builtin "builtins.__spec__#opaque"), en P "__build_class__" 6 (.builtin "__build_class__"), en P "__import__" 7 (.builtin "__import__"), en P "abs" 8 (.builtin "abs"), en P "all" 9 (.builtin "all"), en P "any" 10 (.builtin "any"), en P "ascii" 11 (.builtin "ascii"), en P "bin" 12 (.builtin "bin"), en P "breakpoint" 13 (.builtin "breakpoint"), en P "callable" 14 (.builtin "callable"), en P "chr" 15 (.builtin "chr"), en P "compile" 16 (.builtin "compile"), en P "delattr" 17 (.builtin "delattr"), en P "dir" 18 (.builtin "dir"), en P "divmod" 19 (.builtin "divmod"), en P "eval" 20 (.builtin "eval"), en P "exec" 21 (.builtin "exec"), en P "format" 22 (.builtin "format"), en P "getattr" 23 (.builtin "getattr"), en P "globals" 24 (.builtin "globals"), en P "hasattr" 25 (.builtin "hasattr"), en P "hash" 26 (.builtin "hash"), en P "hex" 27 (.builtin "hex"), en P "id" 28 (.builtin "id"), en P "input" 29 (.builtin "input"), en P "isinstance" 30 (.builtin "isinstance"), en P "issubclass" 31 (.builtin "issubclass"), en P "iter" 32 (.builtin "iter"), en P "aiter" 33 (.builtin "aiter"), en P "len" 34 (.builtin "len"), en P "locals" 35 (.builtin "locals"), en P "max" 36 (.builtin "max"), en P "min" 37 (.builtin "min"), en P "next" 38 (.builtin "next"), en P "anext" 39 (.builtin "anext"), en P "oct" 40 (.builtin "oct"), en P "ord" 41 (.builtin "ord"), en P "pow" 42 (.builtin "pow"), en P "print" 43 (.builtin "print"), en P "repr" 44 (.builtin "repr"), en P "round" 45 (.builtin "round"), en P "setattr" 46 (.builtin "setattr"), en P "sorted" 47 (.builtin "sorted"), en P "sum" 48 (.builtin "sum"), en P "vars" 49 (.builtin "vars"), en P "None" 50 (.none), en P "Ellipsis" 51 (.ellipsis), en P "NotImplemented" 52 (.notImplemented), en P "False" 53 (.bool false), en P "True" 54 (.bool true), en P "bool" 55 (.type "bool"), en P "memoryview" 56 (.type "memoryview"), en P "bytearray" 57 (.type "bytearray"), en P "bytes" 58 (.type "bytes"), en P "classmethod" 59 (.type "classmethod"), en P "complex" 60 (.type "complex"), en P "dict" 61 (.type "dict"), en P "enumerate" 62 (.type "enumerate"), en P "filter" 63 (.type "filter"), en P "float" 64 (.type "float"), en P "frozenset" 65 (.type "frozenset"), en P "property" 66 (.type "property"), en P "int" 67 (.type "int"), en P "list" 68 (.type "list"), en P "map" 69 (.type "map"), en P "object" 70 (.type "object"), en P "range" 71 (.type "range"), en P "reversed" 72 (.type "reversed"), en P "set" 73 (.type "set"), en P "slice" 74 (.type "slice"), en P "staticmethod" 75 (.type "staticmethod"), en P "str" 76 (.type "str"), en P "super" 77 (.type "super"), en P "tuple" 78 (.type "tuple"), en P "type" 79 (.type "type"), en P "zip" 80 (.type "zip"), en P "__debug__" 81 (.bool true), en P "BaseException" 82 (.type "BaseException"), en P "BaseExceptionGroup" 83 (.type "BaseExceptionGroup"), en P "Exception" 84 (.type "Exception"), en P "GeneratorExit" 85 (.type "GeneratorExit"), en P "KeyboardInterrupt" 86 (.type "KeyboardInterrupt"), en P "SystemExit" 87 (.type "SystemExit"), en P "ArithmeticError" 88 (.type "ArithmeticError"), en P "AssertionError" 89 (.type "AssertionError"), en P "AttributeError" 90 (.type "AttributeError"), en P "BufferError" 91 (.type "BufferError"), en P "EOFError" 92 (.type "EOFError"), en P "ImportError" 93 (.type "ImportError"), en P "LookupError" 94 (.type "LookupError"), en P "MemoryError" 95 (.type "MemoryError"), en P "NameError" 96 (.type "NameError"), en P "OSError" 97 (.type "OSError"), en P "ReferenceError" 98 (.type "ReferenceError"), en P "RuntimeError" 99 (.type "RuntimeError"), en P "StopAsyncIteration" 100 (.type "StopAsyncIteration"), en P "StopIteration" 101 (.type "StopIteration"), en P "SyntaxError" 102 (.type "SyntaxError"), en P "SystemError" 103 (.type "SystemError"), en P "TypeError" 104 (.type "TypeError"), en P "ValueError" 105 (.type "ValueError"), en P "Warning" 106 (.type "Warning"), en P "FloatingPointError" 107 (.type "FloatingPointError"), en P "OverflowError" 108 (.type "OverflowError"), en P "ZeroDivisionError" 109 (.type "ZeroDivisionError"), en P "BytesWarning" 110 (.type "BytesWarning"), en P "DeprecationWarning" 111 (.type "DeprecationWarning"), en P "EncodingWarning" 112 (.type "EncodingWarning"), en P "FutureWarning" 113 (.type "FutureWarning"), en P "ImportWarning" 114 (.type "ImportWarning"), en P "PendingDeprecationWarning" 115 (.type "PendingDeprecationWarning"), en P "ResourceWarning" 116 (.type "ResourceWarning"), en P "RuntimeWarning" 117 (.type "RuntimeWarning"), en P "SyntaxWarning" 118 (.type "SyntaxWarning"), en P "UnicodeWarning" 119 (.type "UnicodeWarning"), en P "UserWarning" 120 (.type "UserWarning"), en P "BlockingIOError" 121 (.type "BlockingIOError"), en P "ChildProcessError" 122 (.type "ChildProcessError"), en P "ConnectionError" 123 (.type "ConnectionError"), en P "FileExistsError" 124 (.type "FileExistsError"), en P "FileNotFoundError" 125 (.type "FileNotFoundError"), en P "InterruptedError" 126 (.type "InterruptedError"), en P "IsADirectoryError" 127 (.type "IsADirectoryError"), en P "NotADirectoryError" 128 (.type "NotADirectoryError"), en P "PermissionError" 129 (.type "PermissionError"), en P "ProcessLookupError" 130 (.type "ProcessLookupError"), en P "TimeoutError" 131 (.type "TimeoutError"), en P "IndentationError" 132 (.type "IndentationError"), en P "_IncompleteInputError" 133 (.type "_IncompleteInputError"), en P "IndexError" 134 (.type "IndexError"), en P "KeyError" 135 (.type "KeyError"), en P "ModuleNotFoundError" 136 (.type "ModuleNotFoundError"), en P "NotImplementedError" 137 (.type "NotImplementedError"), en P "PythonFinalizationError" 138 (.type "PythonFinalizationError"), en P "RecursionError" 139 (.type "RecursionError"), en P "UnboundLocalError" 140 (.type "UnboundLocalError"), en P "UnicodeError" 141 (.type "UnicodeError"), en P "BrokenPipeError" 142 (.type "BrokenPipeError"), en P "ConnectionAbortedError" 143 (.type "ConnectionAbortedError"), en P "ConnectionRefusedError" 144 (.type "ConnectionRefusedError"), en P "ConnectionResetError" 145 (.type "ConnectionResetError"), en P "TabError" 146 (.type "TabError"), en P "UnicodeDecodeError" 147 (.type "UnicodeDecodeError"), en P "UnicodeEncodeError" 148 (.type "UnicodeEncodeError"), en P "UnicodeTranslateError" 149 (.type "UnicodeTranslateError"), en P "ExceptionGroup" 150 (.type "ExceptionGroup"), en P "EnvironmentError" 151 (.type "OSError"), en P "IOError" 152 (.type "OSError"), en P "open" 153 (.builtin "open"), en P "quit" 154 (.builtin "builtins.quit#opaque"), en P "exit" 155 (.builtin "builtins.exit#opaque"), en P "copyright" 156 (.builtin "builtins.copyright#opaque"), en P "credits" 157 (.builtin "builtins.credits#opaque"), en P "license" 158 (.builtin "builtins.license#opaque"), en P "help" 159 (.builtin "builtins.help#opaque")] 159, #[]⟩
noncomputable def o1 (P : Params) : Obj := ⟨.type "dict", none, .dict #[en P "builtins" 162 (.ref 4), en P "__main__" 163 (.ref 5), en P "_sre" 244 (.ref 12), en P "_collections" 292 (.ref 30)] 4, #[]⟩
noncomputable def o2v43 (P : Params) : Obj := ⟨.none, none, .dict #[en P "im\x70ort.loaded._sre" 183 (.bool true), en P "class._frozen_importlib.BuiltinImporter" 185 (.ref 14), en P "watched.im\x70ort" 206 (.ref 18), en P "class._frozen_importlib.ModuleSpec" 216 (.ref 22), en P "sys.modules.booked-epoch" 245 (.int 4 0), en P "im\x70ort.later-laid._sre" 270 (.bool true), en P "watched.library" 272 (.ref 27), en P "watched.library-objects" 0 (.str "\x0c\x1e" 0), en P "watched.library-deep._sre" 273 (.str "\x04\x00\x00\x0b\x04\x00\x00\x0b\x04\x00\x00\x03\x04\x00\x00\x0b\x08\x04dict\x02" 0), en P "im\x70ort.loaded._collections" 280 (.bool true), en P "sys.modules.landed._collections" 294 (.bool true), en P "im\x70ort.later-laid._collections" 309 (.bool true), en P "watched.library-deep._collections" 311 (.str "\x04\x00\x00\x1d\x04\x00\x00\x1d\x04\x00\x00\x03\x04\x00\x00\x1d\x08\x04dict\x02" 0)] 13, #[]⟩
noncomputable def o3v44 (P : Params) : Obj := ⟨.type "dict", none, .dict #[en P "__name__" 165 (.str "__main__" 164), en P "__doc__" 166 (.none), en P "__package__" 167 (.none), en P "__loader__" 168 (.builtin "__main__.__loader__#opaque"), en P "__spec__" 169 (.none), en P "__annotations__" 170 (.ref 6), en P "__builtins__" 171 (.ref 4), en P "__file__" 173 (.str "/claim/cut.py" 172), en P "__cached__" 174 (.none), en P "_sre" 275 (.ref 12), en P "deque" 317 (.type "collections.deque")] 11, #[]⟩
noncomputable def o4 (P : Params) : Obj := ⟨.type "module", (some (0)), .plain, #[]⟩
noncomputable def o5 (P : Params) : Obj := ⟨.type "module", (some (3)), .plain, #[]⟩
noncomputable def o6 (P : Params) : Obj := ⟨.type "dict", none, .dict #[] 0, #[]⟩
noncomputable def o7 (P : Params) : Obj := ⟨.type "tuple", none, .seq #[] 0, #[]⟩
noncomputable def o8 (P : Params) : Obj := ⟨.none, none, .fields #[], #[]⟩
noncomputable def o9 (P : Params) : Obj := ⟨.type "code", none, .fields #[.str "<module>" 176, .str "<module>" 177, .str "/claim/cut.py" 178, .int 1 0, .int 0 0, .int 0 0, .int 0 0, .int 0 0, .ref 7, .bool false, .int 175 0, .ref 8, .none, .none, .none, .none, .int 179 0, .int 1 0, .str "/claim/cut.py" 180], #[]⟩
noncomputable def o10 (P : Params) : Obj := ⟨.type "frame", none, .plain, #[(some (.ref 9)), (some (.ref 3)), (some (.ref 3)), none, (some (.str "__main__" 164)), none, (some (.ref 0))]⟩
noncomputable def o11 (P : Params) : Obj := ⟨.type "dict", none, .dict #[en P "__name__" 247 (.str "_sre" 246), en P "__doc__" 248 (.none), en P "__package__" 250 (.str "" 249), en P "__loader__" 251 (.builtin "off-the-table:_sre.__loader__:shared#opaque"), en P "__spec__" 252 (.builtin "off-the-table:_sre.__spec__:shared#opaque"), en P "compile" 253 (.builtin "_sre.compile"), en P "template" 254 (.builtin "off-the-table:_sre.template:shared#opaque"), en P "getcodesize" 255 (.builtin "off-the-table:_sre.getcodesize:shared#opaque"), en P "ascii_iscased" 256 (.builtin "off-the-table:_sre.ascii_iscased:shared#opaque"), en P "unicode_iscased" 257 (.builtin "off-the-table:_sre.unicode_iscased:shared#opaque"), en P "ascii_tolower" 258 (.builtin "off-the-table:_sre.ascii_tolower:shared#opaque"), en P "unicode_tolower" 259 (.builtin "off-the-table:_sre.unicode_tolower:shared#opaque"), en P "MAGIC" 261 (.int 20230612 260), en P "CODESIZE" 263 (.int 4 262), en P "MAXREPEAT" 265 (.int 4294967295 264), en P "MAXGROUPS" 267 (.int 1073741823 266), en P "copyright" 269 (.str " SRE 2.2.2 Copyright (c) 1997-2002 by Secret Labs AB " 268)] 17, #[]⟩
noncomputable def o12 (P : Params) : Obj := ⟨.type "module", (some (11)), .plain, #[]⟩
noncomputable def o13 (P : Params) : Obj := ⟨.type "dict", none, .dict #[en P "__module__" 189 (.str "_frozen_importlib" 186), en P "__firstlineno__" 190 (.int 971 187), en P "__doc__" 191 (.builtin "_frozen_importlib.BuiltinImporter.__doc__:str#opaque"), en P "_ORIGIN" 192 (.str "built-in" 188), en P "find_spec" 193 (.builtin "_frozen_importlib.BuiltinImporter.find_spec#opaque"), en P "create_module" 194 (.builtin "_frozen_importlib.BuiltinImporter.create_module#opaque"), en P "exec_module" 195 (.builtin "_frozen_importlib.BuiltinImporter.exec_module#opaque"), en P "get_code" 196 (.builtin "_frozen_importlib.BuiltinImporter.get_code#opaque"), en P "get_source" 197 (.builtin "_frozen_importlib.BuiltinImporter.get_source#opaque"), en P "is_package" 198 (.builtin "_frozen_importlib.BuiltinImporter.is_package#opaque"), en P "load_module" 199 (.builtin "_frozen_importlib.BuiltinImporter.load_module#opaque"), en P "__static_attributes__" 200 (.ref 15), en P "__dict__" 202 (.ref 16), en P "__weakref__" 204 (.ref 17)] 14, #[]⟩
noncomputable def o14 (P : Params) : Obj := ⟨.type "type", none, .cls ⟨"BuiltinImporter", [.type "object"], [.ref 14, .type "object"], 13, "BuiltinImporter", true, [], [], false, none, false⟩, #[]⟩
noncomputable def o16 (P : Params) : Obj := ⟨.type "getset_descriptor", none, .fields #[.str "__dict__" 201, .ref 14, .builtin "function.__dict__", .builtin "function.__dict__#set"], #[]⟩
noncomputable def o17 (P : Params) : Obj := ⟨.type "getset_descriptor", none, .fields #[.str "__weakref__" 203, .ref 14, .builtin "ExceptionGroup.__weakref__", .none], #[]⟩
noncomputable def o18 (P : Params) : Obj := ⟨.none, none, .seq #[.int 13 0, .str "\x06½\n__module__\x06º\x11_frozen_importlib\x06¾\x0f__firstlineno__\x04»\x00ϋ\x06¿\x07__doc__\t4_frozen_importlib.BuiltinImporter.__doc__:str#opaque\x06À\x07_ORIGIN\x06¼\x08built-in\x06Á\tfind_spec\t2_frozen_importlib.BuiltinImporter.find_spec#opaque\x06Â\x0dcreate_module\t6_frozen_importlib.BuiltinImporter.create_module#opaque\x06Ã\x0bexec_module\t4_frozen_importlib.BuiltinImporter.exec_module#opaque\x06Ä\x08get_code\t1_frozen_importlib.BuiltinImporter.get_code#opaque\x06Å\nget_source\t3_frozen_importlib.BuiltinImporter.get_source#opaque\x06Æ\nis_package\t3_frozen_importlib.BuiltinImporter.is_package#opaque\x06Ç\x0bload_module\t4_frozen_importlib.BuiltinImporter.load_module#opaque\x06È\x15__static_attributes__\x04\x00\x00\x0f\x06Ê\x08__dict__\x04\x00\x00\x10\x06Ì\x0b__weakref__\x04\x00\x00\x11" 0, .bool true, .bool true, .str "" 205, .int 21 0, .str "\x06ã\n__module__\x06Ù\x11_frozen_importlib\x06ä\x0f__firstlineno__\x04Ú\x00Ȳ\x06å\x07__doc__\t/_frozen_importlib.ModuleSpec.__doc__:str#opaque\x06æ\x08__init__\t,_frozen_importlib.ModuleSpec.__init__#opaque\x06ç\x08__repr__\t,_frozen_importlib.ModuleSpec.__repr__#opaque\x06è\x06__eq__\t*_frozen_importlib.ModuleSpec.__eq__#opaque\x06é\x06cached\t*_frozen_importlib.ModuleSpec.cached#opaque\x06ê\x06parent\t*_frozen_importlib.ModuleSpec.parent#opaque\x06ë\x0chas_location\t0_frozen_importlib.ModuleSpec.has_location#opaque\x06ì\x15__static_attributes__\x04\x00\x00\x17\x06î\x08__dict__\x04\x00\x00\x18\x06ð\x0b__weakref__\x04\x00\x00\x19\x06ñ\x08__hash__\x00" 0, .bool true, .bool true, .str "" 242] 1, #[]⟩
noncomputable def o19 (P : Params) : Obj := ⟨.type "list", none, .seq #[] 0, #[]⟩
noncomputable def o20 (P : Params) : Obj := ⟨.type "dict", none, .dict #[en P "name" 208 (.str "_sre" 207), en P "loader" 209 (.ref 14), en P "origin" 210 (.str "built-in" 184), en P "loader_state" 211 (.none), en P "submodule_search_locations" 212 (.none), en P "_uninitialized_submodules" 213 (.ref 19), en P "_set_fileattr" 214 (.bool false), en P "_cached" 215 (.none), en P "_initializing" 243 (.bool false)] 9, #[]⟩
noncomputable def o21 (P : Params) : Obj := ⟨.type "dict", none, .dict #[en P "__module__" 227 (.str "_frozen_importlib" 217), en P "__firstlineno__" 228 (.int 562 218), en P "__doc__" 229 (.builtin "_frozen_importlib.ModuleSpec.__doc__:str#opaque"), en P "__init__" 230 (.builtin "_frozen_importlib.ModuleSpec.__init__#opaque"), en P "__repr__" 231 (.builtin "_frozen_importlib.ModuleSpec.__repr__#opaque"), en P "__eq__" 232 (.builtin "_frozen_importlib.ModuleSpec.__eq__#opaque"), en P "cached" 233 (.builtin "_frozen_importlib.ModuleSpec.cached#opaque"), en P "parent" 234 (.builtin "_frozen_importlib.ModuleSpec.parent#opaque"), en P "has_location" 235 (.builtin "_frozen_importlib.ModuleSpec.has_location#opaque"), en P "__static_attributes__" 236 (.ref 23), en P "__dict__" 238 (.ref 24), en P "__weakref__" 240 (.ref 25), en P "__hash__" 241 (.none)] 13, #[]⟩
noncomputable def o22 (P : Params) : Obj := ⟨.type "type", none, .cls ⟨"ModuleSpec", [.type "object"], [.ref 22, .type "object"], 21, "ModuleSpec", true, [], [], false, none, false⟩, #[]⟩
noncomputable def o23 (P : Params) : Obj := ⟨.type "tuple", none, .seq #[.str "_cached" 219, .str "_set_fileattr" 220, .str "_uninitialized_submodules" 221, .str "loader" 222, .str "loader_state" 223, .str "name" 224, .str "origin" 225, .str "submodule_search_locations" 226] 0, #[]⟩
noncomputable def o24 (P : Params) : Obj := ⟨.type "getset_descriptor", none, .fields #[.str "__dict__" 237, .ref 22, .builtin "function.__dict__", .builtin "function.__dict__#set"], #[]⟩
noncomputable def o25 (P : Params) : Obj := ⟨.type "getset_descriptor", none, .fields #[.str "__weakref__" 239, .ref 22, .builtin "ExceptionGroup.__weakref__", .none], #[]⟩
noncomputable def o26 (P : Params) : Obj := ⟨.ref 22, (some (20)), .plain, #[]⟩
noncomputable def o27 (P : Params) : Obj := ⟨.none, none, .seq #[.int 11 0, .str ⟨#[6, 247, 8, 95, 95, 110, 97, 109, 101, 95, 95, 6, 246, 4, 95, 115, 114, 101, 6, 248, 7, 95, 95, 100, 111, 99, 95, 95, 0, 6, 250, 11, 95, 95, 112, 97, 99, 107, 97, 103, 101, 95, 95, 6, 249, 0, 6, 251, 10, 95, 95, 108, 111, 97, 100, 101, 114, 95, 95, 4, 0, 0, 14, 6, 252, 8, 95, 95, 115, 112, 101, 99, 95, 95, 4, 0, 0, 26, 6, 253, 7, 99, 111, 109, 112, 105, 108, 101, 9, 12, 95, 115, 114, 101, 46, 99, 111, 109, 112, 105, 108, 101, 6, 254, 8, 116, 101, 109, 112, 108, 97, 116, 101, 9, 13, 95, 115, 114, 101, 46, 116, 101, 109, 112, 108, 97, 116, 101, 6, 255, 11, 103, 101, 116, 99, 111, 100, 101, 115, 105, 122, 101, 9, 16, 95, 115, 114, 101, 46, 103, 101, 116, 99, 111, 100, 101, 115, 105, 122, 101, 6, 256, 13, 97, 115, 99, 105, 105, 95, 105, 115, 99, 97, 115, 101, 100, 9, 18, 95, 115, 114, 101, 46, 97, 115, 99, 105, 105, 95, 105, 115, 99, 97, 115, 101, 100, 6, 257, 15, 117, 110, 105, 99, 111, 100, 101, 95, 105, 115, 99, 97, 115, 101, 100, 9, 20, 95, 115, 114, 101, 46, 117, 110, 105, 99, 111, 100, 101, 95, 105, 115, 99, 97, 115, 101, 100, 6, 258, 13, 97, 115, 99, 105, 105, 95, 116, 111, 108, 111, 119, 101, 114, 9, 18, 95, 115, 114, 101, 46, 97, 115, 99, 105, 105, 95, 116, 111, 108, 111, 119, 101, 114, 6, 259, 15, 117, 110, 105, 99, 111, 100, 101, 95, 116, 111, 108, 111, 119, 101, 114, 9, 20, 95, 115, 114, 101, 46, 117, 110, 105, 99, 111, 100, 101, 95, 116, 111, 108, 111, 119, 101, 114, 6, 261, 5, 77, 65, 71, 73, 67, 4, 260, 0, 20230612, 6, 263, 8, 67, 79, 68, 69, 83, 73, 90, 69, 4, 262, 0, 4, 6, 265, 9, 77, 65, 88, 82, 69, 80, 69, 65, 84, 4, 264, 0, 4294967295, 6, 267, 9, 77, 65, 88, 71, 82, 79, 85, 80, 83, 4, 266, 0, 1073741823, 6, 269, 9, 99, 111, 112, 121, 114, 105, 103, 104, 116, 6, 268, 53, 32, 83, 82, 69, 32, 50, 46, 50, 46, 50, 32, 67, 111, 112, 121, 114, 105, 103, 104, 116, 32, 40, 99, 41, 32, 49, 57, 57, 55, 45, 50, 48, 48, 50, 32, 98, 121, 32, 83, 101, 99, 114, 101, 116, 32, 76, 97, 98, 115, 32, 65, 66, 32]⟩ 0, .bool true, .bool false, .str "_sre" 271, .int 29 0, .str "\x06Ĩ\x08__name__\x06ħ\x0c_collections\x06ĩ\x07__doc__\t\x1f_collections.__doc__:str#opaque\x06ī\x0b__package__\x06Ī\x00\x06Ĭ\n__loader__\x04\x00\x00\x0e\x06ĭ\x08__spec__\x04\x00\x00!\x06Į\x0f_count_elements\t\x1c_collections._count_elements\x06į\x05deque\x08\x11collections.deque\x06İ\x0bdefaultdict\x08\x17collections.defaultdict\x06ı\x0f_deque_iterator\x08\x1bcollections._deque_iterator\x06Ĳ\x17_deque_reverse_iterator\x08#collections._deque_reverse_iterator\x06ĳ\x0c_tuplegetter\x08\x18collections._tuplegetter\x06Ĵ\x0bOrderedDict\x08\x17collections.OrderedDict" 0, .bool true, .bool false, .str "_collections" 310] 1, #[]⟩
noncomputable def o28 (P : Params) : Obj := ⟨.type "tuple", none, .seq #[.str "deque" 277] 0, #[]⟩
noncomputable def o29 (P : Params) : Obj := ⟨.type "dict", none, .dict #[en P "__name__" 296 (.str "_collections" 295), en P "__doc__" 297 (.builtin "off-the-table:_collections.__doc__:shared#opaque"), en P "__package__" 299 (.str "" 298), en P "__loader__" 300 (.builtin "off-the-table:_collections.__loader__:shared#opaque"), en P "__spec__" 301 (.builtin "off-the-table:_collections.__spec__:shared#opaque"), en P "_count_elements" 302 (.builtin "_collections._count_elements"), en P "deque" 303 (.type "collections.deque"), en P "defaultdict" 304 (.type "collections.defaultdict"), en P "_deque_iterator" 305 (.builtin "off-the-table:_collections._deque_iterator:shared#opaque"), en P "_deque_reverse_iterator" 306 (.builtin "off-the-table:_collections._deque_reverse_iterator:shared#opaque"), en P "_tuplegetter" 307 (.type "collections._tuplegetter"), en P "OrderedDict" 308 (.type "collections.OrderedDict")] 12, #[]⟩
noncomputable def o30 (P : Params) : Obj := ⟨.type "module", (some (29)), .plain, #[]⟩
noncomputable def o32 (P : Params) : Obj := ⟨.type "dict", none, .dict #[en P "name" 283 (.str "_collections" 282), en P "loader" 284 (.ref 14), en P "origin" 285 (.str "built-in" 281), en P "loader_state" 286 (.none), en P "submodule_search_locations" 287 (.none), en P "_uninitialized_submodules" 288 (.ref 31), en P "_set_fileattr" 289 (.bool false), en P "_cached" 290 (.none), en P "_initializing" 291 (.bool false)] 9, #[]⟩
noncomputable def o33 (P : Params) : Obj := ⟨.ref 22, (some (32)), .plain, #[]⟩
noncomputable def o36 (P : Params) : Obj := ⟨.type "code", none, .fields #[.str "<module>" 319, .str "<module>" 320, .str "/claim/cut.py" 321, .int 1 0, .int 0 0, .int 0 0, .int 0 0, .int 0 0, .ref 34, .bool false, .int 318 0, .ref 35, .none, .none, .none, .none, .int 322 0, .int 1 0, .str "/claim/cut.py" 323], #[]⟩
noncomputable def o37 (P : Params) : Obj := ⟨.type "frame", none, .plain, #[(some (.ref 36)), (some (.ref 3)), (some (.ref 3)), none, (some (.str "__main__" 164)), none, (some (.ref 0))]⟩
noncomputable def o2 (P : Params) : Obj := ⟨.none, none, .dict #[en P "im\x70ort.loaded._sre" 183 (.bool true), en P "class._frozen_importlib.BuiltinImporter" 185 (.ref 14), en P "watched.im\x70ort" 206 (.ref 18), en P "class._frozen_importlib.ModuleSpec" 216 (.ref 22), en P "sys.modules.booked-epoch" 245 (.int 4 0), en P "im\x70ort.later-laid._sre" 270 (.bool true), en P "watched.library" 272 (.ref 27), en P "watched.library-objects" 0 (.str "\x0c\x1e" 0), en P "watched.library-deep._sre" 273 (.str "\x04\x00\x00\x0b\x04\x00\x00\x0b\x04\x00\x00\x03\x04\x00\x00\x0b\x08\x04dict\x02" 0), en P "im\x70ort.loaded._collections" 280 (.bool true), en P "sys.modules.landed._collections" 294 (.bool true), en P "im\x70ort.later-laid._collections" 309 (.bool true), en P "watched.library-deep._collections" 311 (.str "\x04\x00\x00\x1d\x04\x00\x00\x1d\x04\x00\x00\x03\x04\x00\x00\x1d\x08\x04dict\x02" 0), en P "type.__subclasses__.OSError.0" 407 (.int 73 0), en P "type.__subclasses__.OSError.n" 408 (.int 1 0)] 15, #[]⟩
noncomputable def o3v162 (P : Params) : Obj := ⟨.type "dict", none, .dict #[en P "__name__" 165 (.str "io" 371), en P "__doc__" 166 (.none), en P "__package__" 167 (.none), en P "__loader__" 168 (.builtin "__main__.__loader__#opaque"), en P "__spec__" 169 (.none), en P "__annotations__" 170 (.ref 6), en P "__builtins__" 171 (.ref 4), en P "__file__" 173 (.str "/claim/cut.py" 172), en P "__cached__" 174 (.none), en P "_sre" 275 (.ref 12), en P "deque" 317 (.type "collections.deque"), en P "_wall" 330 (.ref 44), en P "_twin_re_1" 370 (.ref 49), en P "_whence" 380 (.ref 56), en P "_index" 388 (.ref 63), en P "UnsupportedOperation" 410 (.ref 73), en P "IOBase" 442 (.ref 93), en P "BufferedIOBase" 460 (.ref 108), en P "TextIOBase" 478 (.ref 120)] 19, #[]⟩
noncomputable def o35v163 (P : Params) : Obj := ⟨.none, none, .fields #[.int 3 0, .int 0 0, .ref 43, .int 8 0, .int 0 0, .ref 55, .int 13 0, .int 0 0, .ref 62, .int 20 0, .int 0 0, .ref 69, .int 22 0, .int 0 0, .ref 82, .int 29 0, .int 0 0, .ref 104, .int 31 0, .int 0 0, .ref 116], #[]⟩
noncomputable def o40 (P : Params) : Obj := ⟨.type "tuple", none, .seq #[.str "k" 327] 0, #[]⟩
noncomputable def o42 (P : Params) : Obj := ⟨.none, none, .func ⟨"_wall", "_wall", (fP [2]), (.stmts (fB [2])), (fS [2]), 0, [], .none, .none, .none, .none, none, .none, .none, 0⟩, #[]⟩
noncomputable def o43 (P : Params) : Obj := ⟨.type "code", none, .fields #[.str "_wall" 324, .str "_wall" 325, .str "/claim/cut.py" 326, .int 3 0, .int 1 0, .int 0 0, .int 0 0, .int 3 0, .ref 38, .bool true, .int 318 0, .ref 39, .none, .ref 40, .ref 41, .ref 42, .int 328 0, .int 3 0, .str "/claim/cut.py" 329], #[]⟩
noncomputable def o44 (P : Params) : Obj := ⟨.type "function", none, .func ⟨"_wall", "_wall", (fP [2]), (.stmts (fB [2])), (fS [2]), 3, [], .none, .none, .none, .str "__main__" 164, none, .ref 43, .none, 0⟩, #[]⟩
noncomputable def o45 (P : Params) : Obj := ⟨.type "list", none, .seq #[.int 14 334, .int 17 335, .int 4 336, .int 1 337, .int 1 338, .int 21 339, .int 9 340, .int 0 341, .int 604043296 342, .int 1 343, .int 0 344, .int 0 345, .int 0 346, .int 0 347, .int 0 348, .int 8 349, .int 4 350, .int 0 351, .int 13 352, .int 14 353, .int 21 354, .int 9 355, .int 0 356, .int 604043296 357, .int 1 358, .int 0 359, .int 0 360, .int 0 361, .int 0 362, .int 0 363, .int 8 364, .int 4 365, .int 0 366, .int 1 367] 0, #[]⟩
noncomputable def o47 (P : Params) : Obj := ⟨.type "tuple", none, .seq #[.none] 0, #[]⟩
noncomputable def o48 (P : Params) : Obj := ⟨.type "tuple", none, .seq #[.int 14 0, .int 17 0, .int 4 0, .int 1 0, .int 1 0, .int 21 0, .int 9 0, .int 0 0, .int 604043296 0, .int 1 0, .int 0 0, .int 0 0, .int 0 0, .int 0 0, .int 0 0, .int 8 0, .int 4 0, .int 0 0, .int 13 0, .int 14 0, .int 21 0, .int 9 0, .int 0 0, .int 604043296 0, .int 1 0, .int 0 0, .int 0 0, .int 0 0, .int 0 0, .int 0 0, .int 8 0, .int 4 0, .int 0 0, .int 1 0] 0, #[]⟩
noncomputable def o49 (P : Params) : Obj := ⟨.type "re.Pattern", none, .fields #[.str "[^\\w@%+=:,./-]" 332, .int 256 369, .int 0 0, .none, .none, .ref 48, .int 0 0], #[]⟩
noncomputable def o52 (P : Params) : Obj := ⟨.type "tuple", none, .seq #[.str "n" 376, .str "what" 377] 0, #[]⟩
noncomputable def o54 (P : Params) : Obj := ⟨.none, none, .func ⟨"_whence", "_whence", (fP [5]), (.stmts (fB [5])), (fS [5]), 0, [], .none, .none, .none, .none, none, .none, .none, 0⟩, #[]⟩
noncomputable def o55 (P : Params) : Obj := ⟨.type "code", none, .fields #[.str "_whence" 373, .str "_whence" 374, .str "/claim/cut.py" 375, .int 8 0, .int 2 0, .int 0 0, .int 0 0, .int 3 0, .ref 50, .bool true, .int 318 0, .ref 51, .none, .ref 52, .ref 53, .ref 54, .int 378 0, .int 8 0, .str "/claim/cut.py" 379], #[]⟩
noncomputable def o56 (P : Params) : Obj := ⟨.type "function", none, .func ⟨"_whence", "_whence", (fP [5]), (.stmts (fB [5])), (fS [5]), 3, [], .none, .none, .none, .str "io" 371, none, .ref 55, .none, 0⟩, #[]⟩
noncomputable def o59 (P : Params) : Obj := ⟨.type "tuple", none, .seq #[.str "n" 384, .str "what" 385] 0, #[]⟩
noncomputable def o61 (P : Params) : Obj := ⟨.none, none, .func ⟨"_index", "_index", p_index, (.stmts b_index), s_index, 0, [], .none, .none, .none, .none, none, .none, .none, 0⟩, #[]⟩
noncomputable def o62 (P : Params) : Obj := ⟨.type "code", none, .fields #[.str "_index" 381, .str "_index" 382, .str "/claim/cut.py" 383, .int 13 0, .int 2 0, .int 0 0, .int 0 0, .int 3 0, .ref 57, .bool true, .int 318 0, .ref 58, .none, .ref 59, .ref 60, .ref 61, .int 386 0, .int 13 0, .str "/claim/cut.py" 387], #[]⟩
noncomputable def o63 (P : Params) : Obj := ⟨.type "function", none, .func ⟨"_index", "_index", p_index, (.stmts b_index), s_index, 3, [], .none, .none, .none, .str "io" 371, none, .ref 62, .none, 0⟩, #[]⟩
noncomputable def o64 (P : Params) : Obj := ⟨.type "tuple", none, .seq #[.type "OSError", .type "ValueError"] 0, #[]⟩
noncomputable def o65 (P : Params) : Obj := ⟨.type "builtin_function_or_method", none, .fields #[.builtin "type.__prepare__", .type "type"], #[]⟩
noncomputable def o66 (P : Params) : Obj := ⟨.type "dict", none, .dict #[en P "__module__" 396 (.str "io" 401), en P "__qualname__" 398 (.str "UnsupportedOperation" 397), en P "__firstlineno__" 400 (.int 20 399), en P "__static_attributes__" 403 (.ref 71)] 4, #[]⟩
noncomputable def o69 (P : Params) : Obj := ⟨.type "code", none, .fields #[.str "UnsupportedOperation" 391, .str "UnsupportedOperation" 392, .str "/claim/cut.py" 393, .int 20 0, .int 0 0, .int 0 0, .int 0 0, .int 0 0, .ref 67, .bool false, .int 318 0, .ref 68, .none, .none, .none, .none, .int 394 0, .int 20 0, .str "/claim/cut.py" 395], #[]⟩
noncomputable def o70 (P : Params) : Obj := ⟨.type "frame", none, .plain, #[(some (.ref 69)), (some (.ref 3)), (some (.ref 66)), none, (some (.str "io" 371)), none, (some (.ref 0))]⟩
noncomputable def o72 (P : Params) : Obj := ⟨.type "dict", none, .dict #[en P "__module__" 396 (.str "io" 401), en P "__firstlineno__" 400 (.int 20 399), en P "__static_attributes__" 403 (.ref 71), en P "__weakref__" 405 (.ref 74), en P "__doc__" 406 (.none)] 3, #[]⟩
noncomputable def o73 (P : Params) : Obj := ⟨.type "type", none, .cls ⟨"UnsupportedOperation", [.type "OSError", .type "ValueError"], [.ref 73, .type "OSError", .type "ValueError", .type "Exception", .type "BaseException", .type "object"], 72, "UnsupportedOperation", true, [], [], false, none, false⟩, #[(some (.ref 64)), none, (some (.str "UnsupportedOperation" 389)), (some (.str "UnsupportedOperation" 397)), (some (.builtin "OSError.__new__")), (some (.bool true))]⟩
noncomputable def o74 (P : Params) : Obj := ⟨.type "getset_descriptor", none, .fields #[.str "__weakref__" 404, .ref 73, .builtin "ExceptionGroup.__weakref__", .none], #[]⟩
noncomputable def o75 (P : Params) : Obj := ⟨.type "super", none, .fields #[.ref 73, .ref 73, .ref 73], #[]⟩
noncomputable def o76 (P : Params) : Obj := ⟨.type "builtin_function_or_method", none, .fields #[.builtin "object.__init_subclass__", .ref 73], #[]⟩
noncomputable def o79 (P : Params) : Obj := ⟨.type "dict", none, .dict #[en P "__module__" 418 (.str "io" 423), en P "__qualname__" 420 (.str "IOBase" 419), en P "__firstlineno__" 422 (.int 22 421), en P "__new__" 433 (.ref 90), en P "__static_attributes__" 434 (.ref 91)] 5, #[]⟩
noncomputable def o81 (P : Params) : Obj := ⟨.none, none, .fields #[.int 25 0, .int 4 0, .ref 89], #[]⟩
noncomputable def o82 (P : Params) : Obj := ⟨.type "code", none, .fields #[.str "IOBase" 413, .str "IOBase" 414, .str "/claim/cut.py" 415, .int 22 0, .int 0 0, .int 0 0, .int 0 0, .int 0 0, .ref 80, .bool false, .int 318 0, .ref 81, .none, .none, .none, .none, .int 416 0, .int 22 0, .str "/claim/cut.py" 417], #[]⟩
noncomputable def o83 (P : Params) : Obj := ⟨.type "frame", none, .plain, #[(some (.ref 82)), (some (.ref 3)), (some (.ref 79)), none, (some (.str "io" 371)), none, (some (.ref 0))]⟩
noncomputable def o86 (P : Params) : Obj := ⟨.type "tuple", none, .seq #[.str "cls" 428, .str "args" 429, .str "kwargs" 430] 0, #[]⟩
noncomputable def o88 (P : Params) : Obj := ⟨.none, none, .func ⟨"__new__", "IOBase.__new__", p_new, (.stmts b_new), s_new, 0, [], .none, .none, .none, .none, none, .none, .none, 0⟩, #[]⟩
noncomputable def o89 (P : Params) : Obj := ⟨.type "code", none, .fields #[.str "__new__" 425, .str "IOBase.__new__" 426, .str "/claim/cut.py" 427, .int 25 0, .int 1 0, .int 1 0, .int 0 0, .int 15 0, .ref 84, .bool true, .int 318 0, .ref 85, .none, .ref 86, .ref 87, .ref 88, .int 431 0, .int 25 0, .str "/claim/cut.py" 432], #[]⟩
noncomputable def o90 (P : Params) : Obj := ⟨.type "function", none, .func ⟨"__new__", "IOBase.__new__", p_new, (.stmts b_new), s_new, 3, [], .none, .none, .none, .str "io" 371, none, .ref 89, .none, 0⟩, #[]⟩
noncomputable def o92 (P : Params) : Obj := ⟨.type "dict", none, .dict #[en P "__module__" 418 (.str "io" 423), en P "__firstlineno__" 422 (.int 22 421), en P "__new__" 433 (.ref 94), en P "__static_attributes__" 434 (.ref 91), en P "__dict__" 437 (.ref 95), en P "__weakref__" 439 (.ref 96), en P "__doc__" 440 (.none)] 4, #[]⟩
noncomputable def o93 (P : Params) : Obj := ⟨.type "type", none, .cls ⟨"IOBase", [.type "object"], [.ref 93, .type "object"], 92, "IOBase", true, [], [.ref 108, .ref 120], false, none, false⟩, #[none, none, (some (.str "IOBase" 411)), (some (.str "IOBase" 419)), (some (.none)), (some (.bool true))]⟩
noncomputable def o94 (P : Params) : Obj := ⟨.type "staticmethod", none, .fields #[.ref 90], #[]⟩
noncomputable def o95 (P : Params) : Obj := ⟨.type "getset_descriptor", none, .fields #[.str "__dict__" 436, .ref 93, .builtin "function.__dict__", .builtin "function.__dict__#set"], #[]⟩
noncomputable def o96 (P : Params) : Obj := ⟨.type "getset_descriptor", none, .fields #[.str "__weakref__" 438, .ref 93, .builtin "ExceptionGroup.__weakref__", .none], #[]⟩
noncomputable def o97 (P : Params) : Obj := ⟨.type "super", none, .fields #[.ref 93, .ref 93, .ref 93], #[]⟩
noncomputable def o98 (P : Params) : Obj := ⟨.type "builtin_function_or_method", none, .fields #[.builtin "object.__init_subclass__", .ref 93], #[]⟩
noncomputable def o99 (P : Params) : Obj := ⟨.type "tuple", none, .seq #[.ref 93] 0, #[]⟩
noncomputable def o101 (P : Params) : Obj := ⟨.type "dict", none, .dict #[en P "__module__" 450 (.str "io" 455), en P "__qualname__" 452 (.str "BufferedIOBase" 451), en P "__firstlineno__" 454 (.int 29 453), en P "__static_attributes__" 457 (.ref 106)] 4, #[]⟩
noncomputable def o104 (P : Params) : Obj := ⟨.type "code", none, .fields #[.str "BufferedIOBase" 445, .str "BufferedIOBase" 446, .str "/claim/cut.py" 447, .int 29 0, .int 0 0, .int 0 0, .int 0 0, .int 0 0, .ref 102, .bool false, .int 318 0, .ref 103, .none, .none, .none, .none, .int 448 0, .int 29 0, .str "/claim/cut.py" 449], #[]⟩
noncomputable def o105 (P : Params) : Obj := ⟨.type "frame", none, .plain, #[(some (.ref 104)), (some (.ref 3)), (some (.ref 101)), none, (some (.str "io" 371)), none, (some (.ref 0))]⟩
noncomputable def o107 (P : Params) : Obj := ⟨.type "dict", none, .dict #[en P "__module__" 450 (.str "io" 455), en P "__firstlineno__" 454 (.int 29 453), en P "__static_attributes__" 457 (.ref 106), en P "__doc__" 458 (.none)] 2, #[]⟩
noncomputable def o108v159 (P : Params) : Obj := ⟨.type "type", none, .cls ⟨"BufferedIOBase", [.ref 93], [.ref 108, .ref 93, .type "object"], 107, "BufferedIOBase", true, [], [], false, none, false⟩, #[(some (.ref 99)), none, (some (.str "BufferedIOBase" 443)), (some (.str "BufferedIOBase" 451)), (some (.none)), (some (.bool true))]⟩
noncomputable def o109 (P : Params) : Obj := ⟨.type "super", none, .fields #[.ref 108, .ref 108, .ref 108], #[]⟩
noncomputable def o110 (P : Params) : Obj := ⟨.type "builtin_function_or_method", none, .fields #[.builtin "object.__init_subclass__", .ref 108], #[]⟩
noncomputable def o113 (P : Params) : Obj := ⟨.type "dict", none, .dict #[en P "__module__" 468 (.str "io" 473), en P "__qualname__" 470 (.str "TextIOBase" 469), en P "__firstlineno__" 472 (.int 31 471), en P "__static_attributes__" 475 (.ref 118)] 4, #[]⟩
noncomputable def o116 (P : Params) : Obj := ⟨.type "code", none, .fields #[.str "TextIOBase" 463, .str "TextIOBase" 464, .str "/claim/cut.py" 465, .int 31 0, .int 0 0, .int 0 0, .int 0 0, .int 0 0, .ref 114, .bool false, .int 318 0, .ref 115, .none, .none, .none, .none, .int 466 0, .int 31 0, .str "/claim/cut.py" 467], #[]⟩
noncomputable def o117 (P : Params) : Obj := ⟨.type "frame", none, .plain, #[(some (.ref 116)), (some (.ref 3)), (some (.ref 113)), none, (some (.str "io" 371)), none, (some (.ref 0))]⟩
noncomputable def o119 (P : Params) : Obj := ⟨.type "dict", none, .dict #[en P "__module__" 468 (.str "io" 473), en P "__firstlineno__" 472 (.int 31 471), en P "__static_attributes__" 475 (.ref 118), en P "__doc__" 476 (.none)] 2, #[]⟩
noncomputable def o120v174 (P : Params) : Obj := ⟨.type "type", none, .cls ⟨"TextIOBase", [.ref 93], [.ref 120, .ref 93, .type "object"], 119, "TextIOBase", true, [], [], false, none, false⟩, #[(some (.ref 111)), none, (some (.str "TextIOBase" 461)), (some (.str "TextIOBase" 469)), (some (.none)), (some (.bool true))]⟩
noncomputable def o121 (P : Params) : Obj := ⟨.type "super", none, .fields #[.ref 120, .ref 120, .ref 120], #[]⟩
noncomputable def o122 (P : Params) : Obj := ⟨.type "builtin_function_or_method", none, .fields #[.builtin "object.__init_subclass__", .ref 120], #[]⟩
noncomputable def o3v177 (P : Params) : Obj := ⟨.type "dict", none, .dict #[en P "__name__" 165 (.str "io" 371), en P "__doc__" 166 (.none), en P "__package__" 167 (.none), en P "__loader__" 168 (.builtin "__main__.__loader__#opaque"), en P "__spec__" 169 (.none), en P "__annotations__" 170 (.ref 6), en P "__builtins__" 171 (.ref 4), en P "__file__" 173 (.str "/claim/cut.py" 172), en P "__cached__" 174 (.none), en P "_sre" 275 (.ref 12), en P "deque" 317 (.type "collections.deque"), en P "_wall" 330 (.ref 44), en P "_twin_re_1" 370 (.ref 49), en P "_whence" 380 (.ref 56), en P "_index" 388 (.ref 63), en P "UnsupportedOperation" 410 (.ref 73), en P "IOBase" 442 (.ref 93), en P "BufferedIOBase" 460 (.ref 108), en P "TextIOBase" 478 (.ref 120), en P "BytesIO" 740 (.ref 350)] 20, #[]⟩
noncomputable def o35v178 (P : Params) : Obj := ⟨.none, none, .fields #[.int 3 0, .int 0 0, .ref 43, .int 8 0, .int 0 0, .ref 55, .int 13 0, .int 0 0, .ref 62, .int 20 0, .int 0 0, .ref 69, .int 22 0, .int 0 0, .ref 82, .int 29 0, .int 0 0, .ref 104, .int 31 0, .int 0 0, .ref 116, .int 33 0, .int 0 0, .ref 128], #[]⟩
noncomputable def o108 (P : Params) : Obj := ⟨.type "type", none, .cls ⟨"BufferedIOBase", [.ref 93], [.ref 108, .ref 93, .type "object"], 107, "BufferedIOBase", true, [], [.ref 350], false, none, false⟩, #[(some (.ref 99)), none, (some (.str "BufferedIOBase" 443)), (some (.str "BufferedIOBase" 451)), (some (.none)), (some (.bool true))]⟩
noncomputable def o123 (P : Params) : Obj := ⟨.type "tuple", none, .seq #[.ref 108] 0, #[]⟩
noncomputable def o125 (P : Params) : Obj := ⟨.type "dict", none, .dict #[en P "__module__" 486 (.str "_io" 491), en P "__qualname__" 488 (.str "BytesIO" 487), en P "__firstlineno__" 490 (.int 33 489), en P "__init__" 500 (.ref 137), en P "_BytesIO__check" 507 (.ref 144), en P "_BytesIO__line" 518 (.ref 151), en P "closed" 526 (.ref 159), en P "close" 533 (.ref 166), en P "__enter__" 540 (.ref 173), en P "__exit__" 548 (.ref 180), en P "readable" 555 (.ref 187), en P "writable" 562 (.ref 194), en P "seekable" 569 (.ref 201), en P "isatty" 576 (.ref 208), en P "flush" 583 (.ref 215), en P "fileno" 590 (.ref 222), en P "detach" 597 (.ref 229), en P "getvalue" 604 (.ref 236), en P "getbuffer" 611 (.ref 243), en P "tell" 618 (.ref 250), en P "seek" 628 (.ref 258), en P "truncate" 636 (.ref 266), en P "read" 648 (.ref 274), en P "read1" 658 (.ref 282), en P "readinto" 668 (.ref 289), en P "readinto1" 676 (.ref 296), en P "readline" 686 (.ref 304), en P "readlines" 694 (.ref 312), en P "__iter__" 701 (.ref 319), en P "__next__" 709 (.ref 326), en P "write" 719 (.ref 333), en P "writelines" 727 (.ref 340), en P "__repr__" 734 (.ref 347), en P "__static_attributes__" 737 (.ref 348)] 34, #[]⟩
noncomputable def o127 (P : Params) : Obj := ⟨.none, none, .fields #[.int 36 0, .int 4 0, .ref 136, .int 42 0, .int 4 0, .ref 143, .int 46 0, .int 4 0, .ref 150, .int 60 0, .int 4 0, .ref 157, .int 63 0, .int 4 0, .ref 165, .int 66 0, .int 4 0, .ref 172, .int 70 0, .int 4 0, .ref 179, .int 73 0, .int 4 0, .ref 186, .int 77 0, .int 4 0, .ref 193, .int 81 0, .int 4 0, .ref 200, .int 85 0, .int 4 0, .ref 207, .int 89 0, .int 4 0, .ref 214, .int 92 0, .int 4 0, .ref 221, .int 95 0, .int 4 0, .ref 228, .int 98 0, .int 4 0, .ref 235, .int 101 0, .int 4 0, .ref 242, .int 104 0, .int 4 0, .ref 249, .int 108 0, .int 4 0, .ref 257, .int 125 0, .int 4 0, .ref 265, .int 128 0, .int 4 0, .ref 273, .int 142 0, .int 4 0, .ref 281, .int 145 0, .int 4 0, .ref 288, .int 159 0, .int 4 0, .ref 295, .int 162 0, .int 4 0, .ref 303, .int 169 0, .int 4 0, .ref 311, .int 172 0, .int 4 0, .ref 318, .int 175 0, .int 4 0, .ref 325, .int 182 0, .int 4 0, .ref 332, .int 198 0, .int 4 0, .ref 339, .int 201 0, .int 4 0, .ref 346], #[]⟩
noncomputable def o128 (P : Params) : Obj := ⟨.type "code", none, .fields #[.str "BytesIO" 481, .str "BytesIO" 482, .str "/claim/cut.py" 483, .int 33 0, .int 0 0, .int 0 0, .int 0 0, .int 0 0, .ref 126, .bool false, .int 318 0, .ref 127, .none, .none, .none, .none, .int 484 0, .int 33 0, .str "/claim/cut.py" 485], #[]⟩
noncomputable def o129 (P : Params) : Obj := ⟨.type "frame", none, .plain, #[(some (.ref 128)), (some (.ref 3)), (some (.ref 125)), none, (some (.str "io" 371)), none, (some (.ref 0))]⟩
noncomputable def o133 (P : Params) : Obj := ⟨.type "tuple", none, .seq #[.str "self" 496, .str "initial_bytes" 497] 0, #[]⟩
noncomputable def o135 (P : Params) : Obj := ⟨.none, none, .func ⟨"__init__", "BytesIO.__init__", (fP [11, 1]), (.stmts (fB [11, 1])), (fS [11, 1]), 0, [], .none, .none, .none, .none, none, .none, .none, 0⟩, #[]⟩
noncomputable def o136 (P : Params) : Obj := ⟨.type "code", none, .fields #[.str "__init__" 493, .str "BytesIO.__init__" 494, .str "/claim/cut.py" 495, .int 36 0, .int 2 0, .int 0 0, .int 0 0, .int 3 0, .ref 131, .bool true, .int 318 0, .ref 132, .none, .ref 133, .ref 134, .ref 135, .int 498 0, .int 36 0, .str "/claim/cut.py" 499], #[]⟩
noncomputable def o137 (P : Params) : Obj := ⟨.type "function", none, .func ⟨"__init__", "BytesIO.__init__", (fP [11, 1]), (.stmts (fB [11, 1])), (fS [11, 1]), 3, [], .ref 130, .none, .none, .str "io" 371, none, .ref 136, .none, 0⟩, #[]⟩
noncomputable def o140 (P : Params) : Obj := ⟨.type "tuple", none, .seq #[.str "self" 504] 0, #[]⟩
noncomputable def o142 (P : Params) : Obj := ⟨.none, none, .func ⟨"__check", "BytesIO.__check", (fP [11, 2]), (.stmts (fB [11, 2])), (fS [11, 2]), 0, [], .none, .none, .none, .none, none, .none, .none, 0⟩, #[]⟩
noncomputable def o143 (P : Params) : Obj := ⟨.type "code", none, .fields #[.str "__check" 501, .str "BytesIO.__check" 502, .str "/claim/cut.py" 503, .int 42 0, .int 1 0, .int 0 0, .int 0 0, .int 3 0, .ref 138, .bool true, .int 318 0, .ref 139, .none, .ref 140, .ref 141, .ref 142, .int 505 0, .int 42 0, .str "/claim/cut.py" 506], #[]⟩
noncomputable def o144 (P : Params) : Obj := ⟨.type "function", none, .func ⟨"__check", "BytesIO.__check", (fP [11, 2]), (.stmts (fB [11, 2])), (fS [11, 2]), 3, [], .none, .none, .none, .str "io" 371, none, .ref 143, .none, 0⟩, #[]⟩
noncomputable def o147 (P : Params) : Obj := ⟨.type "tuple", none, .seq #[.str "self" 511, .str "limit" 512, .str "start" 513, .str "stop" 514, .str "i" 515] 0, #[]⟩
noncomputable def o149 (P : Params) : Obj := ⟨.none, none, .func ⟨"__line", "BytesIO.__line", (fP [11, 3]), (.stmts (fB [11, 3])), (fS [11, 3]), 0, [], .none, .none, .none, .none, none, .none, .none, 0⟩, #[]⟩
noncomputable def o150 (P : Params) : Obj := ⟨.type "code", none, .fields #[.str "__line" 508, .str "BytesIO.__line" 509, .str "/claim/cut.py" 510, .int 46 0, .int 2 0, .int 0 0, .int 0 0, .int 3 0, .ref 145, .bool true, .int 318 0, .ref 146, .none, .ref 147, .ref 148, .ref 149, .int 516 0, .int 46 0, .str "/claim/cut.py" 517], #[]⟩
noncomputable def o151 (P : Params) : Obj := ⟨.type "function", none, .func ⟨"__line", "BytesIO.__line", (fP [11, 3]), (.stmts (fB [11, 3])), (fS [11, 3]), 3, [], .none, .none, .none, .str "io" 371, none, .ref 150, .none, 0⟩, #[]⟩
noncomputable def o154 (P : Params) : Obj := ⟨.type "tuple", none, .seq #[.str "self" 522] 0, #[]⟩
noncomputable def o156 (P : Params) : Obj := ⟨.none, none, .func ⟨"closed", "BytesIO.closed", (fP [11, 4]), (.stmts (fB [11, 4])), (fS [11, 4]), 0, [], .none, .none, .none, .none, none, .none, .none, 0⟩, #[]⟩
noncomputable def o157 (P : Params) : Obj := ⟨.type "code", none, .fields #[.str "closed" 519, .str "BytesIO.closed" 520, .str "/claim/cut.py" 521, .int 59 0, .int 1 0, .int 0 0, .int 0 0, .int 3 0, .ref 152, .bool true, .int 318 0, .ref 153, .none, .ref 154, .ref 155, .ref 156, .int 523 0, .int 59 0, .str "/claim/cut.py" 524], #[]⟩
noncomputable def o158 (P : Params) : Obj := ⟨.type "function", none, .func ⟨"closed", "BytesIO.closed", (fP [11, 4]), (.stmts (fB [11, 4])), (fS [11, 4]), 3, [], .none, .none, .none, .str "io" 371, none, .ref 157, .none, 0⟩, #[]⟩
noncomputable def o159 (P : Params) : Obj := ⟨.type "property", none, .fields #[.ref 158, .none, .none, .none, .str "closed" 526, .bool false], #[]⟩
noncomputable def o162 (P : Params) : Obj := ⟨.type "tuple", none, .seq #[.str "self" 530] 0, #[]⟩
noncomputable def o164 (P : Params) : Obj := ⟨.none, none, .func ⟨"close", "BytesIO.close", (fP [11, 5]), (.stmts (fB [11, 5])), (fS [11, 5]), 0, [], .none, .none, .none, .none, none, .none, .none, 0⟩, #[]⟩
noncomputable def o165 (P : Params) : Obj := ⟨.type "code", none, .fields #[.str "close" 527, .str "BytesIO.close" 528, .str "/claim/cut.py" 529, .int 63 0, .int 1 0, .int 0 0, .int 0 0, .int 3 0, .ref 160, .bool true, .int 318 0, .ref 161, .none, .ref 162, .ref 163, .ref 164, .int 531 0, .int 63 0, .str "/claim/cut.py" 532], #[]⟩
noncomputable def o166 (P : Params) : Obj := ⟨.type "function", none, .func ⟨"close", "BytesIO.close", (fP [11, 5]), (.stmts (fB [11, 5])), (fS [11, 5]), 3, [], .none, .none, .none, .str "io" 371, none, .ref 165, .none, 0⟩, #[]⟩
noncomputable def o169 (P : Params) : Obj := ⟨.type "tuple", none, .seq #[.str "self" 537] 0, #[]⟩
noncomputable def o171 (P : Params) : Obj := ⟨.none, none, .func ⟨"__enter__", "BytesIO.__enter__", (fP [11, 6]), (.stmts (fB [11, 6])), (fS [11, 6]), 0, [], .none, .none, .none, .none, none, .none, .none, 0⟩, #[]⟩
noncomputable def o172 (P : Params) : Obj := ⟨.type "code", none, .fields #[.str "__enter__" 534, .str "BytesIO.__enter__" 535, .str "/claim/cut.py" 536, .int 66 0, .int 1 0, .int 0 0, .int 0 0, .int 3 0, .ref 167, .bool true, .int 318 0, .ref 168, .none, .ref 169, .ref 170, .ref 171, .int 538 0, .int 66 0, .str "/claim/cut.py" 539], #[]⟩
noncomputable def o173 (P : Params) : Obj := ⟨.type "function", none, .func ⟨"__enter__", "BytesIO.__enter__", (fP [11, 6]), (.stmts (fB [11, 6])), (fS [11, 6]), 3, [], .none, .none, .none, .str "io" 371, none, .ref 172, .none, 0⟩, #[]⟩
noncomputable def o176 (P : Params) : Obj := ⟨.type "tuple", none, .seq #[.str "self" 544, .str "args" 545] 0, #[]⟩
noncomputable def o178 (P : Params) : Obj := ⟨.none, none, .func ⟨"__exit__", "BytesIO.__exit__", (fP [11, 7]), (.stmts (fB [11, 7])), (fS [11, 7]), 0, [], .none, .none, .none, .none, none, .none, .none, 0⟩, #[]⟩
noncomputable def o179 (P : Params) : Obj := ⟨.type "code", none, .fields #[.str "__exit__" 541, .str "BytesIO.__exit__" 542, .str "/claim/cut.py" 543, .int 70 0, .int 1 0, .int 0 0, .int 0 0, .int 7 0, .ref 174, .bool true, .int 318 0, .ref 175, .none, .ref 176, .ref 177, .ref 178, .int 546 0, .int 70 0, .str "/claim/cut.py" 547], #[]⟩
noncomputable def o180 (P : Params) : Obj := ⟨.type "function", none, .func ⟨"__exit__", "BytesIO.__exit__", (fP [11, 7]), (.stmts (fB [11, 7])), (fS [11, 7]), 3, [], .none, .none, .none, .str "io" 371, none, .ref 179, .none, 0⟩, #[]⟩
noncomputable def o183 (P : Params) : Obj := ⟨.type "tuple", none, .seq #[.str "self" 552] 0, #[]⟩
noncomputable def o185 (P : Params) : Obj := ⟨.none, none, .func ⟨"readable", "BytesIO.readable", (fP [11, 8]), (.stmts (fB [11, 8])), (fS [11, 8]), 0, [], .none, .none, .none, .none, none, .none, .none, 0⟩, #[]⟩
noncomputable def o186 (P : Params) : Obj := ⟨.type "code", none, .fields #[.str "readable" 549, .str "BytesIO.readable" 550, .str "/claim/cut.py" 551, .int 73 0, .int 1 0, .int 0 0, .int 0 0, .int 3 0, .ref 181, .bool true, .int 318 0, .ref 182, .none, .ref 183, .ref 184, .ref 185, .int 553 0, .int 73 0, .str "/claim/cut.py" 554], #[]⟩
noncomputable def o187 (P : Params) : Obj := ⟨.type "function", none, .func ⟨"readable", "BytesIO.readable", (fP [11, 8]), (.stmts (fB [11, 8])), (fS [11, 8]), 3, [], .none, .none, .none, .str "io" 371, none, .ref 186, .none, 0⟩, #[]⟩
noncomputable def o190 (P : Params) : Obj := ⟨.type "tuple", none, .seq #[.str "self" 559] 0, #[]⟩
noncomputable def o192 (P : Params) : Obj := ⟨.none, none, .func ⟨"writable", "BytesIO.writable", (fP [11, 9]), (.stmts (fB [11, 9])), (fS [11, 9]), 0, [], .none, .none, .none, .none, none, .none, .none, 0⟩, #[]⟩
noncomputable def o193 (P : Params) : Obj := ⟨.type "code", none, .fields #[.str "writable" 556, .str "BytesIO.writable" 557, .str "/claim/cut.py" 558, .int 77 0, .int 1 0, .int 0 0, .int 0 0, .int 3 0, .ref 188, .bool true, .int 318 0, .ref 189, .none, .ref 190, .ref 191, .ref 192, .int 560 0, .int 77 0, .str "/claim/cut.py" 561], #[]⟩
noncomputable def o194 (P : Params) : Obj := ⟨.type "function", none, .func ⟨"writable", "BytesIO.writable", (fP [11, 9]), (.stmts (fB [11, 9])), (fS [11, 9]), 3, [], .none, .none, .none, .str "io" 371, none, .ref 193, .none, 0⟩, #[]⟩
noncomputable def o197 (P : Params) : Obj := ⟨.type "tuple", none, .seq #[.str "self" 566] 0, #[]⟩
noncomputable def o199 (P : Params) : Obj := ⟨.none, none, .func ⟨"seekable", "BytesIO.seekable", (fP [11, 10]), (.stmts (fB [11, 10])), (fS [11, 10]), 0, [], .none, .none, .none, .none, none, .none, .none, 0⟩, #[]⟩
noncomputable def o200 (P : Params) : Obj := ⟨.type "code", none, .fields #[.str "seekable" 563, .str "BytesIO.seekable" 564, .str "/claim/cut.py" 565, .int 81 0, .int 1 0, .int 0 0, .int 0 0, .int 3 0, .ref 195, .bool true, .int 318 0, .ref 196, .none, .ref 197, .ref 198, .ref 199, .int 567 0, .int 81 0, .str "/claim/cut.py" 568], #[]⟩
noncomputable def o201 (P : Params) : Obj := ⟨.type "function", none, .func ⟨"seekable", "BytesIO.seekable", (fP [11, 10]), (.stmts (fB [11, 10])), (fS [11, 10]), 3, [], .none, .none, .none, .str "io" 371, none, .ref 200, .none, 0⟩, #[]⟩
noncomputable def o204 (P : Params) : Obj := ⟨.type "tuple", none, .seq #[.str "self" 573] 0, #[]⟩
noncomputable def o206 (P : Params) : Obj := ⟨.none, none, .func ⟨"isatty", "BytesIO.isatty", (fP [11, 11]), (.stmts (fB [11, 11])), (fS [11, 11]), 0, [], .none, .none, .none, .none, none, .none, .none, 0⟩, #[]⟩
noncomputable def o207 (P : Params) : Obj := ⟨.type "code", none, .fields #[.str "isatty" 570, .str "BytesIO.isatty" 571, .str "/claim/cut.py" 572, .int 85 0, .int 1 0, .int 0 0, .int 0 0, .int 3 0, .ref 202, .bool true, .int 318 0, .ref 203, .none, .ref 204, .ref 205, .ref 206, .int 574 0, .int 85 0, .str "/claim/cut.py" 575], #[]⟩
noncomputable def o208 (P : Params) : Obj := ⟨.type "function", none, .func ⟨"isatty", "BytesIO.isatty", (fP [11, 11]), (.stmts (fB [11, 11])), (fS [11, 11]), 3, [], .none, .none, .none, .str "io" 371, none, .ref 207, .none, 0⟩, #[]⟩
noncomputable def o211 (P : Params) : Obj := ⟨.type "tuple", none, .seq #[.str "self" 580] 0, #[]⟩
noncomputable def o213 (P : Params) : Obj := ⟨.none, none, .func ⟨"flush", "BytesIO.flush", (fP [11, 12]), (.stmts (fB [11, 12])), (fS [11, 12]), 0, [], .none, .none, .none, .none, none, .none, .none, 0⟩, #[]⟩
noncomputable def o214 (P : Params) : Obj := ⟨.type "code", none, .fields #[.str "flush" 577, .str "BytesIO.flush" 578, .str "/claim/cut.py" 579, .int 89 0, .int 1 0, .int 0 0, .int 0 0, .int 3 0, .ref 209, .bool true, .int 318 0, .ref 210, .none, .ref 211, .ref 212, .ref 213, .int 581 0, .int 89 0, .str "/claim/cut.py" 582], #[]⟩
noncomputable def o215 (P : Params) : Obj := ⟨.type "function", none, .func ⟨"flush", "BytesIO.flush", (fP [11, 12]), (.stmts (fB [11, 12])), (fS [11, 12]), 3, [], .none, .none, .none, .str "io" 371, none, .ref 214, .none, 0⟩, #[]⟩
noncomputable def o218 (P : Params) : Obj := ⟨.type "tuple", none, .seq #[.str "self" 587] 0, #[]⟩
noncomputable def o220 (P : Params) : Obj := ⟨.none, none, .func ⟨"fileno", "BytesIO.fileno", (fP [11, 13]), (.stmts (fB [11, 13])), (fS [11, 13]), 0, [], .none, .none, .none, .none, none, .none, .none, 0⟩, #[]⟩
noncomputable def o221 (P : Params) : Obj := ⟨.type "code", none, .fields #[.str "fileno" 584, .str "BytesIO.fileno" 585, .str "/claim/cut.py" 586, .int 92 0, .int 1 0, .int 0 0, .int 0 0, .int 3 0, .ref 216, .bool true, .int 318 0, .ref 217, .none, .ref 218, .ref 219, .ref 220, .int 588 0, .int 92 0, .str "/claim/cut.py" 589], #[]⟩
noncomputable def o222 (P : Params) : Obj := ⟨.type "function", none, .func ⟨"fileno", "BytesIO.fileno", (fP [11, 13]), (.stmts (fB [11, 13])), (fS [11, 13]), 3, [], .none, .none, .none, .str "io" 371, none, .ref 221, .none, 0⟩, #[]⟩
noncomputable def o225 (P : Params) : Obj := ⟨.type "tuple", none, .seq #[.str "self" 594] 0, #[]⟩
noncomputable def o227 (P : Params) : Obj := ⟨.none, none, .func ⟨"detach", "BytesIO.detach", (fP [11, 14]), (.stmts (fB [11, 14])), (fS [11, 14]), 0, [], .none, .none, .none, .none, none, .none, .none, 0⟩, #[]⟩
noncomputable def o228 (P : Params) : Obj := ⟨.type "code", none, .fields #[.str "detach" 591, .str "BytesIO.detach" 592, .str "/claim/cut.py" 593, .int 95 0, .int 1 0, .int 0 0, .int 0 0, .int 3 0, .ref 223, .bool true, .int 318 0, .ref 224, .none, .ref 225, .ref 226, .ref 227, .int 595 0, .int 95 0, .str "/claim/cut.py" 596], #[]⟩
noncomputable def o229 (P : Params) : Obj := ⟨.type "function", none, .func ⟨"detach", "BytesIO.detach", (fP [11, 14]), (.stmts (fB [11, 14])), (fS [11, 14]), 3, [], .none, .none, .none, .str "io" 371, none, .ref 228, .none, 0⟩, #[]⟩
noncomputable def o232 (P : Params) : Obj := ⟨.type "tuple", none, .seq #[.str "self" 601] 0, #[]⟩
noncomputable def o234 (P : Params) : Obj := ⟨.none, none, .func ⟨"getvalue", "BytesIO.getvalue", (fP [11, 15]), (.stmts (fB [11, 15])), (fS [11, 15]), 0, [], .none, .none, .none, .none, none, .none, .none, 0⟩, #[]⟩
noncomputable def o235 (P : Params) : Obj := ⟨.type "code", none, .fields #[.str "getvalue" 598, .str "BytesIO.getvalue" 599, .str "/claim/cut.py" 600, .int 98 0, .int 1 0, .int 0 0, .int 0 0, .int 3 0, .ref 230, .bool true, .int 318 0, .ref 231, .none, .ref 232, .ref 233, .ref 234, .int 602 0, .int 98 0, .str "/claim/cut.py" 603], #[]⟩
noncomputable def o236 (P : Params) : Obj := ⟨.type "function", none, .func ⟨"getvalue", "BytesIO.getvalue", (fP [11, 15]), (.stmts (fB [11, 15])), (fS [11, 15]), 3, [], .none, .none, .none, .str "io" 371, none, .ref 235, .none, 0⟩, #[]⟩
noncomputable def o239 (P : Params) : Obj := ⟨.type "tuple", none, .seq #[.str "self" 608] 0, #[]⟩
noncomputable def o241 (P : Params) : Obj := ⟨.none, none, .func ⟨"getbuffer", "BytesIO.getbuffer", (fP [11, 16]), (.stmts (fB [11, 16])), (fS [11, 16]), 0, [], .none, .none, .none, .none, none, .none, .none, 0⟩, #[]⟩
noncomputable def o242 (P : Params) : Obj := ⟨.type "code", none, .fields #[.str "getbuffer" 605, .str "BytesIO.getbuffer" 606, .str "/claim/cut.py" 607, .int 101 0, .int 1 0, .int 0 0, .int 0 0, .int 3 0, .ref 237, .bool true, .int 318 0, .ref 238, .none, .ref 239, .ref 240, .ref 241, .int 609 0, .int 101 0, .str "/claim/cut.py" 610], #[]⟩
noncomputable def o243 (P : Params) : Obj := ⟨.type "function", none, .func ⟨"getbuffer", "BytesIO.getbuffer", (fP [11, 16]), (.stmts (fB [11, 16])), (fS [11, 16]), 3, [], .none, .none, .none, .str "io" 371, none, .ref 242, .none, 0⟩, #[]⟩
noncomputable def o246 (P : Params) : Obj := ⟨.type "tuple", none, .seq #[.str "self" 615] 0, #[]⟩
noncomputable def o248 (P : Params) : Obj := ⟨.none, none, .func ⟨"tell", "BytesIO.tell", (fP [11, 17]), (.stmts (fB [11, 17])), (fS [11, 17]), 0, [], .none, .none, .none, .none, none, .none, .none, 0⟩, #[]⟩
noncomputable def o249 (P : Params) : Obj := ⟨.type "code", none, .fields #[.str "tell" 612, .str "BytesIO.tell" 613, .str "/claim/cut.py" 614, .int 104 0, .int 1 0, .int 0 0, .int 0 0, .int 3 0, .ref 244, .bool true, .int 318 0, .ref 245, .none, .ref 246, .ref 247, .ref 248, .int 616 0, .int 104 0, .str "/claim/cut.py" 617], #[]⟩
noncomputable def o250 (P : Params) : Obj := ⟨.type "function", none, .func ⟨"tell", "BytesIO.tell", (fP [11, 17]), (.stmts (fB [11, 17])), (fS [11, 17]), 3, [], .none, .none, .none, .str "io" 371, none, .ref 249, .none, 0⟩, #[]⟩
noncomputable def o251 (P : Params) : Obj := ⟨.type "tuple", none, .seq #[.int 0 619] 0, #[]⟩
noncomputable def o254 (P : Params) : Obj := ⟨.type "tuple", none, .seq #[.str "self" 623, .str "pos" 624, .str "whence" 625] 0, #[]⟩
noncomputable def o256 (P : Params) : Obj := ⟨.none, none, .func ⟨"seek", "BytesIO.seek", (fP [11, 18]), (.stmts (fB [11, 18])), (fS [11, 18]), 0, [], .none, .none, .none, .none, none, .none, .none, 0⟩, #[]⟩
noncomputable def o257 (P : Params) : Obj := ⟨.type "code", none, .fields #[.str "seek" 620, .str "BytesIO.seek" 621, .str "/claim/cut.py" 622, .int 108 0, .int 3 0, .int 3 0, .int 0 0, .int 3 0, .ref 252, .bool true, .int 318 0, .ref 253, .none, .ref 254, .ref 255, .ref 256, .int 626 0, .int 108 0, .str "/claim/cut.py" 627], #[]⟩
noncomputable def o258 (P : Params) : Obj := ⟨.type "function", none, .func ⟨"seek", "BytesIO.seek", (fP [11, 18]), (.stmts (fB [11, 18])), (fS [11, 18]), 3, [], .ref 251, .none, .none, .str "io" 371, none, .ref 257, .none, 0⟩, #[]⟩
noncomputable def o262 (P : Params) : Obj := ⟨.type "tuple", none, .seq #[.str "self" 632, .str "size" 633] 0, #[]⟩
noncomputable def o264 (P : Params) : Obj := ⟨.none, none, .func ⟨"truncate", "BytesIO.truncate", (fP [11, 19]), (.stmts (fB [11, 19])), (fS [11, 19]), 0, [], .none, .none, .none, .none, none, .none, .none, 0⟩, #[]⟩
noncomputable def o265 (P : Params) : Obj := ⟨.type "code", none, .fields #[.str "truncate" 629, .str "BytesIO.truncate" 630, .str "/claim/cut.py" 631, .int 125 0, .int 2 0, .int 2 0, .int 0 0, .int 3 0, .ref 260, .bool true, .int 318 0, .ref 261, .none, .ref 262, .ref 263, .ref 264, .int 634 0, .int 125 0, .str "/claim/cut.py" 635], #[]⟩
noncomputable def o266 (P : Params) : Obj := ⟨.type "function", none, .func ⟨"truncate", "BytesIO.truncate", (fP [11, 19]), (.stmts (fB [11, 19])), (fS [11, 19]), 3, [], .ref 259, .none, .none, .str "io" 371, none, .ref 265, .none, 0⟩, #[]⟩
noncomputable def o267 (P : Params) : Obj := ⟨.type "tuple", none, .seq #[.int (-1) 638] 0, #[]⟩
noncomputable def o270 (P : Params) : Obj := ⟨.type "tuple", none, .seq #[.str "self" 642, .str "size" 643, .str "start" 644, .str "stop" 645] 0, #[]⟩
noncomputable def o272 (P : Params) : Obj := ⟨.none, none, .func ⟨"read", "BytesIO.read", (fP [11, 20]), (.stmts (fB [11, 20])), (fS [11, 20]), 0, [], .none, .none, .none, .none, none, .none, .none, 0⟩, #[]⟩
noncomputable def o273 (P : Params) : Obj := ⟨.type "code", none, .fields #[.str "read" 639, .str "BytesIO.read" 640, .str "/claim/cut.py" 641, .int 128 0, .int 2 0, .int 2 0, .int 0 0, .int 3 0, .ref 268, .bool true, .int 318 0, .ref 269, .none, .ref 270, .ref 271, .ref 272, .int 646 0, .int 128 0, .str "/claim/cut.py" 647], #[]⟩
noncomputable def o274 (P : Params) : Obj := ⟨.type "function", none, .func ⟨"read", "BytesIO.read", (fP [11, 20]), (.stmts (fB [11, 20])), (fS [11, 20]), 3, [], .ref 267, .none, .none, .str "io" 371, none, .ref 273, .none, 0⟩, #[]⟩
noncomputable def o275 (P : Params) : Obj := ⟨.type "tuple", none, .seq #[.int (-1) 650] 0, #[]⟩
noncomputable def o278 (P : Params) : Obj := ⟨.type "tuple", none, .seq #[.str "self" 654, .str "size" 655] 0, #[]⟩
noncomputable def o280 (P : Params) : Obj := ⟨.none, none, .func ⟨"read1", "BytesIO.read1", (fP [11, 21]), (.stmts (fB [11, 21])), (fS [11, 21]), 0, [], .none, .none, .none, .none, none, .none, .none, 0⟩, #[]⟩
noncomputable def o281 (P : Params) : Obj := ⟨.type "code", none, .fields #[.str "read1" 651, .str "BytesIO.read1" 652, .str "/claim/cut.py" 653, .int 142 0, .int 2 0, .int 2 0, .int 0 0, .int 3 0, .ref 276, .bool true, .int 318 0, .ref 277, .none, .ref 278, .ref 279, .ref 280, .int 656 0, .int 142 0, .str "/claim/cut.py" 657], #[]⟩
noncomputable def o282 (P : Params) : Obj := ⟨.type "function", none, .func ⟨"read1", "BytesIO.read1", (fP [11, 21]), (.stmts (fB [11, 21])), (fS [11, 21]), 3, [], .ref 275, .none, .none, .str "io" 371, none, .ref 281, .none, 0⟩, #[]⟩
noncomputable def o285 (P : Params) : Obj := ⟨.type "tuple", none, .seq #[.str "self" 662, .str "buffer" 663, .str "start" 664, .str "n" 665] 0, #[]⟩
noncomputable def o287 (P : Params) : Obj := ⟨.none, none, .func ⟨"readinto", "BytesIO.readinto", (fP [11, 22]), (.stmts (fB [11, 22])), (fS [11, 22]), 0, [], .none, .none, .none, .none, none, .none, .none, 0⟩, #[]⟩
noncomputable def o288 (P : Params) : Obj := ⟨.type "code", none, .fields #[.str "readinto" 659, .str "BytesIO.readinto" 660, .str "/claim/cut.py" 661, .int 145 0, .int 2 0, .int 2 0, .int 0 0, .int 3 0, .ref 283, .bool true, .int 318 0, .ref 284, .none, .ref 285, .ref 286, .ref 287, .int 666 0, .int 145 0, .str "/claim/cut.py" 667], #[]⟩
noncomputable def o289 (P : Params) : Obj := ⟨.type "function", none, .func ⟨"readinto", "BytesIO.readinto", (fP [11, 22]), (.stmts (fB [11, 22])), (fS [11, 22]), 3, [], .none, .none, .none, .str "io" 371, none, .ref 288, .none, 0⟩, #[]⟩
noncomputable def o292 (P : Params) : Obj := ⟨.type "tuple", none, .seq #[.str "self" 672, .str "buffer" 673] 0, #[]⟩
noncomputable def o294 (P : Params) : Obj := ⟨.none, none, .func ⟨"readinto1", "BytesIO.readinto1", (fP [11, 23]), (.stmts (fB [11, 23])), (fS [11, 23]), 0, [], .none, .none, .none, .none, none, .none, .none, 0⟩, #[]⟩
noncomputable def o295 (P : Params) : Obj := ⟨.type "code", none, .fields #[.str "readinto1" 669, .str "BytesIO.readinto1" 670, .str "/claim/cut.py" 671, .int 159 0, .int 2 0, .int 2 0, .int 0 0, .int 3 0, .ref 290, .bool true, .int 318 0, .ref 291, .none, .ref 292, .ref 293, .ref 294, .int 674 0, .int 159 0, .str "/claim/cut.py" 675], #[]⟩
noncomputable def o296 (P : Params) : Obj := ⟨.type "function", none, .func ⟨"readinto1", "BytesIO.readinto1", (fP [11, 23]), (.stmts (fB [11, 23])), (fS [11, 23]), 3, [], .none, .none, .none, .str "io" 371, none, .ref 295, .none, 0⟩, #[]⟩
noncomputable def o297 (P : Params) : Obj := ⟨.type "tuple", none, .seq #[.int (-1) 678] 0, #[]⟩
noncomputable def o300 (P : Params) : Obj := ⟨.type "tuple", none, .seq #[.str "self" 682, .str "size" 683] 0, #[]⟩
noncomputable def o302 (P : Params) : Obj := ⟨.none, none, .func ⟨"readline", "BytesIO.readline", (fP [11, 24]), (.stmts (fB [11, 24])), (fS [11, 24]), 0, [], .none, .none, .none, .none, none, .none, .none, 0⟩, #[]⟩
noncomputable def o303 (P : Params) : Obj := ⟨.type "code", none, .fields #[.str "readline" 679, .str "BytesIO.readline" 680, .str "/claim/cut.py" 681, .int 162 0, .int 2 0, .int 2 0, .int 0 0, .int 3 0, .ref 298, .bool true, .int 318 0, .ref 299, .none, .ref 300, .ref 301, .ref 302, .int 684 0, .int 162 0, .str "/claim/cut.py" 685], #[]⟩
noncomputable def o304 (P : Params) : Obj := ⟨.type "function", none, .func ⟨"readline", "BytesIO.readline", (fP [11, 24]), (.stmts (fB [11, 24])), (fS [11, 24]), 3, [], .ref 297, .none, .none, .str "io" 371, none, .ref 303, .none, 0⟩, #[]⟩
noncomputable def o308 (P : Params) : Obj := ⟨.type "tuple", none, .seq #[.str "self" 690, .str "size" 691] 0, #[]⟩
noncomputable def o310 (P : Params) : Obj := ⟨.none, none, .func ⟨"readlines", "BytesIO.readlines", (fP [11, 25]), (.stmts (fB [11, 25])), (fS [11, 25]), 0, [], .none, .none, .none, .none, none, .none, .none, 0⟩, #[]⟩
noncomputable def o311 (P : Params) : Obj := ⟨.type "code", none, .fields #[.str "readlines" 687, .str "BytesIO.readlines" 688, .str "/claim/cut.py" 689, .int 169 0, .int 2 0, .int 2 0, .int 0 0, .int 3 0, .ref 306, .bool true, .int 318 0, .ref 307, .none, .ref 308, .ref 309, .ref 310, .int 692 0, .int 169 0, .str "/claim/cut.py" 693], #[]⟩
noncomputable def o312 (P : Params) : Obj := ⟨.type "function", none, .func ⟨"readlines", "BytesIO.readlines", (fP [11, 25]), (.stmts (fB [11, 25])), (fS [11, 25]), 3, [], .ref 305, .none, .none, .str "io" 371, none, .ref 311, .none, 0⟩, #[]⟩
noncomputable def o315 (P : Params) : Obj := ⟨.type "tuple", none, .seq #[.str "self" 698] 0, #[]⟩
noncomputable def o317 (P : Params) : Obj := ⟨.none, none, .func ⟨"__iter__", "BytesIO.__iter__", (fP [11, 26]), (.stmts (fB [11, 26])), (fS [11, 26]), 0, [], .none, .none, .none, .none, none, .none, .none, 0⟩, #[]⟩
noncomputable def o318 (P : Params) : Obj := ⟨.type "code", none, .fields #[.str "__iter__" 695, .str "BytesIO.__iter__" 696, .str "/claim/cut.py" 697, .int 172 0, .int 1 0, .int 0 0, .int 0 0, .int 3 0, .ref 313, .bool true, .int 318 0, .ref 314, .none, .ref 315, .ref 316, .ref 317, .int 699 0, .int 172 0, .str "/claim/cut.py" 700], #[]⟩
noncomputable def o319 (P : Params) : Obj := ⟨.type "function", none, .func ⟨"__iter__", "BytesIO.__iter__", (fP [11, 26]), (.stmts (fB [11, 26])), (fS [11, 26]), 3, [], .none, .none, .none, .str "io" 371, none, .ref 318, .none, 0⟩, #[]⟩
noncomputable def o322 (P : Params) : Obj := ⟨.type "tuple", none, .seq #[.str "self" 705, .str "line" 706] 0, #[]⟩
noncomputable def o324 (P : Params) : Obj := ⟨.none, none, .func ⟨"__next__", "BytesIO.__next__", (fP [11, 27]), (.stmts (fB [11, 27])), (fS [11, 27]), 0, [], .none, .none, .none, .none, none, .none, .none, 0⟩, #[]⟩
noncomputable def o325 (P : Params) : Obj := ⟨.type "code", none, .fields #[.str "__next__" 702, .str "BytesIO.__next__" 703, .str "/claim/cut.py" 704, .int 175 0, .int 1 0, .int 0 0, .int 0 0, .int 3 0, .ref 320, .bool true, .int 318 0, .ref 321, .none, .ref 322, .ref 323, .ref 324, .int 707 0, .int 175 0, .str "/claim/cut.py" 708], #[]⟩
noncomputable def o326 (P : Params) : Obj := ⟨.type "function", none, .func ⟨"__next__", "BytesIO.__next__", (fP [11, 27]), (.stmts (fB [11, 27])), (fS [11, 27]), 3, [], .none, .none, .none, .str "io" 371, none, .ref 325, .none, 0⟩, #[]⟩
noncomputable def o329 (P : Params) : Obj := ⟨.type "tuple", none, .seq #[.str "self" 713, .str "b" 714, .str "n" 715, .str "start" 716] 0, #[]⟩
noncomputable def o331 (P : Params) : Obj := ⟨.none, none, .func ⟨"write", "BytesIO.write", (fP [11, 28]), (.stmts (fB [11, 28])), (fS [11, 28]), 0, [], .none, .none, .none, .none, none, .none, .none, 0⟩, #[]⟩
noncomputable def o332 (P : Params) : Obj := ⟨.type "code", none, .fields #[.str "write" 710, .str "BytesIO.write" 711, .str "/claim/cut.py" 712, .int 182 0, .int 2 0, .int 2 0, .int 0 0, .int 3 0, .ref 327, .bool true, .int 318 0, .ref 328, .none, .ref 329, .ref 330, .ref 331, .int 717 0, .int 182 0, .str "/claim/cut.py" 718], #[]⟩
noncomputable def o333 (P : Params) : Obj := ⟨.type "function", none, .func ⟨"write", "BytesIO.write", (fP [11, 28]), (.stmts (fB [11, 28])), (fS [11, 28]), 3, [], .none, .none, .none, .str "io" 371, none, .ref 332, .none, 0⟩, #[]⟩
noncomputable def o336 (P : Params) : Obj := ⟨.type "tuple", none, .seq #[.str "self" 723, .str "lines" 724] 0, #[]⟩
noncomputable def o338 (P : Params) : Obj := ⟨.none, none, .func ⟨"writelines", "BytesIO.writelines", (fP [11, 29]), (.stmts (fB [11, 29])), (fS [11, 29]), 0, [], .none, .none, .none, .none, none, .none, .none, 0⟩, #[]⟩
noncomputable def o339 (P : Params) : Obj := ⟨.type "code", none, .fields #[.str "writelines" 720, .str "BytesIO.writelines" 721, .str "/claim/cut.py" 722, .int 198 0, .int 2 0, .int 2 0, .int 0 0, .int 3 0, .ref 334, .bool true, .int 318 0, .ref 335, .none, .ref 336, .ref 337, .ref 338, .int 725 0, .int 198 0, .str "/claim/cut.py" 726], #[]⟩
noncomputable def o340 (P : Params) : Obj := ⟨.type "function", none, .func ⟨"writelines", "BytesIO.writelines", (fP [11, 29]), (.stmts (fB [11, 29])), (fS [11, 29]), 3, [], .none, .none, .none, .str "io" 371, none, .ref 339, .none, 0⟩, #[]⟩
noncomputable def o343 (P : Params) : Obj := ⟨.type "tuple", none, .seq #[.str "self" 731] 0, #[]⟩
noncomputable def o345 (P : Params) : Obj := ⟨.none, none, .func ⟨"__repr__", "BytesIO.__repr__", (fP [11, 30]), (.stmts (fB [11, 30])), (fS [11, 30]), 0, [], .none, .none, .none, .none, none, .none, .none, 0⟩, #[]⟩
noncomputable def o346 (P : Params) : Obj := ⟨.type "code", none, .fields #[.str "__repr__" 728, .str "BytesIO.__repr__" 729, .str "/claim/cut.py" 730, .int 201 0, .int 1 0, .int 0 0, .int 0 0, .int 3 0, .ref 341, .bool true, .int 318 0, .ref 342, .none, .ref 343, .ref 344, .ref 345, .int 732 0, .int 201 0, .str "/claim/cut.py" 733], #[]⟩
noncomputable def o347 (P : Params) : Obj := ⟨.type "function", none, .func ⟨"__repr__", "BytesIO.__repr__", (fP [11, 30]), (.stmts (fB [11, 30])), (fS [11, 30]), 3, [], .none, .none, .none, .str "io" 371, none, .ref 346, .none, 0⟩, #[]⟩
noncomputable def o348 (P : Params) : Obj := ⟨.type "tuple", none, .seq #[.str "__buf" 735, .str "__pos" 736] 0, #[]⟩
noncomputable def o349 (P : Params) : Obj := ⟨.type "dict", none, .dict #[en P "__module__" 486 (.str "_io" 491), en P "__firstlineno__" 490 (.int 33 489), en P "__init__" 500 (.ref 137), en P "_BytesIO__check" 507 (.ref 144), en P "_BytesIO__line" 518 (.ref 151), en P "closed" 526 (.ref 159), en P "close" 533 (.ref 166), en P "__enter__" 540 (.ref 173), en P "__exit__" 548 (.ref 180), en P "readable" 555 (.ref 187), en P "writable" 562 (.ref 194), en P "seekable" 569 (.ref 201), en P "isatty" 576 (.ref 208), en P "flush" 583 (.ref 215), en P "fileno" 590 (.ref 222), en P "detach" 597 (.ref 229), en P "getvalue" 604 (.ref 236), en P "getbuffer" 611 (.ref 243), en P "tell" 618 (.ref 250), en P "seek" 628 (.ref 258), en P "truncate" 636 (.ref 266), en P "read" 648 (.ref 274), en P "read1" 658 (.ref 282), en P "readinto" 668 (.ref 289), en P "readinto1" 676 (.ref 296), en P "readline" 686 (.ref 304), en P "readlines" 694 (.ref 312), en P "__iter__" 701 (.ref 319), en P "__next__" 709 (.ref 326), en P "write" 719 (.ref 333), en P "writelines" 727 (.ref 340), en P "__repr__" 734 (.ref 347), en P "__static_attributes__" 737 (.ref 348), en P "__doc__" 738 (.none)] 2, #[]⟩
noncomputable def o350 (P : Params) : Obj := ⟨.type "type", none, .cls ⟨"BytesIO", [.ref 108], [.ref 350, .ref 108, .ref 93, .type "object"], 349, "BytesIO", true, [], [], false, none, false⟩, #[(some (.ref 123)), none, (some (.str "BytesIO" 479)), (some (.str "BytesIO" 487)), (some (.none)), (some (.bool true))]⟩
noncomputable def o351 (P : Params) : Obj := ⟨.type "super", none, .fields #[.ref 350, .ref 350, .ref 350], #[]⟩
noncomputable def o352 (P : Params) : Obj := ⟨.type "builtin_function_or_method", none, .fields #[.builtin "object.__init_subclass__", .ref 350], #[]⟩
noncomputable def o3v580 (P : Params) : Obj := ⟨.type "dict", none, .dict #[en P "__name__" 165 (.str "io" 371), en P "__doc__" 166 (.none), en P "__package__" 167 (.none), en P "__loader__" 168 (.builtin "__main__.__loader__#opaque"), en P "__spec__" 169 (.none), en P "__annotations__" 170 (.ref 6), en P "__builtins__" 171 (.ref 4), en P "__file__" 173 (.str "/claim/cut.py" 172), en P "__cached__" 174 (.none), en P "_sre" 275 (.ref 12), en P "deque" 317 (.type "collections.deque"), en P "_wall" 330 (.ref 44), en P "_twin_re_1" 370 (.ref 49), en P "_whence" 380 (.ref 56), en P "_index" 388 (.ref 63), en P "UnsupportedOperation" 410 (.ref 73), en P "IOBase" 442 (.ref 93), en P "BufferedIOBase" 460 (.ref 108), en P "TextIOBase" 478 (.ref 120), en P "BytesIO" 740 (.ref 350), en P "StringIO" 1027 (.ref 597)] 21, #[]⟩
noncomputable def o35v581 (P : Params) : Obj := ⟨.none, none, .fields #[.int 3 0, .int 0 0, .ref 43, .int 8 0, .int 0 0, .ref 55, .int 13 0, .int 0 0, .ref 62, .int 20 0, .int 0 0, .ref 69, .int 22 0, .int 0 0, .ref 82, .int 29 0, .int 0 0, .ref 104, .int 31 0, .int 0 0, .ref 116, .int 33 0, .int 0 0, .ref 128, .int 203 0, .int 0 0, .ref 358], #[]⟩
noncomputable def o120 (P : Params) : Obj := ⟨.type "type", none, .cls ⟨"TextIOBase", [.ref 93], [.ref 120, .ref 93, .type "object"], 119, "TextIOBase", true, [], [.ref 597], false, none, false⟩, #[(some (.ref 111)), none, (some (.str "TextIOBase" 461)), (some (.str "TextIOBase" 469)), (some (.none)), (some (.bool true))]⟩
noncomputable def o353 (P : Params) : Obj := ⟨.type "tuple", none, .seq #[.ref 120] 0, #[]⟩
noncomputable def o355 (P : Params) : Obj := ⟨.type "dict", none, .dict #[en P "__module__" 748 (.str "_io" 753), en P "__qualname__" 750 (.str "StringIO" 749), en P "__firstlineno__" 752 (.int 203 751), en P "__init__" 765 (.ref 367), en P "_StringIO__translated" 774 (.ref 374), en P "_StringIO__check" 781 (.ref 381), en P "_StringIO__check_dot" 788 (.ref 388), en P "_StringIO__line" 803 (.ref 395), en P "closed" 811 (.ref 403), en P "line_buffering" 819 (.ref 411), en P "newlines" 827 (.ref 419), en P "encoding" 835 (.ref 427), en P "errors" 843 (.ref 435), en P "close" 850 (.ref 442), en P "__enter__" 857 (.ref 449), en P "__exit__" 865 (.ref 456), en P "readable" 872 (.ref 463), en P "writable" 879 (.ref 470), en P "seekable" 886 (.ref 477), en P "isatty" 893 (.ref 484), en P "flush" 900 (.ref 491), en P "fileno" 907 (.ref 498), en P "detach" 914 (.ref 505), en P "getvalue" 921 (.ref 512), en P "tell" 928 (.ref 519), en P "seek" 938 (.ref 527), en P "truncate" 946 (.ref 535), en P "read" 958 (.ref 543), en P "readline" 968 (.ref 551), en P "readlines" 978 (.ref 559), en P "__iter__" 985 (.ref 566), en P "__next__" 993 (.ref 573), en P "write" 1005 (.ref 580), en P "writelines" 1013 (.ref 587), en P "__repr__" 1020 (.ref 594), en P "__static_attributes__" 1024 (.ref 595)] 36, #[]⟩
noncomputable def o357 (P : Params) : Obj := ⟨.none, none, .fields #[.int 206 0, .int 4 0, .ref 366, .int 219 0, .int 4 0, .ref 373, .int 227 0, .int 4 0, .ref 380, .int 231 0, .int 4 0, .ref 387, .int 235 0, .int 4 0, .ref 394, .int 268 0, .int 4 0, .ref 401, .int 272 0, .int 4 0, .ref 409, .int 276 0, .int 4 0, .ref 417, .int 280 0, .int 4 0, .ref 425, .int 284 0, .int 4 0, .ref 433, .int 287 0, .int 4 0, .ref 441, .int 290 0, .int 4 0, .ref 448, .int 294 0, .int 4 0, .ref 455, .int 297 0, .int 4 0, .ref 462, .int 301 0, .int 4 0, .ref 469, .int 305 0, .int 4 0, .ref 476, .int 309 0, .int 4 0, .ref 483, .int 313 0, .int 4 0, .ref 490, .int 316 0, .int 4 0, .ref 497, .int 319 0, .int 4 0, .ref 504, .int 322 0, .int 4 0, .ref 511, .int 325 0, .int 4 0, .ref 518, .int 329 0, .int 4 0, .ref 526, .int 346 0, .int 4 0, .ref 534, .int 349 0, .int 4 0, .ref 542, .int 363 0, .int 4 0, .ref 550, .int 370 0, .int 4 0, .ref 558, .int 373 0, .int 4 0, .ref 565, .int 377 0, .int 4 0, .ref 572, .int 384 0, .int 4 0, .ref 579, .int 403 0, .int 4 0, .ref 586, .int 406 0, .int 4 0, .ref 593], #[]⟩
noncomputable def o358 (P : Params) : Obj := ⟨.type "code", none, .fields #[.str "StringIO" 743, .str "StringIO" 744, .str "/claim/cut.py" 745, .int 203 0, .int 0 0, .int 0 0, .int 0 0, .int 0 0, .ref 356, .bool false, .int 318 0, .ref 357, .none, .none, .none, .none, .int 746 0, .int 203 0, .str "/claim/cut.py" 747], #[]⟩
noncomputable def o359 (P : Params) : Obj := ⟨.type "frame", none, .plain, #[(some (.ref 358)), (some (.ref 3)), (some (.ref 355)), none, (some (.str "io" 371)), none, (some (.ref 0))]⟩
noncomputable def o360 (P : Params) : Obj := ⟨.type "tuple", none, .seq #[.str "" 755, .str "\n" 756] 0, #[]⟩
noncomputable def o363 (P : Params) : Obj := ⟨.type "tuple", none, .seq #[.str "self" 760, .str "initial_value" 761, .str "newline" 762] 0, #[]⟩
noncomputable def o365 (P : Params) : Obj := ⟨.none, none, .func ⟨"__init__", "StringIO.__init__", p_sinit, (.stmts b_sinit), s_sinit, 0, [], .none, .none, .none, .none, none, .none, .none, 0⟩, #[]⟩
noncomputable def o366 (P : Params) : Obj := ⟨.type "code", none, .fields #[.str "__init__" 757, .str "StringIO.__init__" 758, .str "/claim/cut.py" 759, .int 206 0, .int 3 0, .int 0 0, .int 0 0, .int 3 0, .ref 361, .bool true, .int 318 0, .ref 362, .none, .ref 363, .ref 364, .ref 365, .int 763 0, .int 206 0, .str "/claim/cut.py" 764], #[]⟩
noncomputable def o367 (P : Params) : Obj := ⟨.type "function", none, .func ⟨"__init__", "StringIO.__init__", p_sinit, (.stmts b_sinit), s_sinit, 3, [], .ref 360, .none, .none, .str "io" 371, none, .ref 366, .none, 0⟩, #[]⟩
noncomputable def o370 (P : Params) : Obj := ⟨.type "tuple", none, .seq #[.str "self" 769, .str "s" 770, .str "newline" 771] 0, #[]⟩
noncomputable def o372 (P : Params) : Obj := ⟨.none, none, .func ⟨"__translated", "StringIO.__translated", p_trans, (.stmts b_trans), s_trans, 0, [], .none, .none, .none, .none, none, .none, .none, 0⟩, #[]⟩
noncomputable def o373 (P : Params) : Obj := ⟨.type "code", none, .fields #[.str "__translated" 766, .str "StringIO.__translated" 767, .str "/claim/cut.py" 768, .int 219 0, .int 2 0, .int 0 0, .int 0 0, .int 3 0, .ref 368, .bool true, .int 318 0, .ref 369, .none, .ref 370, .ref 371, .ref 372, .int 772 0, .int 219 0, .str "/claim/cut.py" 773], #[]⟩
noncomputable def o374 (P : Params) : Obj := ⟨.type "function", none, .func ⟨"__translated", "StringIO.__translated", p_trans, (.stmts b_trans), s_trans, 3, [], .none, .none, .none, .str "io" 371, none, .ref 373, .none, 0⟩, #[]⟩
noncomputable def o377 (P : Params) : Obj := ⟨.type "tuple", none, .seq #[.str "self" 778] 0, #[]⟩
noncomputable def o379 (P : Params) : Obj := ⟨.none, none, .func ⟨"__check", "StringIO.__check", p_check, (.stmts b_check), s_check, 0, [], .none, .none, .none, .none, none, .none, .none, 0⟩, #[]⟩
noncomputable def o380 (P : Params) : Obj := ⟨.type "code", none, .fields #[.str "__check" 775, .str "StringIO.__check" 776, .str "/claim/cut.py" 777, .int 227 0, .int 1 0, .int 0 0, .int 0 0, .int 3 0, .ref 375, .bool true, .int 318 0, .ref 376, .none, .ref 377, .ref 378, .ref 379, .int 779 0, .int 227 0, .str "/claim/cut.py" 780], #[]⟩
noncomputable def o381 (P : Params) : Obj := ⟨.type "function", none, .func ⟨"__check", "StringIO.__check", p_check, (.stmts b_check), s_check, 3, [], .none, .none, .none, .str "io" 371, none, .ref 380, .none, 0⟩, #[]⟩
noncomputable def o384 (P : Params) : Obj := ⟨.type "tuple", none, .seq #[.str "self" 785] 0, #[]⟩
noncomputable def o386 (P : Params) : Obj := ⟨.none, none, .func ⟨"__check_dot", "StringIO.__check_dot", (fP [12, 4]), (.stmts (fB [12, 4])), (fS [12, 4]), 0, [], .none, .none, .none, .none, none, .none, .none, 0⟩, #[]⟩
noncomputable def o387 (P : Params) : Obj := ⟨.type "code", none, .fields #[.str "__check_dot" 782, .str "StringIO.__check_dot" 783, .str "/claim/cut.py" 784, .int 231 0, .int 1 0, .int 0 0, .int 0 0, .int 3 0, .ref 382, .bool true, .int 318 0, .ref 383, .none, .ref 384, .ref 385, .ref 386, .int 786 0, .int 231 0, .str "/claim/cut.py" 787], #[]⟩
noncomputable def o388 (P : Params) : Obj := ⟨.type "function", none, .func ⟨"__check_dot", "StringIO.__check_dot", (fP [12, 4]), (.stmts (fB [12, 4])), (fS [12, 4]), 3, [], .none, .none, .none, .str "io" 371, none, .ref 387, .none, 0⟩, #[]⟩
noncomputable def o391 (P : Params) : Obj := ⟨.type "tuple", none, .seq #[.str "self" 792, .str "limit" 793, .str "start" 794, .str "stop" 795, .str "cut" 796, .str "newline" 797, .str "i" 798, .str "j" 799, .str "end" 800] 0, #[]⟩
noncomputable def o393 (P : Params) : Obj := ⟨.none, none, .func ⟨"__line", "StringIO.__line", (fP [12, 5]), (.stmts (fB [12, 5])), (fS [12, 5]), 0, [], .none, .none, .none, .none, none, .none, .none, 0⟩, #[]⟩
noncomputable def o394 (P : Params) : Obj := ⟨.type "code", none, .fields #[.str "__line" 789, .str "StringIO.__line" 790, .str "/claim/cut.py" 791, .int 235 0, .int 2 0, .int 0 0, .int 0 0, .int 3 0, .ref 389, .bool true, .int 318 0, .ref 390, .none, .ref 391, .ref 392, .ref 393, .int 801 0, .int 235 0, .str "/claim/cut.py" 802], #[]⟩
noncomputable def o395 (P : Params) : Obj := ⟨.type "function", none, .func ⟨"__line", "StringIO.__line", (fP [12, 5]), (.stmts (fB [12, 5])), (fS [12, 5]), 3, [], .none, .none, .none, .str "io" 371, none, .ref 394, .none, 0⟩, #[]⟩
noncomputable def o398 (P : Params) : Obj := ⟨.type "tuple", none, .seq #[.str "self" 807] 0, #[]⟩
noncomputable def o400 (P : Params) : Obj := ⟨.none, none, .func ⟨"closed", "StringIO.closed", (fP [12, 6]), (.stmts (fB [12, 6])), (fS [12, 6]), 0, [], .none, .none, .none, .none, none, .none, .none, 0⟩, #[]⟩
noncomputable def o401 (P : Params) : Obj := ⟨.type "code", none, .fields #[.str "closed" 804, .str "StringIO.closed" 805, .str "/claim/cut.py" 806, .int 267 0, .int 1 0, .int 0 0, .int 0 0, .int 3 0, .ref 396, .bool true, .int 318 0, .ref 397, .none, .ref 398, .ref 399, .ref 400, .int 808 0, .int 267 0, .str "/claim/cut.py" 809], #[]⟩
noncomputable def o402 (P : Params) : Obj := ⟨.type "function", none, .func ⟨"closed", "StringIO.closed", (fP [12, 6]), (.stmts (fB [12, 6])), (fS [12, 6]), 3, [], .none, .none, .none, .str "io" 371, none, .ref 401, .none, 0⟩, #[]⟩
noncomputable def o403 (P : Params) : Obj := ⟨.type "property", none, .fields #[.ref 402, .none, .none, .none, .str "closed" 811, .bool false], #[]⟩
noncomputable def o406 (P : Params) : Obj := ⟨.type "tuple", none, .seq #[.str "self" 815] 0, #[]⟩
noncomputable def o408 (P : Params) : Obj := ⟨.none, none, .func ⟨"line_buffering", "StringIO.line_buffering", (fP [12, 7]), (.stmts (fB [12, 7])), (fS [12, 7]), 0, [], .none, .none, .none, .none, none, .none, .none, 0⟩, #[]⟩
noncomputable def o409 (P : Params) : Obj := ⟨.type "code", none, .fields #[.str "line_buffering" 812, .str "StringIO.line_buffering" 813, .str "/claim/cut.py" 814, .int 271 0, .int 1 0, .int 0 0, .int 0 0, .int 3 0, .ref 404, .bool true, .int 318 0, .ref 405, .none, .ref 406, .ref 407, .ref 408, .int 816 0, .int 271 0, .str "/claim/cut.py" 817], #[]⟩
noncomputable def o410 (P : Params) : Obj := ⟨.type "function", none, .func ⟨"line_buffering", "StringIO.line_buffering", (fP [12, 7]), (.stmts (fB [12, 7])), (fS [12, 7]), 3, [], .none, .none, .none, .str "io" 371, none, .ref 409, .none, 0⟩, #[]⟩
noncomputable def o411 (P : Params) : Obj := ⟨.type "property", none, .fields #[.ref 410, .none, .none, .none, .str "line_buffering" 819, .bool false], #[]⟩
noncomputable def o414 (P : Params) : Obj := ⟨.type "tuple", none, .seq #[.str "self" 823] 0, #[]⟩
noncomputable def o416 (P : Params) : Obj := ⟨.none, none, .func ⟨"newlines", "StringIO.newlines", (fP [12, 8]), (.stmts (fB [12, 8])), (fS [12, 8]), 0, [], .none, .none, .none, .none, none, .none, .none, 0⟩, #[]⟩
noncomputable def o417 (P : Params) : Obj := ⟨.type "code", none, .fields #[.str "newlines" 820, .str "StringIO.newlines" 821, .str "/claim/cut.py" 822, .int 275 0, .int 1 0, .int 0 0, .int 0 0, .int 3 0, .ref 412, .bool true, .int 318 0, .ref 413, .none, .ref 414, .ref 415, .ref 416, .int 824 0, .int 275 0, .str "/claim/cut.py" 825], #[]⟩
noncomputable def o418 (P : Params) : Obj := ⟨.type "function", none, .func ⟨"newlines", "StringIO.newlines", (fP [12, 8]), (.stmts (fB [12, 8])), (fS [12, 8]), 3, [], .none, .none, .none, .str "io" 371, none, .ref 417, .none, 0⟩, #[]⟩
noncomputable def o419 (P : Params) : Obj := ⟨.type "property", none, .fields #[.ref 418, .none, .none, .none, .str "newlines" 827, .bool false], #[]⟩
noncomputable def o422 (P : Params) : Obj := ⟨.type "tuple", none, .seq #[.str "self" 831] 0, #[]⟩
noncomputable def o424 (P : Params) : Obj := ⟨.none, none, .func ⟨"encoding", "StringIO.encoding", (fP [12, 9]), (.stmts (fB [12, 9])), (fS [12, 9]), 0, [], .none, .none, .none, .none, none, .none, .none, 0⟩, #[]⟩
noncomputable def o425 (P : Params) : Obj := ⟨.type "code", none, .fields #[.str "encoding" 828, .str "StringIO.encoding" 829, .str "/claim/cut.py" 830, .int 279 0, .int 1 0, .int 0 0, .int 0 0, .int 3 0, .ref 420, .bool true, .int 318 0, .ref 421, .none, .ref 422, .ref 423, .ref 424, .int 832 0, .int 279 0, .str "/claim/cut.py" 833], #[]⟩
noncomputable def o426 (P : Params) : Obj := ⟨.type "function", none, .func ⟨"encoding", "StringIO.encoding", (fP [12, 9]), (.stmts (fB [12, 9])), (fS [12, 9]), 3, [], .none, .none, .none, .str "io" 371, none, .ref 425, .none, 0⟩, #[]⟩
noncomputable def o427 (P : Params) : Obj := ⟨.type "property", none, .fields #[.ref 426, .none, .none, .none, .str "encoding" 835, .bool false], #[]⟩
noncomputable def o430 (P : Params) : Obj := ⟨.type "tuple", none, .seq #[.str "self" 839] 0, #[]⟩
noncomputable def o432 (P : Params) : Obj := ⟨.none, none, .func ⟨"errors", "StringIO.errors", (fP [12, 10]), (.stmts (fB [12, 10])), (fS [12, 10]), 0, [], .none, .none, .none, .none, none, .none, .none, 0⟩, #[]⟩
noncomputable def o433 (P : Params) : Obj := ⟨.type "code", none, .fields #[.str "errors" 836, .str "StringIO.errors" 837, .str "/claim/cut.py" 838, .int 283 0, .int 1 0, .int 0 0, .int 0 0, .int 3 0, .ref 428, .bool true, .int 318 0, .ref 429, .none, .ref 430, .ref 431, .ref 432, .int 840 0, .int 283 0, .str "/claim/cut.py" 841], #[]⟩
noncomputable def o434 (P : Params) : Obj := ⟨.type "function", none, .func ⟨"errors", "StringIO.errors", (fP [12, 10]), (.stmts (fB [12, 10])), (fS [12, 10]), 3, [], .none, .none, .none, .str "io" 371, none, .ref 433, .none, 0⟩, #[]⟩
noncomputable def o435 (P : Params) : Obj := ⟨.type "property", none, .fields #[.ref 434, .none, .none, .none, .str "errors" 843, .bool false], #[]⟩
noncomputable def o438 (P : Params) : Obj := ⟨.type "tuple", none, .seq #[.str "self" 847] 0, #[]⟩
noncomputable def o440 (P : Params) : Obj := ⟨.none, none, .func ⟨"close", "StringIO.close", (fP [12, 11]), (.stmts (fB [12, 11])), (fS [12, 11]), 0, [], .none, .none, .none, .none, none, .none, .none, 0⟩, #[]⟩
noncomputable def o441 (P : Params) : Obj := ⟨.type "code", none, .fields #[.str "close" 844, .str "StringIO.close" 845, .str "/claim/cut.py" 846, .int 287 0, .int 1 0, .int 0 0, .int 0 0, .int 3 0, .ref 436, .bool true, .int 318 0, .ref 437, .none, .ref 438, .ref 439, .ref 440, .int 848 0, .int 287 0, .str "/claim/cut.py" 849], #[]⟩
noncomputable def o442 (P : Params) : Obj := ⟨.type "function", none, .func ⟨"close", "StringIO.close", (fP [12, 11]), (.stmts (fB [12, 11])), (fS [12, 11]), 3, [], .none, .none, .none, .str "io" 371, none, .ref 441, .none, 0⟩, #[]⟩
noncomputable def o445 (P : Params) : Obj := ⟨.type "tuple", none, .seq #[.str "self" 854] 0, #[]⟩
noncomputable def o447 (P : Params) : Obj := ⟨.none, none, .func ⟨"__enter__", "StringIO.__enter__", (fP [12, 12]), (.stmts (fB [12, 12])), (fS [12, 12]), 0, [], .none, .none, .none, .none, none, .none, .none, 0⟩, #[]⟩
noncomputable def o448 (P : Params) : Obj := ⟨.type "code", none, .fields #[.str "__enter__" 851, .str "StringIO.__enter__" 852, .str "/claim/cut.py" 853, .int 290 0, .int 1 0, .int 0 0, .int 0 0, .int 3 0, .ref 443, .bool true, .int 318 0, .ref 444, .none, .ref 445, .ref 446, .ref 447, .int 855 0, .int 290 0, .str "/claim/cut.py" 856], #[]⟩
noncomputable def o449 (P : Params) : Obj := ⟨.type "function", none, .func ⟨"__enter__", "StringIO.__enter__", (fP [12, 12]), (.stmts (fB [12, 12])), (fS [12, 12]), 3, [], .none, .none, .none, .str "io" 371, none, .ref 448, .none, 0⟩, #[]⟩
noncomputable def o452 (P : Params) : Obj := ⟨.type "tuple", none, .seq #[.str "self" 861, .str "args" 862] 0, #[]⟩
noncomputable def o454 (P : Params) : Obj := ⟨.none, none, .func ⟨"__exit__", "StringIO.__exit__", (fP [12, 13]), (.stmts (fB [12, 13])), (fS [12, 13]), 0, [], .none, .none, .none, .none, none, .none, .none, 0⟩, #[]⟩
noncomputable def o455 (P : Params) : Obj := ⟨.type "code", none, .fields #[.str "__exit__" 858, .str "StringIO.__exit__" 859, .str "/claim/cut.py" 860, .int 294 0, .int 1 0, .int 0 0, .int 0 0, .int 7 0, .ref 450, .bool true, .int 318 0, .ref 451, .none, .ref 452, .ref 453, .ref 454, .int 863 0, .int 294 0, .str "/claim/cut.py" 864], #[]⟩
noncomputable def o456 (P : Params) : Obj := ⟨.type "function", none, .func ⟨"__exit__", "StringIO.__exit__", (fP [12, 13]), (.stmts (fB [12, 13])), (fS [12, 13]), 3, [], .none, .none, .none, .str "io" 371, none, .ref 455, .none, 0⟩, #[]⟩
noncomputable def o459 (P : Params) : Obj := ⟨.type "tuple", none, .seq #[.str "self" 869] 0, #[]⟩
noncomputable def o461 (P : Params) : Obj := ⟨.none, none, .func ⟨"readable", "StringIO.readable", (fP [12, 14]), (.stmts (fB [12, 14])), (fS [12, 14]), 0, [], .none, .none, .none, .none, none, .none, .none, 0⟩, #[]⟩
noncomputable def o462 (P : Params) : Obj := ⟨.type "code", none, .fields #[.str "readable" 866, .str "StringIO.readable" 867, .str "/claim/cut.py" 868, .int 297 0, .int 1 0, .int 0 0, .int 0 0, .int 3 0, .ref 457, .bool true, .int 318 0, .ref 458, .none, .ref 459, .ref 460, .ref 461, .int 870 0, .int 297 0, .str "/claim/cut.py" 871], #[]⟩
noncomputable def o463 (P : Params) : Obj := ⟨.type "function", none, .func ⟨"readable", "StringIO.readable", (fP [12, 14]), (.stmts (fB [12, 14])), (fS [12, 14]), 3, [], .none, .none, .none, .str "io" 371, none, .ref 462, .none, 0⟩, #[]⟩
noncomputable def o466 (P : Params) : Obj := ⟨.type "tuple", none, .seq #[.str "self" 876] 0, #[]⟩
noncomputable def o468 (P : Params) : Obj := ⟨.none, none, .func ⟨"writable", "StringIO.writable", (fP [12, 15]), (.stmts (fB [12, 15])), (fS [12, 15]), 0, [], .none, .none, .none, .none, none, .none, .none, 0⟩, #[]⟩
noncomputable def o469 (P : Params) : Obj := ⟨.type "code", none, .fields #[.str "writable" 873, .str "StringIO.writable" 874, .str "/claim/cut.py" 875, .int 301 0, .int 1 0, .int 0 0, .int 0 0, .int 3 0, .ref 464, .bool true, .int 318 0, .ref 465, .none, .ref 466, .ref 467, .ref 468, .int 877 0, .int 301 0, .str "/claim/cut.py" 878], #[]⟩
noncomputable def o470 (P : Params) : Obj := ⟨.type "function", none, .func ⟨"writable", "StringIO.writable", (fP [12, 15]), (.stmts (fB [12, 15])), (fS [12, 15]), 3, [], .none, .none, .none, .str "io" 371, none, .ref 469, .none, 0⟩, #[]⟩
noncomputable def o473 (P : Params) : Obj := ⟨.type "tuple", none, .seq #[.str "self" 883] 0, #[]⟩
noncomputable def o475 (P : Params) : Obj := ⟨.none, none, .func ⟨"seekable", "StringIO.seekable", (fP [12, 16]), (.stmts (fB [12, 16])), (fS [12, 16]), 0, [], .none, .none, .none, .none, none, .none, .none, 0⟩, #[]⟩
noncomputable def o476 (P : Params) : Obj := ⟨.type "code", none, .fields #[.str "seekable" 880, .str "StringIO.seekable" 881, .str "/claim/cut.py" 882, .int 305 0, .int 1 0, .int 0 0, .int 0 0, .int 3 0, .ref 471, .bool true, .int 318 0, .ref 472, .none, .ref 473, .ref 474, .ref 475, .int 884 0, .int 305 0, .str "/claim/cut.py" 885], #[]⟩
noncomputable def o477 (P : Params) : Obj := ⟨.type "function", none, .func ⟨"seekable", "StringIO.seekable", (fP [12, 16]), (.stmts (fB [12, 16])), (fS [12, 16]), 3, [], .none, .none, .none, .str "io" 371, none, .ref 476, .none, 0⟩, #[]⟩
noncomputable def o480 (P : Params) : Obj := ⟨.type "tuple", none, .seq #[.str "self" 890] 0, #[]⟩
noncomputable def o482 (P : Params) : Obj := ⟨.none, none, .func ⟨"isatty", "StringIO.isatty", (fP [12, 17]), (.stmts (fB [12, 17])), (fS [12, 17]), 0, [], .none, .none, .none, .none, none, .none, .none, 0⟩, #[]⟩
noncomputable def o483 (P : Params) : Obj := ⟨.type "code", none, .fields #[.str "isatty" 887, .str "StringIO.isatty" 888, .str "/claim/cut.py" 889, .int 309 0, .int 1 0, .int 0 0, .int 0 0, .int 3 0, .ref 478, .bool true, .int 318 0, .ref 479, .none, .ref 480, .ref 481, .ref 482, .int 891 0, .int 309 0, .str "/claim/cut.py" 892], #[]⟩
noncomputable def o484 (P : Params) : Obj := ⟨.type "function", none, .func ⟨"isatty", "StringIO.isatty", (fP [12, 17]), (.stmts (fB [12, 17])), (fS [12, 17]), 3, [], .none, .none, .none, .str "io" 371, none, .ref 483, .none, 0⟩, #[]⟩
noncomputable def o487 (P : Params) : Obj := ⟨.type "tuple", none, .seq #[.str "self" 897] 0, #[]⟩
noncomputable def o489 (P : Params) : Obj := ⟨.none, none, .func ⟨"flush", "StringIO.flush", (fP [12, 18]), (.stmts (fB [12, 18])), (fS [12, 18]), 0, [], .none, .none, .none, .none, none, .none, .none, 0⟩, #[]⟩
noncomputable def o490 (P : Params) : Obj := ⟨.type "code", none, .fields #[.str "flush" 894, .str "StringIO.flush" 895, .str "/claim/cut.py" 896, .int 313 0, .int 1 0, .int 0 0, .int 0 0, .int 3 0, .ref 485, .bool true, .int 318 0, .ref 486, .none, .ref 487, .ref 488, .ref 489, .int 898 0, .int 313 0, .str "/claim/cut.py" 899], #[]⟩
noncomputable def o491 (P : Params) : Obj := ⟨.type "function", none, .func ⟨"flush", "StringIO.flush", (fP [12, 18]), (.stmts (fB [12, 18])), (fS [12, 18]), 3, [], .none, .none, .none, .str "io" 371, none, .ref 490, .none, 0⟩, #[]⟩
noncomputable def o494 (P : Params) : Obj := ⟨.type "tuple", none, .seq #[.str "self" 904] 0, #[]⟩
noncomputable def o496 (P : Params) : Obj := ⟨.none, none, .func ⟨"fileno", "StringIO.fileno", (fP [12, 19]), (.stmts (fB [12, 19])), (fS [12, 19]), 0, [], .none, .none, .none, .none, none, .none, .none, 0⟩, #[]⟩
noncomputable def o497 (P : Params) : Obj := ⟨.type "code", none, .fields #[.str "fileno" 901, .str "StringIO.fileno" 902, .str "/claim/cut.py" 903, .int 316 0, .int 1 0, .int 0 0, .int 0 0, .int 3 0, .ref 492, .bool true, .int 318 0, .ref 493, .none, .ref 494, .ref 495, .ref 496, .int 905 0, .int 316 0, .str "/claim/cut.py" 906], #[]⟩
noncomputable def o498 (P : Params) : Obj := ⟨.type "function", none, .func ⟨"fileno", "StringIO.fileno", (fP [12, 19]), (.stmts (fB [12, 19])), (fS [12, 19]), 3, [], .none, .none, .none, .str "io" 371, none, .ref 497, .none, 0⟩, #[]⟩
noncomputable def o501 (P : Params) : Obj := ⟨.type "tuple", none, .seq #[.str "self" 911] 0, #[]⟩
noncomputable def o503 (P : Params) : Obj := ⟨.none, none, .func ⟨"detach", "StringIO.detach", (fP [12, 20]), (.stmts (fB [12, 20])), (fS [12, 20]), 0, [], .none, .none, .none, .none, none, .none, .none, 0⟩, #[]⟩
noncomputable def o504 (P : Params) : Obj := ⟨.type "code", none, .fields #[.str "detach" 908, .str "StringIO.detach" 909, .str "/claim/cut.py" 910, .int 319 0, .int 1 0, .int 0 0, .int 0 0, .int 3 0, .ref 499, .bool true, .int 318 0, .ref 500, .none, .ref 501, .ref 502, .ref 503, .int 912 0, .int 319 0, .str "/claim/cut.py" 913], #[]⟩
noncomputable def o505 (P : Params) : Obj := ⟨.type "function", none, .func ⟨"detach", "StringIO.detach", (fP [12, 20]), (.stmts (fB [12, 20])), (fS [12, 20]), 3, [], .none, .none, .none, .str "io" 371, none, .ref 504, .none, 0⟩, #[]⟩
noncomputable def o508 (P : Params) : Obj := ⟨.type "tuple", none, .seq #[.str "self" 918] 0, #[]⟩
noncomputable def o510 (P : Params) : Obj := ⟨.none, none, .func ⟨"getvalue", "StringIO.getvalue", (fP [12, 21]), (.stmts (fB [12, 21])), (fS [12, 21]), 0, [], .none, .none, .none, .none, none, .none, .none, 0⟩, #[]⟩
noncomputable def o511 (P : Params) : Obj := ⟨.type "code", none, .fields #[.str "getvalue" 915, .str "StringIO.getvalue" 916, .str "/claim/cut.py" 917, .int 322 0, .int 1 0, .int 0 0, .int 0 0, .int 3 0, .ref 506, .bool true, .int 318 0, .ref 507, .none, .ref 508, .ref 509, .ref 510, .int 919 0, .int 322 0, .str "/claim/cut.py" 920], #[]⟩
noncomputable def o512 (P : Params) : Obj := ⟨.type "function", none, .func ⟨"getvalue", "StringIO.getvalue", (fP [12, 21]), (.stmts (fB [12, 21])), (fS [12, 21]), 3, [], .none, .none, .none, .str "io" 371, none, .ref 511, .none, 0⟩, #[]⟩
noncomputable def o515 (P : Params) : Obj := ⟨.type "tuple", none, .seq #[.str "self" 925] 0, #[]⟩
noncomputable def o517 (P : Params) : Obj := ⟨.none, none, .func ⟨"tell", "StringIO.tell", (fP [12, 22]), (.stmts (fB [12, 22])), (fS [12, 22]), 0, [], .none, .none, .none, .none, none, .none, .none, 0⟩, #[]⟩
noncomputable def o518 (P : Params) : Obj := ⟨.type "code", none, .fields #[.str "tell" 922, .str "StringIO.tell" 923, .str "/claim/cut.py" 924, .int 325 0, .int 1 0, .int 0 0, .int 0 0, .int 3 0, .ref 513, .bool true, .int 318 0, .ref 514, .none, .ref 515, .ref 516, .ref 517, .int 926 0, .int 325 0, .str "/claim/cut.py" 927], #[]⟩
noncomputable def o519 (P : Params) : Obj := ⟨.type "function", none, .func ⟨"tell", "StringIO.tell", (fP [12, 22]), (.stmts (fB [12, 22])), (fS [12, 22]), 3, [], .none, .none, .none, .str "io" 371, none, .ref 518, .none, 0⟩, #[]⟩
noncomputable def o520 (P : Params) : Obj := ⟨.type "tuple", none, .seq #[.int 0 929] 0, #[]⟩
noncomputable def o523 (P : Params) : Obj := ⟨.type "tuple", none, .seq #[.str "self" 933, .str "pos" 934, .str "whence" 935] 0, #[]⟩
noncomputable def o525 (P : Params) : Obj := ⟨.none, none, .func ⟨"seek", "StringIO.seek", (fP [12, 23]), (.stmts (fB [12, 23])), (fS [12, 23]), 0, [], .none, .none, .none, .none, none, .none, .none, 0⟩, #[]⟩
noncomputable def o526 (P : Params) : Obj := ⟨.type "code", none, .fields #[.str "seek" 930, .str "StringIO.seek" 931, .str "/claim/cut.py" 932, .int 329 0, .int 3 0, .int 3 0, .int 0 0, .int 3 0, .ref 521, .bool true, .int 318 0, .ref 522, .none, .ref 523, .ref 524, .ref 525, .int 936 0, .int 329 0, .str "/claim/cut.py" 937], #[]⟩
noncomputable def o527 (P : Params) : Obj := ⟨.type "function", none, .func ⟨"seek", "StringIO.seek", (fP [12, 23]), (.stmts (fB [12, 23])), (fS [12, 23]), 3, [], .ref 520, .none, .none, .str "io" 371, none, .ref 526, .none, 0⟩, #[]⟩
noncomputable def o531 (P : Params) : Obj := ⟨.type "tuple", none, .seq #[.str "self" 942, .str "pos" 943] 0, #[]⟩
noncomputable def o533 (P : Params) : Obj := ⟨.none, none, .func ⟨"truncate", "StringIO.truncate", (fP [12, 24]), (.stmts (fB [12, 24])), (fS [12, 24]), 0, [], .none, .none, .none, .none, none, .none, .none, 0⟩, #[]⟩
noncomputable def o534 (P : Params) : Obj := ⟨.type "code", none, .fields #[.str "truncate" 939, .str "StringIO.truncate" 940, .str "/claim/cut.py" 941, .int 346 0, .int 2 0, .int 2 0, .int 0 0, .int 3 0, .ref 529, .bool true, .int 318 0, .ref 530, .none, .ref 531, .ref 532, .ref 533, .int 944 0, .int 346 0, .str "/claim/cut.py" 945], #[]⟩
noncomputable def o535 (P : Params) : Obj := ⟨.type "function", none, .func ⟨"truncate", "StringIO.truncate", (fP [12, 24]), (.stmts (fB [12, 24])), (fS [12, 24]), 3, [], .ref 528, .none, .none, .str "io" 371, none, .ref 534, .none, 0⟩, #[]⟩
noncomputable def o536 (P : Params) : Obj := ⟨.type "tuple", none, .seq #[.int (-1) 948] 0, #[]⟩
noncomputable def o539 (P : Params) : Obj := ⟨.type "tuple", none, .seq #[.str "self" 952, .str "size" 953, .str "start" 954, .str "stop" 955] 0, #[]⟩
noncomputable def o541 (P : Params) : Obj := ⟨.none, none, .func ⟨"read", "StringIO.read", p_read, (.stmts b_read), s_read, 0, [], .none, .none, .none, .none, none, .none, .none, 0⟩, #[]⟩
noncomputable def o542 (P : Params) : Obj := ⟨.type "code", none, .fields #[.str "read" 949, .str "StringIO.read" 950, .str "/claim/cut.py" 951, .int 349 0, .int 2 0, .int 2 0, .int 0 0, .int 3 0, .ref 537, .bool true, .int 318 0, .ref 538, .none, .ref 539, .ref 540, .ref 541, .int 956 0, .int 349 0, .str "/claim/cut.py" 957], #[]⟩
noncomputable def o543 (P : Params) : Obj := ⟨.type "function", none, .func ⟨"read", "StringIO.read", p_read, (.stmts b_read), s_read, 3, [], .ref 536, .none, .none, .str "io" 371, none, .ref 542, .none, 0⟩, #[]⟩
noncomputable def o544 (P : Params) : Obj := ⟨.type "tuple", none, .seq #[.int (-1) 960] 0, #[]⟩
noncomputable def o547 (P : Params) : Obj := ⟨.type "tuple", none, .seq #[.str "self" 964, .str "size" 965] 0, #[]⟩
noncomputable def o549 (P : Params) : Obj := ⟨.none, none, .func ⟨"readline", "StringIO.readline", (fP [12, 26]), (.stmts (fB [12, 26])), (fS [12, 26]), 0, [], .none, .none, .none, .none, none, .none, .none, 0⟩, #[]⟩
noncomputable def o550 (P : Params) : Obj := ⟨.type "code", none, .fields #[.str "readline" 961, .str "StringIO.readline" 962, .str "/claim/cut.py" 963, .int 363 0, .int 2 0, .int 2 0, .int 0 0, .int 3 0, .ref 545, .bool true, .int 318 0, .ref 546, .none, .ref 547, .ref 548, .ref 549, .int 966 0, .int 363 0, .str "/claim/cut.py" 967], #[]⟩
noncomputable def o551 (P : Params) : Obj := ⟨.type "function", none, .func ⟨"readline", "StringIO.readline", (fP [12, 26]), (.stmts (fB [12, 26])), (fS [12, 26]), 3, [], .ref 544, .none, .none, .str "io" 371, none, .ref 550, .none, 0⟩, #[]⟩
noncomputable def o552 (P : Params) : Obj := ⟨.type "tuple", none, .seq #[.int (-1) 970] 0, #[]⟩
noncomputable def o555 (P : Params) : Obj := ⟨.type "tuple", none, .seq #[.str "self" 974, .str "hint" 975] 0, #[]⟩
noncomputable def o557 (P : Params) : Obj := ⟨.none, none, .func ⟨"readlines", "StringIO.readlines", (fP [12, 27]), (.stmts (fB [12, 27])), (fS [12, 27]), 0, [], .none, .none, .none, .none, none, .none, .none, 0⟩, #[]⟩
noncomputable def o558 (P : Params) : Obj := ⟨.type "code", none, .fields #[.str "readlines" 971, .str "StringIO.readlines" 972, .str "/claim/cut.py" 973, .int 370 0, .int 2 0, .int 2 0, .int 0 0, .int 3 0, .ref 553, .bool true, .int 318 0, .ref 554, .none, .ref 555, .ref 556, .ref 557, .int 976 0, .int 370 0, .str "/claim/cut.py" 977], #[]⟩
noncomputable def o559 (P : Params) : Obj := ⟨.type "function", none, .func ⟨"readlines", "StringIO.readlines", (fP [12, 27]), (.stmts (fB [12, 27])), (fS [12, 27]), 3, [], .ref 552, .none, .none, .str "io" 371, none, .ref 558, .none, 0⟩, #[]⟩
noncomputable def o562 (P : Params) : Obj := ⟨.type "tuple", none, .seq #[.str "self" 982] 0, #[]⟩
noncomputable def o564 (P : Params) : Obj := ⟨.none, none, .func ⟨"__iter__", "StringIO.__iter__", (fP [12, 28]), (.stmts (fB [12, 28])), (fS [12, 28]), 0, [], .none, .none, .none, .none, none, .none, .none, 0⟩, #[]⟩
noncomputable def o565 (P : Params) : Obj := ⟨.type "code", none, .fields #[.str "__iter__" 979, .str "StringIO.__iter__" 980, .str "/claim/cut.py" 981, .int 373 0, .int 1 0, .int 0 0, .int 0 0, .int 3 0, .ref 560, .bool true, .int 318 0, .ref 561, .none, .ref 562, .ref 563, .ref 564, .int 983 0, .int 373 0, .str "/claim/cut.py" 984], #[]⟩
noncomputable def o566 (P : Params) : Obj := ⟨.type "function", none, .func ⟨"__iter__", "StringIO.__iter__", (fP [12, 28]), (.stmts (fB [12, 28])), (fS [12, 28]), 3, [], .none, .none, .none, .str "io" 371, none, .ref 565, .none, 0⟩, #[]⟩
noncomputable def o569 (P : Params) : Obj := ⟨.type "tuple", none, .seq #[.str "self" 989, .str "line" 990] 0, #[]⟩
noncomputable def o571 (P : Params) : Obj := ⟨.none, none, .func ⟨"__next__", "StringIO.__next__", (fP [12, 29]), (.stmts (fB [12, 29])), (fS [12, 29]), 0, [], .none, .none, .none, .none, none, .none, .none, 0⟩, #[]⟩
noncomputable def o572 (P : Params) : Obj := ⟨.type "code", none, .fields #[.str "__next__" 986, .str "StringIO.__next__" 987, .str "/claim/cut.py" 988, .int 377 0, .int 1 0, .int 0 0, .int 0 0, .int 3 0, .ref 567, .bool true, .int 318 0, .ref 568, .none, .ref 569, .ref 570, .ref 571, .int 991 0, .int 377 0, .str "/claim/cut.py" 992], #[]⟩
noncomputable def o573 (P : Params) : Obj := ⟨.type "function", none, .func ⟨"__next__", "StringIO.__next__", (fP [12, 29]), (.stmts (fB [12, 29])), (fS [12, 29]), 3, [], .none, .none, .none, .str "io" 371, none, .ref 572, .none, 0⟩, #[]⟩
noncomputable def o576 (P : Params) : Obj := ⟨.type "tuple", none, .seq #[.str "self" 997, .str "s" 998, .str "n" 999, .str "m" 1000, .str "start" 1001, .str "buf" 1002] 0, #[]⟩
noncomputable def o578 (P : Params) : Obj := ⟨.none, none, .func ⟨"write", "StringIO.write", (fP [12, 30]), (.stmts (fB [12, 30])), (fS [12, 30]), 0, [], .none, .none, .none, .none, none, .none, .none, 0⟩, #[]⟩
noncomputable def o579 (P : Params) : Obj := ⟨.type "code", none, .fields #[.str "write" 994, .str "StringIO.write" 995, .str "/claim/cut.py" 996, .int 384 0, .int 2 0, .int 2 0, .int 0 0, .int 3 0, .ref 574, .bool true, .int 318 0, .ref 575, .none, .ref 576, .ref 577, .ref 578, .int 1003 0, .int 384 0, .str "/claim/cut.py" 1004], #[]⟩
noncomputable def o580 (P : Params) : Obj := ⟨.type "function", none, .func ⟨"write", "StringIO.write", (fP [12, 30]), (.stmts (fB [12, 30])), (fS [12, 30]), 3, [], .none, .none, .none, .str "io" 371, none, .ref 579, .none, 0⟩, #[]⟩
noncomputable def o583 (P : Params) : Obj := ⟨.type "tuple", none, .seq #[.str "self" 1009, .str "lines" 1010] 0, #[]⟩
noncomputable def o585 (P : Params) : Obj := ⟨.none, none, .func ⟨"writelines", "StringIO.writelines", (fP [12, 31]), (.stmts (fB [12, 31])), (fS [12, 31]), 0, [], .none, .none, .none, .none, none, .none, .none, 0⟩, #[]⟩
noncomputable def o586 (P : Params) : Obj := ⟨.type "code", none, .fields #[.str "writelines" 1006, .str "StringIO.writelines" 1007, .str "/claim/cut.py" 1008, .int 403 0, .int 2 0, .int 2 0, .int 0 0, .int 3 0, .ref 581, .bool true, .int 318 0, .ref 582, .none, .ref 583, .ref 584, .ref 585, .int 1011 0, .int 403 0, .str "/claim/cut.py" 1012], #[]⟩
noncomputable def o587 (P : Params) : Obj := ⟨.type "function", none, .func ⟨"writelines", "StringIO.writelines", (fP [12, 31]), (.stmts (fB [12, 31])), (fS [12, 31]), 3, [], .none, .none, .none, .str "io" 371, none, .ref 586, .none, 0⟩, #[]⟩
noncomputable def o590 (P : Params) : Obj := ⟨.type "tuple", none, .seq #[.str "self" 1017] 0, #[]⟩
noncomputable def o592 (P : Params) : Obj := ⟨.none, none, .func ⟨"__repr__", "StringIO.__repr__", (fP [12, 32]), (.stmts (fB [12, 32])), (fS [12, 32]), 0, [], .none, .none, .none, .none, none, .none, .none, 0⟩, #[]⟩
noncomputable def o593 (P : Params) : Obj := ⟨.type "code", none, .fields #[.str "__repr__" 1014, .str "StringIO.__repr__" 1015, .str "/claim/cut.py" 1016, .int 406 0, .int 1 0, .int 0 0, .int 0 0, .int 3 0, .ref 588, .bool true, .int 318 0, .ref 589, .none, .ref 590, .ref 591, .ref 592, .int 1018 0, .int 406 0, .str "/claim/cut.py" 1019], #[]⟩
noncomputable def o594 (P : Params) : Obj := ⟨.type "function", none, .func ⟨"__repr__", "StringIO.__repr__", (fP [12, 32]), (.stmts (fB [12, 32])), (fS [12, 32]), 3, [], .none, .none, .none, .str "io" 371, none, .ref 593, .none, 0⟩, #[]⟩
noncomputable def o595 (P : Params) : Obj := ⟨.type "tuple", none, .seq #[.str "__buf" 1021, .str "__newline" 1022, .str "__pos" 1023] 0, #[]⟩
noncomputable def o596 (P : Params) : Obj := ⟨.type "dict", none, .dict #[en P "__module__" 748 (.str "_io" 753), en P "__firstlineno__" 752 (.int 203 751), en P "__init__" 765 (.ref 367), en P "_StringIO__translated" 774 (.ref 374), en P "_StringIO__check" 781 (.ref 381), en P "_StringIO__check_dot" 788 (.ref 388), en P "_StringIO__line" 803 (.ref 395), en P "closed" 811 (.ref 403), en P "line_buffering" 819 (.ref 411), en P "newlines" 827 (.ref 419), en P "encoding" 835 (.ref 427), en P "errors" 843 (.ref 435), en P "close" 850 (.ref 442), en P "__enter__" 857 (.ref 449), en P "__exit__" 865 (.ref 456), en P "readable" 872 (.ref 463), en P "writable" 879 (.ref 470), en P "seekable" 886 (.ref 477), en P "isatty" 893 (.ref 484), en P "flush" 900 (.ref 491), en P "fileno" 907 (.ref 498), en P "detach" 914 (.ref 505), en P "getvalue" 921 (.ref 512), en P "tell" 928 (.ref 519), en P "seek" 938 (.ref 527), en P "truncate" 946 (.ref 535), en P "read" 958 (.ref 543), en P "readline" 968 (.ref 551), en P "readlines" 978 (.ref 559), en P "__iter__" 985 (.ref 566), en P "__next__" 993 (.ref 573), en P "write" 1005 (.ref 580), en P "writelines" 1013 (.ref 587), en P "__repr__" 1020 (.ref 594), en P "__static_attributes__" 1024 (.ref 595), en P "__doc__" 1025 (.none)] 2, #[]⟩
noncomputable def o597 (P : Params) : Obj := ⟨.type "type", none, .cls ⟨"StringIO", [.ref 120], [.ref 597, .ref 120, .ref 93, .type "object"], 596, "StringIO", true, [], [], false, none, false⟩, #[(some (.ref 353)), none, (some (.str "StringIO" 741)), (some (.str "StringIO" 749)), (some (.none)), (some (.bool true))]⟩
noncomputable def o598 (P : Params) : Obj := ⟨.type "super", none, .fields #[.ref 597, .ref 597, .ref 597], #[]⟩
noncomputable def o599 (P : Params) : Obj := ⟨.type "builtin_function_or_method", none, .fields #[.builtin "object.__init_subclass__", .ref 597], #[]⟩
noncomputable def o3v1094 (P : Params) : Obj := ⟨.type "dict", none, .dict #[en P "__name__" 165 (.str "cpy313.shlex" 1087), en P "__doc__" 166 (.none), en P "__package__" 167 (.none), en P "__loader__" 168 (.builtin "__main__.__loader__#opaque"), en P "__spec__" 169 (.none), en P "__annotations__" 170 (.ref 6), en P "__builtins__" 171 (.ref 4), en P "__file__" 173 (.str "/claim/cut.py" 172), en P "__cached__" 174 (.none), en P "_sre" 275 (.ref 12), en P "deque" 317 (.type "collections.deque"), en P "_wall" 330 (.ref 44), en P "_twin_re_1" 370 (.ref 49), en P "_whence" 380 (.ref 56), en P "_index" 388 (.ref 63), en P "UnsupportedOperation" 410 (.ref 73), en P "IOBase" 442 (.ref 93), en P "BufferedIOBase" 460 (.ref 108), en P "TextIOBase" 478 (.ref 120), en P "BytesIO" 740 (.ref 350), en P "StringIO" 1027 (.ref 597), en P "_kind" 1038 (.ref 606), en P "_fspath" 1047 (.ref 613), en P "_check_arg_types" 1057 (.ref 620), en P "isabs" 1064 (.ref 627), en P "join" 1075 (.ref 634), en P "join_path" 1076 (.ref 634), en P "dirname" 1086 (.ref 641), en P "shlex" 1227 (.ref 732)] 29, #[]⟩
noncomputable def o35v1095 (P : Params) : Obj := ⟨.none, none, .fields #[.int 3 0, .int 0 0, .ref 43, .int 8 0, .int 0 0, .ref 55, .int 13 0, .int 0 0, .ref 62, .int 20 0, .int 0 0, .ref 69, .int 22 0, .int 0 0, .ref 82, .int 29 0, .int 0 0, .ref 104, .int 31 0, .int 0 0, .ref 116, .int 33 0, .int 0 0, .ref 128, .int 203 0, .int 0 0, .ref 358, .int 409 0, .int 0 0, .ref 605, .int 430 0, .int 0 0, .ref 612, .int 435 0, .int 0 0, .ref 619, .int 440 0, .int 0 0, .ref 626, .int 443 0, .int 0 0, .ref 633, .int 464 0, .int 0 0, .ref 640, .int 473 0, .int 0 0, .ref 647], #[]⟩
noncomputable def o602 (P : Params) : Obj := ⟨.type "tuple", none, .seq #[.str "name" 1033, .str "x" 1034, .str "t" 1035] 0, #[]⟩
noncomputable def o604 (P : Params) : Obj := ⟨.none, none, .func ⟨"_kind", "_kind", (fP [14]), (.stmts (fB [14])), (fS [14]), 0, [], .none, .none, .none, .none, none, .none, .none, 0⟩, #[]⟩
noncomputable def o605 (P : Params) : Obj := ⟨.type "code", none, .fields #[.str "_kind" 1030, .str "_kind" 1031, .str "/claim/cut.py" 1032, .int 409 0, .int 2 0, .int 0 0, .int 0 0, .int 3 0, .ref 600, .bool true, .int 318 0, .ref 601, .none, .ref 602, .ref 603, .ref 604, .int 1036 0, .int 409 0, .str "/claim/cut.py" 1037], #[]⟩
noncomputable def o606 (P : Params) : Obj := ⟨.type "function", none, .func ⟨"_kind", "_kind", (fP [14]), (.stmts (fB [14])), (fS [14]), 3, [], .none, .none, .none, .str "os.path" 1028, none, .ref 605, .none, 0⟩, #[]⟩
noncomputable def o609 (P : Params) : Obj := ⟨.type "tuple", none, .seq #[.str "name" 1042, .str "x" 1043, .str "k" 1044] 0, #[]⟩
noncomputable def o611 (P : Params) : Obj := ⟨.none, none, .func ⟨"_fspath", "_fspath", (fP [15]), (.stmts (fB [15])), (fS [15]), 0, [], .none, .none, .none, .none, none, .none, .none, 0⟩, #[]⟩
noncomputable def o612 (P : Params) : Obj := ⟨.type "code", none, .fields #[.str "_fspath" 1039, .str "_fspath" 1040, .str "/claim/cut.py" 1041, .int 430 0, .int 2 0, .int 0 0, .int 0 0, .int 3 0, .ref 607, .bool true, .int 318 0, .ref 608, .none, .ref 609, .ref 610, .ref 611, .int 1045 0, .int 430 0, .str "/claim/cut.py" 1046], #[]⟩
noncomputable def o613 (P : Params) : Obj := ⟨.type "function", none, .func ⟨"_fspath", "_fspath", (fP [15]), (.stmts (fB [15])), (fS [15]), 3, [], .none, .none, .none, .str "os.path" 1028, none, .ref 612, .none, 0⟩, #[]⟩
noncomputable def o616 (P : Params) : Obj := ⟨.type "tuple", none, .seq #[.str "funcname" 1051, .str "args" 1052, .str "s" 1053, .str "k" 1054] 0, #[]⟩
noncomputable def o618 (P : Params) : Obj := ⟨.none, none, .func ⟨"_check_arg_types", "_check_arg_types", (fP [16]), (.stmts (fB [16])), (fS [16]), 0, [], .none, .none, .none, .none, none, .none, .none, 0⟩, #[]⟩
noncomputable def o619 (P : Params) : Obj := ⟨.type "code", none, .fields #[.str "_check_arg_types" 1048, .str "_check_arg_types" 1049, .str "/claim/cut.py" 1050, .int 435 0, .int 1 0, .int 0 0, .int 0 0, .int 7 0, .ref 614, .bool true, .int 318 0, .ref 615, .none, .ref 616, .ref 617, .ref 618, .int 1055 0, .int 435 0, .str "/claim/cut.py" 1056], #[]⟩
noncomputable def o620 (P : Params) : Obj := ⟨.type "function", none, .func ⟨"_check_arg_types", "_check_arg_types", (fP [16]), (.stmts (fB [16])), (fS [16]), 3, [], .none, .none, .none, .str "os.path" 1028, none, .ref 619, .none, 0⟩, #[]⟩
noncomputable def o623 (P : Params) : Obj := ⟨.type "tuple", none, .seq #[.str "s" 1061] 0, #[]⟩
noncomputable def o625 (P : Params) : Obj := ⟨.none, none, .func ⟨"isabs", "isabs", (fP [17]), (.stmts (fB [17])), (fS [17]), 0, [], .none, .none, .none, .none, none, .none, .none, 0⟩, #[]⟩
noncomputable def o626 (P : Params) : Obj := ⟨.type "code", none, .fields #[.str "isabs" 1058, .str "isabs" 1059, .str "/claim/cut.py" 1060, .int 440 0, .int 1 0, .int 0 0, .int 0 0, .int 3 0, .ref 621, .bool true, .int 318 0, .ref 622, .none, .ref 623, .ref 624, .ref 625, .int 1062 0, .int 440 0, .str "/claim/cut.py" 1063], #[]⟩
noncomputable def o627 (P : Params) : Obj := ⟨.type "function", none, .func ⟨"isabs", "isabs", (fP [17]), (.stmts (fB [17])), (fS [17]), 3, [], .none, .none, .none, .str "os.path" 1028, none, .ref 626, .none, 0⟩, #[]⟩
noncomputable def o630 (P : Params) : Obj := ⟨.type "tuple", none, .seq #[.str "a" 1068, .str "p" 1069, .str "b" 1070, .str "sep" 1071, .str "path" 1072] 0, #[]⟩
noncomputable def o632 (P : Params) : Obj := ⟨.none, none, .func ⟨"join", "join", (fP [18]), (.stmts (fB [18])), (fS [18]), 0, [], .none, .none, .none, .none, none, .none, .none, 0⟩, #[]⟩
noncomputable def o633 (P : Params) : Obj := ⟨.type "code", none, .fields #[.str "join" 1065, .str "join" 1066, .str "/claim/cut.py" 1067, .int 443 0, .int 1 0, .int 0 0, .int 0 0, .int 7 0, .ref 628, .bool true, .int 318 0, .ref 629, .none, .ref 630, .ref 631, .ref 632, .int 1073 0, .int 443 0, .str "/claim/cut.py" 1074], #[]⟩
noncomputable def o634 (P : Params) : Obj := ⟨.type "function", none, .func ⟨"join", "join", (fP [18]), (.stmts (fB [18])), (fS [18]), 3, [], .none, .none, .none, .str "os.path" 1028, none, .ref 633, .none, 0⟩, #[]⟩
noncomputable def o637 (P : Params) : Obj := ⟨.type "tuple", none, .seq #[.str "p" 1080, .str "sep" 1081, .str "i" 1082, .str "head" 1083] 0, #[]⟩
noncomputable def o639 (P : Params) : Obj := ⟨.none, none, .func ⟨"dirname", "dirname", (fP [20]), (.stmts (fB [20])), (fS [20]), 0, [], .none, .none, .none, .none, none, .none, .none, 0⟩, #[]⟩
noncomputable def o640 (P : Params) : Obj := ⟨.type "code", none, .fields #[.str "dirname" 1077, .str "dirname" 1078, .str "/claim/cut.py" 1079, .int 464 0, .int 1 0, .int 0 0, .int 0 0, .int 3 0, .ref 635, .bool true, .int 318 0, .ref 636, .none, .ref 637, .ref 638, .ref 639, .int 1084 0, .int 464 0, .str "/claim/cut.py" 1085], #[]⟩
noncomputable def o641 (P : Params) : Obj := ⟨.type "function", none, .func ⟨"dirname", "dirname", (fP [20]), (.stmts (fB [20])), (fS [20]), 3, [], .none, .none, .none, .str "os.path" 1028, none, .ref 640, .none, 0⟩, #[]⟩
noncomputable def o644 (P : Params) : Obj := ⟨.type "dict", none, .dict #[en P "__module__" 1096 (.str "cpy313.shlex" 1087), en P "__qualname__" 1098 (.str "shlex" 1097), en P "__firstlineno__" 1100 (.int 473 1099), en P "__init__" 1112 (.ref 656), en P "punctuation_chars" 1120 (.ref 664), en P "push_token" 1128 (.ref 671), en P "push_source" 1137 (.ref 679), en P "pop_source" 1144 (.ref 686), en P "get_token" 1156 (.ref 693), en P "read_token" 1167 (.ref 700), en P "sourcehook" 1175 (.ref 707), en P "error_leader" 1184 (.ref 715), en P "__iter__" 1191 (.ref 722), en P "__next__" 1199 (.ref 729), en P "__static_attributes__" 1220 (.ref 730)] 15, #[]⟩
noncomputable def o646 (P : Params) : Obj := ⟨.none, none, .fields #[.int 475 0, .int 4 0, .ref 655, .int 517 0, .int 4 0, .ref 662, .int 520 0, .int 4 0, .ref 670, .int 523 0, .int 4 0, .ref 678, .int 536 0, .int 4 0, .ref 685, .int 543 0, .int 4 0, .ref 692, .int 570 0, .int 4 0, .ref 699, .int 707 0, .int 4 0, .ref 706, .int 714 0, .int 4 0, .ref 714, .int 717 0, .int 4 0, .ref 721, .int 720 0, .int 4 0, .ref 728], #[]⟩
noncomputable def o647 (P : Params) : Obj := ⟨.type "code", none, .fields #[.str "shlex" 1091, .str "shlex" 1092, .str "/claim/cut.py" 1093, .int 473 0, .int 0 0, .int 0 0, .int 0 0, .int 0 0, .ref 645, .bool false, .int 318 0, .ref 646, .none, .none, .none, .none, .int 1094 0, .int 473 0, .str "/claim/cut.py" 1095], #[]⟩
noncomputable def o648 (P : Params) : Obj := ⟨.type "frame", none, .plain, #[(some (.ref 647)), (some (.ref 3)), (some (.ref 644)), none, (some (.str "cpy313.shlex" 1087)), none, (some (.ref 0))]⟩
noncomputable def o649 (P : Params) : Obj := ⟨.type "tuple", none, .seq #[.none, .none, .bool false, .bool false] 0, #[]⟩
noncomputable def o652 (P : Params) : Obj := ⟨.type "tuple", none, .seq #[.str "self" 1104, .str "instream" 1105, .str "infile" 1106, .str "posix" 1107, .str "punctuation_chars" 1108, .str "t" 1109] 0, #[]⟩
noncomputable def o654 (P : Params) : Obj := ⟨.none, none, .func ⟨"__init__", "shlex.__init__", p_linit, (.stmts b_linit), s_linit, 0, [], .none, .none, .none, .none, none, .none, .none, 0⟩, #[]⟩
noncomputable def o655 (P : Params) : Obj := ⟨.type "code", none, .fields #[.str "__init__" 1101, .str "shlex.__init__" 1102, .str "/claim/cut.py" 1103, .int 475 0, .int 5 0, .int 0 0, .int 0 0, .int 3 0, .ref 650, .bool true, .int 318 0, .ref 651, .none, .ref 652, .ref 653, .ref 654, .int 1110 0, .int 475 0, .str "/claim/cut.py" 1111], #[]⟩
noncomputable def o656 (P : Params) : Obj := ⟨.type "function", none, .func ⟨"__init__", "shlex.__init__", p_linit, (.stmts b_linit), s_linit, 3, [], .ref 649, .none, .none, .str "cpy313.shlex" 1087, none, .ref 655, .none, 0⟩, #[]⟩
noncomputable def o659 (P : Params) : Obj := ⟨.type "tuple", none, .seq #[.str "self" 1116] 0, #[]⟩
noncomputable def o661 (P : Params) : Obj := ⟨.none, none, .func ⟨"punctuation_chars", "shlex.punctuation_chars", p_punct, (.stmts b_punct), s_punct, 0, [], .none, .none, .none, .none, none, .none, .none, 0⟩, #[]⟩
noncomputable def o662 (P : Params) : Obj := ⟨.type "code", none, .fields #[.str "punctuation_chars" 1113, .str "shlex.punctuation_chars" 1114, .str "/claim/cut.py" 1115, .int 516 0, .int 1 0, .int 0 0, .int 0 0, .int 3 0, .ref 657, .bool true, .int 318 0, .ref 658, .none, .ref 659, .ref 660, .ref 661, .int 1117 0, .int 516 0, .str "/claim/cut.py" 1118], #[]⟩
noncomputable def o663 (P : Params) : Obj := ⟨.type "function", none, .func ⟨"punctuation_chars", "shlex.punctuation_chars", p_punct, (.stmts b_punct), s_punct, 3, [], .none, .none, .none, .str "cpy313.shlex" 1087, none, .ref 662, .none, 0⟩, #[]⟩
noncomputable def o664 (P : Params) : Obj := ⟨.type "property", none, .fields #[.ref 663, .none, .none, .none, .str "punctuation_chars" 1120, .bool false], #[]⟩
noncomputable def o667 (P : Params) : Obj := ⟨.type "tuple", none, .seq #[.str "self" 1124, .str "tok" 1125] 0, #[]⟩
noncomputable def o669 (P : Params) : Obj := ⟨.none, none, .func ⟨"push_token", "shlex.push_token", (fP [22, 2]), (.stmts (fB [22, 2])), (fS [22, 2]), 0, [], .none, .none, .none, .none, none, .none, .none, 0⟩, #[]⟩
noncomputable def o670 (P : Params) : Obj := ⟨.type "code", none, .fields #[.str "push_token" 1121, .str "shlex.push_token" 1122, .str "/claim/cut.py" 1123, .int 520 0, .int 2 0, .int 0 0, .int 0 0, .int 3 0, .ref 665, .bool true, .int 318 0, .ref 666, .none, .ref 667, .ref 668, .ref 669, .int 1126 0, .int 520 0, .str "/claim/cut.py" 1127], #[]⟩
noncomputable def o671 (P : Params) : Obj := ⟨.type "function", none, .func ⟨"push_token", "shlex.push_token", (fP [22, 2]), (.stmts (fB [22, 2])), (fS [22, 2]), 3, [], .none, .none, .none, .str "cpy313.shlex" 1087, none, .ref 670, .none, 0⟩, #[]⟩
noncomputable def o675 (P : Params) : Obj := ⟨.type "tuple", none, .seq #[.str "self" 1132, .str "newstream" 1133, .str "newfile" 1134] 0, #[]⟩
noncomputable def o677 (P : Params) : Obj := ⟨.none, none, .func ⟨"push_source", "shlex.push_source", (fP [22, 3]), (.stmts (fB [22, 3])), (fS [22, 3]), 0, [], .none, .none, .none, .none, none, .none, .none, 0⟩, #[]⟩
noncomputable def o678 (P : Params) : Obj := ⟨.type "code", none, .fields #[.str "push_source" 1129, .str "shlex.push_source" 1130, .str "/claim/cut.py" 1131, .int 523 0, .int 3 0, .int 0 0, .int 0 0, .int 3 0, .ref 673, .bool true, .int 318 0, .ref 674, .none, .ref 675, .ref 676, .ref 677, .int 1135 0, .int 523 0, .str "/claim/cut.py" 1136], #[]⟩
noncomputable def o679 (P : Params) : Obj := ⟨.type "function", none, .func ⟨"push_source", "shlex.push_source", (fP [22, 3]), (.stmts (fB [22, 3])), (fS [22, 3]), 3, [], .ref 672, .none, .none, .str "cpy313.shlex" 1087, none, .ref 678, .none, 0⟩, #[]⟩
noncomputable def o682 (P : Params) : Obj := ⟨.type "tuple", none, .seq #[.str "self" 1141] 0, #[]⟩
noncomputable def o684 (P : Params) : Obj := ⟨.none, none, .func ⟨"pop_source", "shlex.pop_source", (fP [22, 4]), (.stmts (fB [22, 4])), (fS [22, 4]), 0, [], .none, .none, .none, .none, none, .none, .none, 0⟩, #[]⟩
noncomputable def o685 (P : Params) : Obj := ⟨.type "code", none, .fields #[.str "pop_source" 1138, .str "shlex.pop_source" 1139, .str "/claim/cut.py" 1140, .int 536 0, .int 1 0, .int 0 0, .int 0 0, .int 3 0, .ref 680, .bool true, .int 318 0, .ref 681, .none, .ref 682, .ref 683, .ref 684, .int 1142 0, .int 536 0, .str "/claim/cut.py" 1143], #[]⟩
noncomputable def o686 (P : Params) : Obj := ⟨.type "function", none, .func ⟨"pop_source", "shlex.pop_source", (fP [22, 4]), (.stmts (fB [22, 4])), (fS [22, 4]), 3, [], .none, .none, .none, .str "cpy313.shlex" 1087, none, .ref 685, .none, 0⟩, #[]⟩
noncomputable def o689 (P : Params) : Obj := ⟨.type "tuple", none, .seq #[.str "self" 1148, .str "tok" 1149, .str "raw" 1150, .str "spec" 1151, .str "newfile" 1152, .str "newstream" 1153] 0, #[]⟩
noncomputable def o691 (P : Params) : Obj := ⟨.none, none, .func ⟨"get_token", "shlex.get_token", p_gettok, (.stmts b_gettok), s_gettok, 0, [], .none, .none, .none, .none, none, .none, .none, 0⟩, #[]⟩
noncomputable def o692 (P : Params) : Obj := ⟨.type "code", none, .fields #[.str "get_token" 1145, .str "shlex.get_token" 1146, .str "/claim/cut.py" 1147, .int 543 0, .int 1 0, .int 0 0, .int 0 0, .int 3 0, .ref 687, .bool true, .int 318 0, .ref 688, .none, .ref 689, .ref 690, .ref 691, .int 1154 0, .int 543 0, .str "/claim/cut.py" 1155], #[]⟩
noncomputable def o693 (P : Params) : Obj := ⟨.type "function", none, .func ⟨"get_token", "shlex.get_token", p_gettok, (.stmts b_gettok), s_gettok, 3, [], .none, .none, .none, .str "cpy313.shlex" 1087, none, .ref 692, .none, 0⟩, #[]⟩
noncomputable def o696 (P : Params) : Obj := ⟨.type "tuple", none, .seq #[.str "self" 1160, .str "quoted" 1161, .str "escapedstate" 1162, .str "nextchar" 1163, .str "result" 1164] 0, #[]⟩
noncomputable def o698 (P : Params) : Obj := ⟨.none, none, .func ⟨"read_token", "shlex.read_token", p_readtok, (.stmts b_readtok), s_readtok, 0, [], .none, .none, .none, .none, none, .none, .none, 0⟩, #[]⟩
noncomputable def o699 (P : Params) : Obj := ⟨.type "code", none, .fields #[.str "read_token" 1157, .str "shlex.read_token" 1158, .str "/claim/cut.py" 1159, .int 570 0, .int 1 0, .int 0 0, .int 0 0, .int 3 0, .ref 694, .bool true, .int 318 0, .ref 695, .none, .ref 696, .ref 697, .ref 698, .int 1165 0, .int 570 0, .str "/claim/cut.py" 1166], #[]⟩
noncomputable def o700 (P : Params) : Obj := ⟨.type "function", none, .func ⟨"read_token", "shlex.read_token", p_readtok, (.stmts b_readtok), s_readtok, 3, [], .none, .none, .none, .str "cpy313.shlex" 1087, none, .ref 699, .none, 0⟩, #[]⟩
noncomputable def o703 (P : Params) : Obj := ⟨.type "tuple", none, .seq #[.str "self" 1171, .str "newfile" 1172] 0, #[]⟩
noncomputable def o705 (P : Params) : Obj := ⟨.none, none, .func ⟨"sourcehook", "shlex.sourcehook", (fP [22, 7]), (.stmts (fB [22, 7])), (fS [22, 7]), 0, [], .none, .none, .none, .none, none, .none, .none, 0⟩, #[]⟩
noncomputable def o706 (P : Params) : Obj := ⟨.type "code", none, .fields #[.str "sourcehook" 1168, .str "shlex.sourcehook" 1169, .str "/claim/cut.py" 1170, .int 707 0, .int 2 0, .int 0 0, .int 0 0, .int 3 0, .ref 701, .bool true, .int 318 0, .ref 702, .none, .ref 703, .ref 704, .ref 705, .int 1173 0, .int 707 0, .str "/claim/cut.py" 1174], #[]⟩
noncomputable def o707 (P : Params) : Obj := ⟨.type "function", none, .func ⟨"sourcehook", "shlex.sourcehook", (fP [22, 7]), (.stmts (fB [22, 7])), (fS [22, 7]), 3, [], .none, .none, .none, .str "cpy313.shlex" 1087, none, .ref 706, .none, 0⟩, #[]⟩
noncomputable def o708 (P : Params) : Obj := ⟨.type "tuple", none, .seq #[.none, .none] 0, #[]⟩
noncomputable def o711 (P : Params) : Obj := ⟨.type "tuple", none, .seq #[.str "self" 1179, .str "infile" 1180, .str "lineno" 1181] 0, #[]⟩
noncomputable def o713 (P : Params) : Obj := ⟨.none, none, .func ⟨"error_leader", "shlex.error_leader", (fP [22, 8]), (.stmts (fB [22, 8])), (fS [22, 8]), 0, [], .none, .none, .none, .none, none, .none, .none, 0⟩, #[]⟩
noncomputable def o714 (P : Params) : Obj := ⟨.type "code", none, .fields #[.str "error_leader" 1176, .str "shlex.error_leader" 1177, .str "/claim/cut.py" 1178, .int 714 0, .int 3 0, .int 0 0, .int 0 0, .int 3 0, .ref 709, .bool true, .int 318 0, .ref 710, .none, .ref 711, .ref 712, .ref 713, .int 1182 0, .int 714 0, .str "/claim/cut.py" 1183], #[]⟩
noncomputable def o715 (P : Params) : Obj := ⟨.type "function", none, .func ⟨"error_leader", "shlex.error_leader", (fP [22, 8]), (.stmts (fB [22, 8])), (fS [22, 8]), 3, [], .ref 708, .none, .none, .str "cpy313.shlex" 1087, none, .ref 714, .none, 0⟩, #[]⟩
noncomputable def o718 (P : Params) : Obj := ⟨.type "tuple", none, .seq #[.str "self" 1188] 0, #[]⟩
noncomputable def o720 (P : Params) : Obj := ⟨.none, none, .func ⟨"__iter__", "shlex.__iter__", p_iter, (.stmts b_iter), s_iter, 0, [], .none, .none, .none, .none, none, .none, .none, 0⟩, #[]⟩
noncomputable def o721 (P : Params) : Obj := ⟨.type "code", none, .fields #[.str "__iter__" 1185, .str "shlex.__iter__" 1186, .str "/claim/cut.py" 1187, .int 717 0, .int 1 0, .int 0 0, .int 0 0, .int 3 0, .ref 716, .bool true, .int 318 0, .ref 717, .none, .ref 718, .ref 719, .ref 720, .int 1189 0, .int 717 0, .str "/claim/cut.py" 1190], #[]⟩
noncomputable def o722 (P : Params) : Obj := ⟨.type "function", none, .func ⟨"__iter__", "shlex.__iter__", p_iter, (.stmts b_iter), s_iter, 3, [], .none, .none, .none, .str "cpy313.shlex" 1087, none, .ref 721, .none, 0⟩, #[]⟩
noncomputable def o725 (P : Params) : Obj := ⟨.type "tuple", none, .seq #[.str "self" 1195, .str "token" 1196] 0, #[]⟩
noncomputable def o727 (P : Params) : Obj := ⟨.none, none, .func ⟨"__next__", "shlex.__next__", p_next, (.stmts b_next), s_next, 0, [], .none, .none, .none, .none, none, .none, .none, 0⟩, #[]⟩
noncomputable def o728 (P : Params) : Obj := ⟨.type "code", none, .fields #[.str "__next__" 1192, .str "shlex.__next__" 1193, .str "/claim/cut.py" 1194, .int 720 0, .int 1 0, .int 0 0, .int 0 0, .int 3 0, .ref 723, .bool true, .int 318 0, .ref 724, .none, .ref 725, .ref 726, .ref 727, .int 1197 0, .int 720 0, .str "/claim/cut.py" 1198], #[]⟩
noncomputable def o729 (P : Params) : Obj := ⟨.type "function", none, .func ⟨"__next__", "shlex.__next__", p_next, (.stmts b_next), s_next, 3, [], .none, .none, .none, .str "cpy313.shlex" 1087, none, .ref 728, .none, 0⟩, #[]⟩
noncomputable def o730 (P : Params) : Obj := ⟨.type "tuple", none, .seq #[.str "_punctuation_chars" 1200, .str "_pushback_chars" 1201, .str "commenters" 1202, .str "debug" 1203, .str "eof" 1204, .str "escape" 1205, .str "escapedquotes" 1206, .str "filestack" 1207, .str "infile" 1208, .str "instream" 1209, .str "lineno" 1210, .str "posix" 1211, .str "pushback" 1212, .str "quotes" 1213, .str "source" 1214, .str "state" 1215, .str "token" 1216, .str "whitespace" 1217, .str "whitespace_split" 1218, .str "wordchars" 1219] 0, #[]⟩
noncomputable def o731 (P : Params) : Obj := ⟨.type "dict", none, .dict #[en P "__module__" 1096 (.str "cpy313.shlex" 1087), en P "__firstlineno__" 1100 (.int 473 1099), en P "__init__" 1112 (.ref 656), en P "punctuation_chars" 1120 (.ref 664), en P "push_token" 1128 (.ref 671), en P "push_source" 1137 (.ref 679), en P "pop_source" 1144 (.ref 686), en P "get_token" 1156 (.ref 693), en P "read_token" 1167 (.ref 700), en P "sourcehook" 1175 (.ref 707), en P "error_leader" 1184 (.ref 715), en P "__iter__" 1191 (.ref 722), en P "__next__" 1199 (.ref 729), en P "__static_attributes__" 1220 (.ref 730), en P "__dict__" 1222 (.ref 733), en P "__weakref__" 1224 (.ref 734), en P "__doc__" 1225 (.none)] 4, #[]⟩
noncomputable def o732 (P : Params) : Obj := ⟨.type "type", none, .cls ⟨"shlex", [.type "object"], [.ref 732, .type "object"], 731, "shlex", true, [], [], false, none, false⟩, #[none, none, (some (.str "shlex" 1089)), (some (.str "shlex" 1097)), (some (.builtin "object.__new__")), (some (.bool true))]⟩
noncomputable def o733 (P : Params) : Obj := ⟨.type "getset_descriptor", none, .fields #[.str "__dict__" 1221, .ref 732, .builtin "function.__dict__", .builtin "function.__dict__#set"], #[]⟩
noncomputable def o734 (P : Params) : Obj := ⟨.type "getset_descriptor", none, .fields #[.str "__weakref__" 1223, .ref 732, .builtin "ExceptionGroup.__weakref__", .none], #[]⟩
noncomputable def o735 (P : Params) : Obj := ⟨.type "super", none, .fields #[.ref 732, .ref 732, .ref 732], #[]⟩
noncomputable def o736 (P : Params) : Obj := ⟨.type "builtin_function_or_method", none, .fields #[.builtin "object.__init_subclass__", .ref 732], #[]⟩
noncomputable def o3 (P : Params) : Obj := ⟨.type "dict", none, .dict #[en P "__name__" 165 (.str "law_dn0158_01" 1255), en P "__doc__" 166 (.none), en P "__package__" 167 (.none), en P "__loader__" 168 (.builtin "__main__.__loader__#opaque"), en P "__spec__" 169 (.none), en P "__annotations__" 170 (.ref 6), en P "__builtins__" 171 (.ref 4), en P "__file__" 173 (.str "/claim/cut.py" 172), en P "__cached__" 174 (.none), en P "_sre" 275 (.ref 12), en P "deque" 317 (.type "collections.deque"), en P "_wall" 330 (.ref 44), en P "_twin_re_1" 370 (.ref 49), en P "_whence" 380 (.ref 56), en P "_index" 388 (.ref 63), en P "UnsupportedOperation" 410 (.ref 73), en P "IOBase" 442 (.ref 93), en P "BufferedIOBase" 460 (.ref 108), en P "TextIOBase" 478 (.ref 120), en P "BytesIO" 740 (.ref 350), en P "StringIO" 1027 (.ref 597), en P "_kind" 1038 (.ref 606), en P "_fspath" 1047 (.ref 613), en P "_check_arg_types" 1057 (.ref 620), en P "isabs" 1064 (.ref 627), en P "join" 1075 (.ref 751), en P "join_path" 1076 (.ref 634), en P "dirname" 1086 (.ref 641), en P "shlex" 1227 (.ref 732), en P "split" 1237 (.ref 744), en P "join_shlex" 1245 (.ref 751), en P "_find_unsafe" 1247 (.ref 752), en P "quote" 1254 (.ref 759), en P "_law_digits" 1265 (.ref 766), en P "_law_sign" 1273 (.ref 773), en P "_law_words" 1282 (.ref 780), en P "_law_is_bare" 1288 (.ref 785), en P "_law_marks" 1298 (.ref 792), en P "_law_read" 1311 (.ref 799), en P "law" 1317 (.ref 804)] 40, #[]⟩
noncomputable def o35 (P : Params) : Obj := ⟨.none, none, .fields #[.int 3 0, .int 0 0, .ref 43, .int 8 0, .int 0 0, .ref 55, .int 13 0, .int 0 0, .ref 62, .int 20 0, .int 0 0, .ref 69, .int 22 0, .int 0 0, .ref 82, .int 29 0, .int 0 0, .ref 104, .int 31 0, .int 0 0, .ref 116, .int 33 0, .int 0 0, .ref 128, .int 203 0, .int 0 0, .ref 358, .int 409 0, .int 0 0, .ref 605, .int 430 0, .int 0 0, .ref 612, .int 435 0, .int 0 0, .ref 619, .int 440 0, .int 0 0, .ref 626, .int 443 0, .int 0 0, .ref 633, .int 464 0, .int 0 0, .ref 640, .int 473 0, .int 0 0, .ref 647, .int 725 0, .int 0 0, .ref 743, .int 733 0, .int 0 0, .ref 750, .int 737 0, .int 0 0, .ref 758, .int 744 0, .int 0 0, .ref 765, .int 753 0, .int 0 0, .ref 772, .int 760 0, .int 0 0, .ref 779, .int 770 0, .int 0 0, .ref 784, .int 773 0, .int 0 0, .ref 791, .int 790 0, .int 0 0, .ref 798, .int 812 0, .int 0 0, .ref 803], #[]⟩
noncomputable def o737 (P : Params) : Obj := ⟨.type "tuple", none, .seq #[.bool false, .bool true] 0, #[]⟩
noncomputable def o740 (P : Params) : Obj := ⟨.type "tuple", none, .seq #[.str "s" 1231, .str "comments" 1232, .str "posix" 1233, .str "lex" 1234] 0, #[]⟩
noncomputable def o742 (P : Params) : Obj := ⟨.none, none, .func ⟨"split", "split", p_split, (.stmts b_split), s_split, 0, [], .none, .none, .none, .none, none, .none, .none, 0⟩, #[]⟩
noncomputable def o743 (P : Params) : Obj := ⟨.type "code", none, .fields #[.str "split" 1228, .str "split" 1229, .str "/claim/cut.py" 1230, .int 725 0, .int 3 0, .int 0 0, .int 0 0, .int 3 0, .ref 738, .bool true, .int 318 0, .ref 739, .none, .ref 740, .ref 741, .ref 742, .int 1235 0, .int 725 0, .str "/claim/cut.py" 1236], #[]⟩
noncomputable def o744 (P : Params) : Obj := ⟨.type "function", none, .func ⟨"split", "split", p_split, (.stmts b_split), s_split, 3, [], .ref 737, .none, .none, .str "cpy313.shlex" 1087, none, .ref 743, .none, 0⟩, #[]⟩
noncomputable def o747 (P : Params) : Obj := ⟨.type "tuple", none, .seq #[.str "split_command" 1241] 0, #[]⟩
noncomputable def o749 (P : Params) : Obj := ⟨.none, none, .func ⟨"join", "join", p_join, (.stmts b_join), s_join, 0, [], .none, .none, .none, .none, none, .none, .none, 0⟩, #[]⟩
noncomputable def o750 (P : Params) : Obj := ⟨.type "code", none, .fields #[.str "join" 1238, .str "join" 1239, .str "/claim/cut.py" 1240, .int 733 0, .int 1 0, .int 0 0, .int 0 0, .int 3 0, .ref 745, .bool true, .int 318 0, .ref 746, .none, .ref 747, .ref 748, .ref 749, .int 1242 0, .int 733 0, .str "/claim/cut.py" 1243], #[]⟩
noncomputable def o751 (P : Params) : Obj := ⟨.type "function", none, .func ⟨"join", "join", p_join, (.stmts b_join), s_join, 3, [], .none, .none, .none, .str "cpy313.shlex" 1087, none, .ref 750, .none, 0⟩, #[]⟩
noncomputable def o752 (P : Params) : Obj := ⟨.type "builtin_function_or_method", none, .fields #[.builtin "re.Pattern.search", .ref 49], #[]⟩
noncomputable def o755 (P : Params) : Obj := ⟨.type "tuple", none, .seq #[.str "s" 1251] 0, #[]⟩
noncomputable def o757 (P : Params) : Obj := ⟨.none, none, .func ⟨"quote", "quote", p_quote, (.stmts b_quote), s_quote, 0, [], .none, .none, .none, .none, none, .none, .none, 0⟩, #[]⟩
noncomputable def o758 (P : Params) : Obj := ⟨.type "code", none, .fields #[.str "quote" 1248, .str "quote" 1249, .str "/claim/cut.py" 1250, .int 737 0, .int 1 0, .int 0 0, .int 0 0, .int 3 0, .ref 753, .bool true, .int 318 0, .ref 754, .none, .ref 755, .ref 756, .ref 757, .int 1252 0, .int 737 0, .str "/claim/cut.py" 1253], #[]⟩
noncomputable def o759 (P : Params) : Obj := ⟨.type "function", none, .func ⟨"quote", "quote", p_quote, (.stmts b_quote), s_quote, 3, [], .none, .none, .none, .str "cpy313.shlex" 1087, none, .ref 758, .none, 0⟩, #[]⟩
noncomputable def o762 (P : Params) : Obj := ⟨.type "tuple", none, .seq #[.str "script" 1260, .str "digits" 1261, .str "x" 1262] 0, #[]⟩
noncomputable def o764 (P : Params) : Obj := ⟨.none, none, .func ⟨"_law_digits", "_law_digits", p_digits, (.stmts b_digits), s_digits, 0, [], .none, .none, .none, .none, none, .none, .none, 0⟩, #[]⟩
noncomputable def o765 (P : Params) : Obj := ⟨.type "code", none, .fields #[.str "_law_digits" 1257, .str "_law_digits" 1258, .str "/claim/cut.py" 1259, .int 744 0, .int 1 0, .int 0 0, .int 0 0, .int 3 0, .ref 760, .bool true, .int 318 0, .ref 761, .none, .ref 762, .ref 763, .ref 764, .int 1263 0, .int 744 0, .str "/claim/cut.py" 1264], #[]⟩
noncomputable def o766 (P : Params) : Obj := ⟨.type "function", none, .func ⟨"_law_digits", "_law_digits", p_digits, (.stmts b_digits), s_digits, 3, [], .none, .none, .none, .str "law_dn0158_01" 1255, none, .ref 765, .none, 0⟩, #[]⟩
noncomputable def o769 (P : Params) : Obj := ⟨.type "tuple", none, .seq #[.str "d" 1269, .str "code" 1270] 0, #[]⟩
noncomputable def o771 (P : Params) : Obj := ⟨.none, none, .func ⟨"_law_sign", "_law_sign", p_sign, (.stmts b_sign), s_sign, 0, [], .none, .none, .none, .none, none, .none, .none, 0⟩, #[]⟩
noncomputable def o772 (P : Params) : Obj := ⟨.type "code", none, .fields #[.str "_law_sign" 1266, .str "_law_sign" 1267, .str "/claim/cut.py" 1268, .int 753 0, .int 1 0, .int 0 0, .int 0 0, .int 3 0, .ref 767, .bool true, .int 318 0, .ref 768, .none, .ref 769, .ref 770, .ref 771, .int 1271 0, .int 753 0, .str "/claim/cut.py" 1272], #[]⟩
noncomputable def o773 (P : Params) : Obj := ⟨.type "function", none, .func ⟨"_law_sign", "_law_sign", p_sign, (.stmts b_sign), s_sign, 3, [], .none, .none, .none, .str "law_dn0158_01" 1255, none, .ref 772, .none, 0⟩, #[]⟩
noncomputable def o776 (P : Params) : Obj := ⟨.type "tuple", none, .seq #[.str "digits" 1277, .str "words" 1278, .str "d" 1279] 0, #[]⟩
noncomputable def o778 (P : Params) : Obj := ⟨.none, none, .func ⟨"_law_words", "_law_words", p_words, (.stmts b_words), s_words, 0, [], .none, .none, .none, .none, none, .none, .none, 0⟩, #[]⟩
noncomputable def o779 (P : Params) : Obj := ⟨.type "code", none, .fields #[.str "_law_words" 1274, .str "_law_words" 1275, .str "/claim/cut.py" 1276, .int 760 0, .int 1 0, .int 0 0, .int 0 0, .int 3 0, .ref 774, .bool true, .int 318 0, .ref 775, .none, .ref 776, .ref 777, .ref 778, .int 1280 0, .int 760 0, .str "/claim/cut.py" 1281], #[]⟩
noncomputable def o780 (P : Params) : Obj := ⟨.type "function", none, .func ⟨"_law_words", "_law_words", p_words, (.stmts b_words), s_words, 3, [], .none, .none, .none, .str "law_dn0158_01" 1255, none, .ref 779, .none, 0⟩, #[]⟩
noncomputable def o783 (P : Params) : Obj := ⟨.none, none, .func ⟨"_law_is_bare", "_law_is_bare", p_isbare, (.stmts b_isbare), s_isbare, 0, [], .none, .none, .none, .none, none, .none, .none, 0⟩, #[]⟩
noncomputable def o784 (P : Params) : Obj := ⟨.type "code", none, .fields #[.str "_law_is_bare" 1283, .str "_law_is_bare" 1284, .str "/claim/cut.py" 1285, .int 770 0, .int 1 0, .int 0 0, .int 0 0, .int 3 0, .ref 781, .bool true, .int 318 0, .ref 782, .none, .none, .none, .ref 783, .int 1286 0, .int 770 0, .str "/claim/cut.py" 1287], #[]⟩
noncomputable def o785 (P : Params) : Obj := ⟨.type "function", none, .func ⟨"_law_is_bare", "_law_is_bare", p_isbare, (.stmts b_isbare), s_isbare, 3, [], .none, .none, .none, .str "law_dn0158_01" 1255, none, .ref 784, .none, 0⟩, #[]⟩
noncomputable def o788 (P : Params) : Obj := ⟨.type "tuple", none, .seq #[.str "words" 1292, .str "marks" 1293, .str "k" 1294, .str "sign" 1295] 0, #[]⟩
noncomputable def o790 (P : Params) : Obj := ⟨.none, none, .func ⟨"_law_marks", "_law_marks", p_marks, (.stmts b_marks), s_marks, 0, [], .none, .none, .none, .none, none, .none, .none, 0⟩, #[]⟩
noncomputable def o791 (P : Params) : Obj := ⟨.type "code", none, .fields #[.str "_law_marks" 1289, .str "_law_marks" 1290, .str "/claim/cut.py" 1291, .int 773 0, .int 1 0, .int 0 0, .int 0 0, .int 3 0, .ref 786, .bool true, .int 318 0, .ref 787, .none, .ref 788, .ref 789, .ref 790, .int 1296 0, .int 773 0, .str "/claim/cut.py" 1297], #[]⟩
noncomputable def o792 (P : Params) : Obj := ⟨.type "function", none, .func ⟨"_law_marks", "_law_marks", p_marks, (.stmts b_marks), s_marks, 3, [], .none, .none, .none, .str "law_dn0158_01" 1255, none, .ref 791, .none, 0⟩, #[]⟩
noncomputable def o795 (P : Params) : Obj := ⟨.type "tuple", none, .seq #[.str "marks" 1302, .str "words" 1303, .str "tokens" 1304, .str "fresh" 1305, .str "inside" 1306, .str "sign" 1307, .str "mark" 1308] 0, #[]⟩
noncomputable def o797 (P : Params) : Obj := ⟨.none, none, .func ⟨"_law_read", "_law_read", p_lread, (.stmts b_lread), s_lread, 0, [], .none, .none, .none, .none, none, .none, .none, 0⟩, #[]⟩
noncomputable def o798 (P : Params) : Obj := ⟨.type "code", none, .fields #[.str "_law_read" 1299, .str "_law_read" 1300, .str "/claim/cut.py" 1301, .int 790 0, .int 1 0, .int 0 0, .int 0 0, .int 3 0, .ref 793, .bool true, .int 318 0, .ref 794, .none, .ref 795, .ref 796, .ref 797, .int 1309 0, .int 790 0, .str "/claim/cut.py" 1310], #[]⟩
noncomputable def o799 (P : Params) : Obj := ⟨.type "function", none, .func ⟨"_law_read", "_law_read", p_lread, (.stmts b_lread), s_lread, 3, [], .none, .none, .none, .str "law_dn0158_01" 1255, none, .ref 798, .none, 0⟩, #[]⟩
noncomputable def o802 (P : Params) : Obj := ⟨.none, none, .func ⟨"law", "law", p_law, (.stmts b_law), s_law, 0, [], .none, .none, .none, .none, none, .none, .none, 0⟩, #[]⟩
noncomputable def o803 (P : Params) : Obj := ⟨.type "code", none, .fields #[.str "law" 1312, .str "law" 1313, .str "/claim/cut.py" 1314, .int 812 0, .int 1 0, .int 0 0, .int 0 0, .int 3 0, .ref 800, .bool true, .int 318 0, .ref 801, .none, .none, .none, .ref 802, .int 1315 0, .int 812 0, .str "/claim/cut.py" 1316], #[]⟩
noncomputable def o804 (P : Params) : Obj := ⟨.type "function", none, .func ⟨"law", "law", p_law, (.stmts b_law), s_law, 3, [], .none, .none, .none, .str "law_dn0158_01" 1255, none, .ref 803, .none, 0⟩, #[]⟩
noncomputable def L0 (P : Params) : List Obj := [o0 P, o1 P, o2v43 P, o3v44 P, o4 P, o5 P, o6 P, o7 P, o8 P, o9 P, o10 P, o11 P, o12 P, o13 P, o14 P, o7 P, o16 P, o17 P, o18 P, o19 P, o20 P, o21 P, o22 P, o23 P, o24 P, o25 P, o26 P, o27 P, o28 P, o29 P, o30 P, o19 P, o32 P, o33 P]
noncomputable def L1 (P : Params) : List Obj := [o0 P, o1 P, o2v43 P, o3v44 P, o4 P, o5 P, o6 P, o7 P, o8 P, o9 P, o10 P, o11 P, o12 P, o13 P, o14 P, o7 P, o16 P, o17 P, o18 P, o19 P, o20 P, o21 P, o22 P, o23 P, o24 P, o25 P, o26 P, o27 P, o28 P, o29 P, o30 P, o19 P, o32 P, o33 P, o7 P, o8 P, o36 P, o37 P]
noncomputable def L5 (P : Params) : List Obj := [o0 P, o1 P, o2 P, o3v162 P, o4 P, o5 P, o6 P, o7 P, o8 P, o9 P, o10 P, o11 P, o12 P, o13 P, o14 P, o7 P, o16 P, o17 P, o18 P, o19 P, o20 P, o21 P, o22 P, o23 P, o24 P, o25 P, o26 P, o27 P, o28 P, o29 P, o30 P, o19 P, o32 P, o33 P, o7 P, o35v163 P, o36 P, o37 P, o7 P, o8 P, o40 P, o7 P, o42 P, o43 P, o44 P, o45 P, o6 P, o47 P, o48 P, o49 P, o7 P, o8 P, o52 P, o7 P, o54 P, o55 P, o56 P, o7 P, o8 P, o59 P, o7 P, o61 P, o62 P, o63 P, o64 P, o65 P, o66 P, o7 P, o8 P, o69 P, o70 P, o7 P, o72 P, o73 P, o74 P, o75 P, o76 P, o7 P, o65 P, o79 P, o7 P, o81 P, o82 P, o83 P, o7 P, o8 P, o86 P, o7 P, o88 P, o89 P, o90 P, o7 P, o92 P, o93 P, o94 P, o95 P, o96 P, o97 P, o98 P, o99 P, o65 P, o101 P, o7 P, o8 P, o104 P, o105 P, o7 P, o107 P, o108v159 P, o109 P, o110 P, o99 P, o65 P, o113 P, o7 P, o8 P, o116 P, o117 P, o7 P, o119 P, o120v174 P, o121 P, o122 P]
noncomputable def L6 (P : Params) : List Obj := [o0 P, o1 P, o2 P, o3v177 P, o4 P, o5 P, o6 P, o7 P, o8 P, o9 P, o10 P, o11 P, o12 P, o13 P, o14 P, o7 P, o16 P, o17 P, o18 P, o19 P, o20 P, o21 P, o22 P, o23 P, o24 P, o25 P, o26 P, o27 P, o28 P, o29 P, o30 P, o19 P, o32 P, o33 P, o7 P, o35v178 P, o36 P, o37 P, o7 P, o8 P, o40 P, o7 P, o42 P, o43 P, o44 P, o45 P, o6 P, o47 P, o48 P, o49 P, o7 P, o8 P, o52 P, o7 P, o54 P, o55 P, o56 P, o7 P, o8 P, o59 P, o7 P, o61 P, o62 P, o63 P, o64 P, o65 P, o66 P, o7 P, o8 P, o69 P, o70 P, o7 P, o72 P, o73 P, o74 P, o75 P, o76 P, o7 P, o65 P, o79 P, o7 P, o81 P, o82 P, o83 P, o7 P, o8 P, o86 P, o7 P, o88 P, o89 P, o90 P, o7 P, o92 P, o93 P, o94 P, o95 P, o96 P, o97 P, o98 P, o99 P, o65 P, o101 P, o7 P, o8 P, o104 P, o105 P, o7 P, o107 P, o108 P, o109 P, o110 P, o99 P, o65 P, o113 P, o7 P, o8 P, o116 P, o117 P, o7 P, o119 P, o120v174 P, o121 P, o122 P, o123 P, o65 P, o125 P, o7 P, o127 P, o128 P, o129 P, o47 P, o7 P, o8 P, o133 P, o7 P, o135 P, o136 P, o137 P, o7 P, o8 P, o140 P, o7 P, o142 P, o143 P, o144 P, o7 P, o8 P, o147 P, o7 P, o149 P, o150 P, o151 P, o7 P, o8 P, o154 P, o7 P, o156 P, o157 P, o158 P, o159 P, o7 P, o8 P, o162 P, o7 P, o164 P, o165 P, o166 P, o7 P, o8 P, o169 P, o7 P, o171 P, o172 P, o173 P, o7 P, o8 P, o176 P, o7 P, o178 P, o179 P, o180 P, o7 P, o8 P, o183 P, o7 P, o185 P, o186 P, o187 P, o7 P, o8 P, o190 P, o7 P, o192 P, o193 P, o194 P, o7 P, o8 P, o197 P, o7 P, o199 P, o200 P, o201 P, o7 P, o8 P, o204 P, o7 P, o206 P, o207 P, o208 P, o7 P, o8 P, o211 P, o7 P, o213 P, o214 P, o215 P, o7 P, o8 P, o218 P, o7 P, o220 P, o221 P, o222 P, o7 P, o8 P, o225 P, o7 P, o227 P, o228 P, o229 P, o7 P, o8 P, o232 P, o7 P, o234 P, o235 P, o236 P, o7 P, o8 P, o239 P, o7 P, o241 P, o242 P, o243 P, o7 P, o8 P, o246 P, o7 P, o248 P, o249 P, o250 P, o251 P, o7 P, o8 P, o254 P, o7 P, o256 P, o257 P, o258 P, o47 P, o7 P, o8 P, o262 P, o7 P, o264 P, o265 P, o266 P, o267 P, o7 P, o8 P, o270 P, o7 P, o272 P, o273 P, o274 P, o275 P, o7 P, o8 P, o278 P, o7 P, o280 P, o281 P, o282 P, o7 P, o8 P, o285 P, o7 P, o287 P, o288 P, o289 P, o7 P, o8 P, o292 P, o7 P, o294 P, o295 P, o296 P, o297 P, o7 P, o8 P, o300 P, o7 P, o302 P, o303 P, o304 P, o47 P, o7 P, o8 P, o308 P, o7 P, o310 P, o311 P, o312 P, o7 P, o8 P, o315 P, o7 P, o317 P, o318 P, o319 P, o7 P, o8 P, o322 P, o7 P, o324 P, o325 P, o326 P, o7 P, o8 P, o329 P, o7 P, o331 P, o332 P, o333 P, o7 P, o8 P, o336 P, o7 P, o338 P, o339 P, o340 P, o7 P, o8 P, o343 P, o7 P, o345 P, o346 P, o347 P, o348 P, o349 P, o350 P, o351 P, o352 P]
noncomputable def L7 (P : Params) : List Obj := [o0 P, o1 P, o2 P, o3v580 P, o4 P, o5 P, o6 P, o7 P, o8 P, o9 P, o10 P, o11 P, o12 P, o13 P, o14 P, o7 P, o16 P, o17 P, o18 P, o19 P, o20 P, o21 P, o22 P, o23 P, o24 P, o25 P, o26 P, o27 P, o28 P, o29 P, o30 P, o19 P, o32 P, o33 P, o7 P, o35v581 P, o36 P, o37 P, o7 P, o8 P, o40 P, o7 P, o42 P, o43 P, o44 P, o45 P, o6 P, o47 P, o48 P, o49 P, o7 P, o8 P, o52 P, o7 P, o54 P, o55 P, o56 P, o7 P, o8 P, o59 P, o7 P, o61 P, o62 P, o63 P, o64 P, o65 P, o66 P, o7 P, o8 P, o69 P, o70 P, o7 P, o72 P, o73 P, o74 P, o75 P, o76 P, o7 P, o65 P, o79 P, o7 P, o81 P, o82 P, o83 P, o7 P, o8 P, o86 P, o7 P, o88 P, o89 P, o90 P, o7 P, o92 P, o93 P, o94 P, o95 P, o96 P, o97 P, o98 P, o99 P, o65 P, o101 P, o7 P, o8 P, o104 P, o105 P, o7 P, o107 P, o108 P, o109 P, o110 P, o99 P, o65 P, o113 P, o7 P, o8 P, o116 P, o117 P, o7 P, o119 P, o120 P, o121 P, o122 P, o123 P, o65 P, o125 P, o7 P, o127 P, o128 P, o129 P, o47 P, o7 P, o8 P, o133 P, o7 P, o135 P, o136 P, o137 P, o7 P, o8 P, o140 P, o7 P, o142 P, o143 P, o144 P, o7 P, o8 P, o147 P, o7 P, o149 P, o150 P, o151 P, o7 P, o8 P, o154 P, o7 P, o156 P, o157 P, o158 P, o159 P, o7 P, o8 P, o162 P, o7 P, o164 P, o165 P, o166 P, o7 P, o8 P, o169 P, o7 P, o171 P, o172 P, o173 P, o7 P, o8 P, o176 P, o7 P, o178 P, o179 P, o180 P, o7 P, o8 P, o183 P, o7 P, o185 P, o186 P, o187 P, o7 P, o8 P, o190 P, o7 P, o192 P, o193 P, o194 P, o7 P, o8 P, o197 P, o7 P, o199 P, o200 P, o201 P, o7 P, o8 P, o204 P, o7 P, o206 P, o207 P, o208 P, o7 P, o8 P, o211 P, o7 P, o213 P, o214 P, o215 P, o7 P, o8 P, o218 P, o7 P, o220 P, o221 P, o222 P, o7 P, o8 P, o225 P, o7 P, o227 P, o228 P, o229 P, o7 P, o8 P, o232 P, o7 P, o234 P, o235 P, o236 P, o7 P, o8 P, o239 P, o7 P, o241 P, o242 P, o243 P, o7 P, o8 P, o246 P, o7 P, o248 P, o249 P, o250 P, o251 P, o7 P, o8 P, o254 P, o7 P, o256 P, o257 P, o258 P, o47 P, o7 P, o8 P, o262 P, o7 P, o264 P, o265 P, o266 P, o267 P, o7 P, o8 P, o270 P, o7 P, o272 P, o273 P, o274 P, o275 P, o7 P, o8 P, o278 P, o7 P, o280 P, o281 P, o282 P, o7 P, o8 P, o285 P, o7 P, o287 P, o288 P, o289 P, o7 P, o8 P, o292 P, o7 P, o294 P, o295 P, o296 P, o297 P, o7 P, o8 P, o300 P, o7 P, o302 P, o303 P, o304 P, o47 P, o7 P, o8 P, o308 P, o7 P, o310 P, o311 P, o312 P, o7 P, o8 P, o315 P, o7 P, o317 P, o318 P, o319 P, o7 P, o8 P, o322 P, o7 P, o324 P, o325 P, o326 P, o7 P, o8 P, o329 P, o7 P, o331 P, o332 P, o333 P, o7 P, o8 P, o336 P, o7 P, o338 P, o339 P, o340 P, o7 P, o8 P, o343 P, o7 P, o345 P, o346 P, o347 P, o348 P, o349 P, o350 P, o351 P, o352 P, o353 P, o65 P, o355 P, o7 P, o357 P, o358 P, o359 P, o360 P, o7 P, o8 P, o363 P, o7 P, o365 P, o366 P, o367 P, o7 P, o8 P, o370 P, o7 P, o372 P, o373 P, o374 P, o7 P, o8 P, o377 P, o7 P, o379 P, o380 P, o381 P, o7 P, o8 P, o384 P, o7 P, o386 P, o387 P, o388 P, o7 P, o8 P, o391 P, o7 P, o393 P, o394 P, o395 P, o7 P, o8 P, o398 P, o7 P, o400 P, o401 P, o402 P, o403 P, o7 P, o8 P, o406 P, o7 P, o408 P, o409 P, o410 P, o411 P, o7 P, o8 P, o414 P, o7 P, o416 P, o417 P, o418 P, o419 P, o7 P, o8 P, o422 P, o7 P, o424 P, o425 P, o426 P, o427 P, o7 P, o8 P, o430 P, o7 P, o432 P, o433 P, o434 P, o435 P, o7 P, o8 P, o438 P, o7 P, o440 P, o441 P, o442 P, o7 P, o8 P, o445 P, o7 P, o447 P, o448 P, o449 P, o7 P, o8 P, o452 P, o7 P, o454 P, o455 P, o456 P, o7 P, o8 P, o459 P, o7 P, o461 P, o462 P, o463 P, o7 P, o8 P, o466 P, o7 P, o468 P, o469 P, o470 P, o7 P, o8 P, o473 P, o7 P, o475 P, o476 P, o477 P, o7 P, o8 P, o480 P, o7 P, o482 P, o483 P, o484 P, o7 P, o8 P, o487 P, o7 P, o489 P, o490 P, o491 P, o7 P, o8 P, o494 P, o7 P, o496 P, o497 P, o498 P, o7 P, o8 P, o501 P, o7 P, o503 P, o504 P, o505 P, o7 P, o8 P, o508 P, o7 P, o510 P, o511 P, o512 P, o7 P, o8 P, o515 P, o7 P, o517 P, o518 P, o519 P, o520 P, o7 P, o8 P, o523 P, o7 P, o525 P, o526 P, o527 P, o47 P, o7 P, o8 P, o531 P, o7 P, o533 P, o534 P, o535 P, o536 P, o7 P, o8 P, o539 P, o7 P, o541 P, o542 P, o543 P, o544 P, o7 P, o8 P, o547 P, o7 P, o549 P, o550 P, o551 P, o552 P, o7 P, o8 P, o555 P, o7 P, o557 P, o558 P, o559 P, o7 P, o8 P, o562 P, o7 P, o564 P, o565 P, o566 P, o7 P, o8 P, o569 P, o7 P, o571 P, o572 P, o573 P, o7 P, o8 P, o576 P, o7 P, o578 P, o579 P, o580 P, o7 P, o8 P, o583 P, o7 P, o585 P, o586 P, o587 P, o7 P, o8 P, o590 P, o7 P, o592 P, o593 P, o594 P, o595 P, o596 P, o597 P, o598 P, o599 P]
noncomputable def L9 (P : Params) : List Obj := [o0 P, o1 P, o2 P, o3v1094 P, o4 P, o5 P, o6 P, o7 P, o8 P, o9 P, o10 P, o11 P, o12 P, o13 P, o14 P, o7 P, o16 P, o17 P, o18 P, o19 P, o20 P, o21 P, o22 P, o23 P, o24 P, o25 P, o26 P, o27 P, o28 P, o29 P, o30 P, o19 P, o32 P, o33 P, o7 P, o35v1095 P, o36 P, o37 P, o7 P, o8 P, o40 P, o7 P, o42 P, o43 P, o44 P, o45 P, o6 P, o47 P, o48 P, o49 P, o7 P, o8 P, o52 P, o7 P, o54 P, o55 P, o56 P, o7 P, o8 P, o59 P, o7 P, o61 P, o62 P, o63 P, o64 P, o65 P, o66 P, o7 P, o8 P, o69 P, o70 P, o7 P, o72 P, o73 P, o74 P, o75 P, o76 P, o7 P, o65 P, o79 P, o7 P, o81 P, o82 P, o83 P, o7 P, o8 P, o86 P, o7 P, o88 P, o89 P, o90 P, o7 P, o92 P, o93 P, o94 P, o95 P, o96 P, o97 P, o98 P, o99 P, o65 P, o101 P, o7 P, o8 P, o104 P, o105 P, o7 P, o107 P, o108 P, o109 P, o110 P, o99 P, o65 P, o113 P, o7 P, o8 P, o116 P, o117 P, o7 P, o119 P, o120 P, o121 P, o122 P, o123 P, o65 P, o125 P, o7 P, o127 P, o128 P, o129 P, o47 P, o7 P, o8 P, o133 P, o7 P, o135 P, o136 P, o137 P, o7 P, o8 P, o140 P, o7 P, o142 P, o143 P, o144 P, o7 P, o8 P, o147 P, o7 P, o149 P, o150 P, o151 P, o7 P, o8 P, o154 P, o7 P, o156 P, o157 P, o158 P, o159 P, o7 P, o8 P, o162 P, o7 P, o164 P, o165 P, o166 P, o7 P, o8 P, o169 P, o7 P, o171 P, o172 P, o173 P, o7 P, o8 P, o176 P, o7 P, o178 P, o179 P, o180 P, o7 P, o8 P, o183 P, o7 P, o185 P, o186 P, o187 P, o7 P, o8 P, o190 P, o7 P, o192 P, o193 P, o194 P, o7 P, o8 P, o197 P, o7 P, o199 P, o200 P, o201 P, o7 P, o8 P, o204 P, o7 P, o206 P, o207 P, o208 P, o7 P, o8 P, o211 P, o7 P, o213 P, o214 P, o215 P, o7 P, o8 P, o218 P, o7 P, o220 P, o221 P, o222 P, o7 P, o8 P, o225 P, o7 P, o227 P, o228 P, o229 P, o7 P, o8 P, o232 P, o7 P, o234 P, o235 P, o236 P, o7 P, o8 P, o239 P, o7 P, o241 P, o242 P, o243 P, o7 P, o8 P, o246 P, o7 P, o248 P, o249 P, o250 P, o251 P, o7 P, o8 P, o254 P, o7 P, o256 P, o257 P, o258 P, o47 P, o7 P, o8 P, o262 P, o7 P, o264 P, o265 P, o266 P, o267 P, o7 P, o8 P, o270 P, o7 P, o272 P, o273 P, o274 P, o275 P, o7 P, o8 P, o278 P, o7 P, o280 P, o281 P, o282 P, o7 P, o8 P, o285 P, o7 P, o287 P, o288 P, o289 P, o7 P, o8 P, o292 P, o7 P, o294 P, o295 P, o296 P, o297 P, o7 P, o8 P, o300 P, o7 P, o302 P, o303 P, o304 P, o47 P, o7 P, o8 P, o308 P, o7 P, o310 P, o311 P, o312 P, o7 P, o8 P, o315 P, o7 P, o317 P, o318 P, o319 P, o7 P, o8 P, o322 P, o7 P, o324 P, o325 P, o326 P, o7 P, o8 P, o329 P, o7 P, o331 P, o332 P, o333 P, o7 P, o8 P, o336 P, o7 P, o338 P, o339 P, o340 P, o7 P, o8 P, o343 P, o7 P, o345 P, o346 P, o347 P, o348 P, o349 P, o350 P, o351 P, o352 P, o353 P, o65 P, o355 P, o7 P, o357 P, o358 P, o359 P, o360 P, o7 P, o8 P, o363 P, o7 P, o365 P, o366 P, o367 P, o7 P, o8 P, o370 P, o7 P, o372 P, o373 P, o374 P, o7 P, o8 P, o377 P, o7 P, o379 P, o380 P, o381 P, o7 P, o8 P, o384 P, o7 P, o386 P, o387 P, o388 P, o7 P, o8 P, o391 P, o7 P, o393 P, o394 P, o395 P, o7 P, o8 P, o398 P, o7 P, o400 P, o401 P, o402 P, o403 P, o7 P, o8 P, o406 P, o7 P, o408 P, o409 P, o410 P, o411 P, o7 P, o8 P, o414 P, o7 P, o416 P, o417 P, o418 P, o419 P, o7 P, o8 P, o422 P, o7 P, o424 P, o425 P, o426 P, o427 P, o7 P, o8 P, o430 P, o7 P, o432 P, o433 P, o434 P, o435 P, o7 P, o8 P, o438 P, o7 P, o440 P, o441 P, o442 P, o7 P, o8 P, o445 P, o7 P, o447 P, o448 P, o449 P, o7 P, o8 P, o452 P, o7 P, o454 P, o455 P, o456 P, o7 P, o8 P, o459 P, o7 P, o461 P, o462 P, o463 P, o7 P, o8 P, o466 P, o7 P, o468 P, o469 P, o470 P, o7 P, o8 P, o473 P, o7 P, o475 P, o476 P, o477 P, o7 P, o8 P, o480 P, o7 P, o482 P, o483 P, o484 P, o7 P, o8 P, o487 P, o7 P, o489 P, o490 P, o491 P, o7 P, o8 P, o494 P, o7 P, o496 P, o497 P, o498 P, o7 P, o8 P, o501 P, o7 P, o503 P, o504 P, o505 P, o7 P, o8 P, o508 P, o7 P, o510 P, o511 P, o512 P, o7 P, o8 P, o515 P, o7 P, o517 P, o518 P, o519 P, o520 P, o7 P, o8 P, o523 P, o7 P, o525 P, o526 P, o527 P, o47 P, o7 P, o8 P, o531 P, o7 P, o533 P, o534 P, o535 P, o536 P, o7 P, o8 P, o539 P, o7 P, o541 P, o542 P, o543 P, o544 P, o7 P, o8 P, o547 P, o7 P, o549 P, o550 P, o551 P, o552 P, o7 P, o8 P, o555 P, o7 P, o557 P, o558 P, o559 P, o7 P, o8 P, o562 P, o7 P, o564 P, o565 P, o566 P, o7 P, o8 P, o569 P, o7 P, o571 P, o572 P, o573 P, o7 P, o8 P, o576 P, o7 P, o578 P, o579 P, o580 P, o7 P, o8 P, o583 P, o7 P, o585 P, o586 P, o587 P, o7 P, o8 P, o590 P, o7 P, o592 P, o593 P, o594 P, o595 P, o596 P, o597 P, o598 P, o599 P, o7 P, o8 P, o602 P, o7 P, o604 P, o605 P, o606 P, o7 P, o8 P, o609 P, o7 P, o611 P, o612 P, o613 P, o7 P, o8 P, o616 P, o7 P, o618 P, o619 P, o620 P, o7 P, o8 P, o623 P, o7 P, o625 P, o626 P, o627 P, o7 P, o8 P, o630 P, o7 P, o632 P, o633 P, o634 P, o7 P, o8 P, o637 P, o7 P, o639 P, o640 P, o641 P, o7 P, o65 P, o644 P, o7 P, o646 P, o647 P, o648 P, o649 P, o7 P, o8 P, o652 P, o7 P, o654 P, o655 P, o656 P, o7 P, o8 P, o659 P, o7 P, o661 P, o662 P, o663 P, o664 P, o7 P, o8 P, o667 P, o7 P, o669 P, o670 P, o671 P, o47 P, o7 P, o8 P, o675 P, o7 P, o677 P, o678 P, o679 P, o7 P, o8 P, o682 P, o7 P, o684 P, o685 P, o686 P, o7 P, o8 P, o689 P, o7 P, o691 P, o692 P, o693 P, o7 P, o8 P, o696 P, o7 P, o698 P, o699 P, o700 P, o7 P, o8 P, o703 P, o7 P, o705 P, o706 P, o707 P, o708 P, o7 P, o8 P, o711 P, o7 P, o713 P, o714 P, o715 P, o7 P, o8 P, o718 P, o7 P, o720 P, o721 P, o722 P, o7 P, o8 P, o725 P, o7 P, o727 P, o728 P, o729 P, o730 P, o731 P, o732 P, o733 P, o734 P, o735 P, o736 P]
noncomputable def L10 (P : Params) : List Obj := [o0 P, o1 P, o2 P, o3 P, o4 P, o5 P, o6 P, o7 P, o8 P, o9 P, o10 P, o11 P, o12 P, o13 P, o14 P, o7 P, o16 P, o17 P, o18 P, o19 P, o20 P, o21 P, o22 P, o23 P, o24 P, o25 P, o26 P, o27 P, o28 P, o29 P, o30 P, o19 P, o32 P, o33 P, o7 P, o35 P, o36 P, o37 P, o7 P, o8 P, o40 P, o7 P, o42 P, o43 P, o44 P, o45 P, o6 P, o47 P, o48 P, o49 P, o7 P, o8 P, o52 P, o7 P, o54 P, o55 P, o56 P, o7 P, o8 P, o59 P, o7 P, o61 P, o62 P, o63 P, o64 P, o65 P, o66 P, o7 P, o8 P, o69 P, o70 P, o7 P, o72 P, o73 P, o74 P, o75 P, o76 P, o7 P, o65 P, o79 P, o7 P, o81 P, o82 P, o83 P, o7 P, o8 P, o86 P, o7 P, o88 P, o89 P, o90 P, o7 P, o92 P, o93 P, o94 P, o95 P, o96 P, o97 P, o98 P, o99 P, o65 P, o101 P, o7 P, o8 P, o104 P, o105 P, o7 P, o107 P, o108 P, o109 P, o110 P, o99 P, o65 P, o113 P, o7 P, o8 P, o116 P, o117 P, o7 P, o119 P, o120 P, o121 P, o122 P, o123 P, o65 P, o125 P, o7 P, o127 P, o128 P, o129 P, o47 P, o7 P, o8 P, o133 P, o7 P, o135 P, o136 P, o137 P, o7 P, o8 P, o140 P, o7 P, o142 P, o143 P, o144 P, o7 P, o8 P, o147 P, o7 P, o149 P, o150 P, o151 P, o7 P, o8 P, o154 P, o7 P, o156 P, o157 P, o158 P, o159 P, o7 P, o8 P, o162 P, o7 P, o164 P, o165 P, o166 P, o7 P, o8 P, o169 P, o7 P, o171 P, o172 P, o173 P, o7 P, o8 P, o176 P, o7 P, o178 P, o179 P, o180 P, o7 P, o8 P, o183 P, o7 P, o185 P, o186 P, o187 P, o7 P, o8 P, o190 P, o7 P, o192 P, o193 P, o194 P, o7 P, o8 P, o197 P, o7 P, o199 P, o200 P, o201 P, o7 P, o8 P, o204 P, o7 P, o206 P, o207 P, o208 P, o7 P, o8 P, o211 P, o7 P, o213 P, o214 P, o215 P, o7 P, o8 P, o218 P, o7 P, o220 P, o221 P, o222 P, o7 P, o8 P, o225 P, o7 P, o227 P, o228 P, o229 P, o7 P, o8 P, o232 P, o7 P, o234 P, o235 P, o236 P, o7 P, o8 P, o239 P, o7 P, o241 P, o242 P, o243 P, o7 P, o8 P, o246 P, o7 P, o248 P, o249 P, o250 P, o251 P, o7 P, o8 P, o254 P, o7 P, o256 P, o257 P, o258 P, o47 P, o7 P, o8 P, o262 P, o7 P, o264 P, o265 P, o266 P, o267 P, o7 P, o8 P, o270 P, o7 P, o272 P, o273 P, o274 P, o275 P, o7 P, o8 P, o278 P, o7 P, o280 P, o281 P, o282 P, o7 P, o8 P, o285 P, o7 P, o287 P, o288 P, o289 P, o7 P, o8 P, o292 P, o7 P, o294 P, o295 P, o296 P, o297 P, o7 P, o8 P, o300 P, o7 P, o302 P, o303 P, o304 P, o47 P, o7 P, o8 P, o308 P, o7 P, o310 P, o311 P, o312 P, o7 P, o8 P, o315 P, o7 P, o317 P, o318 P, o319 P, o7 P, o8 P, o322 P, o7 P, o324 P, o325 P, o326 P, o7 P, o8 P, o329 P, o7 P, o331 P, o332 P, o333 P, o7 P, o8 P, o336 P, o7 P, o338 P, o339 P, o340 P, o7 P, o8 P, o343 P, o7 P, o345 P, o346 P, o347 P, o348 P, o349 P, o350 P, o351 P, o352 P, o353 P, o65 P, o355 P, o7 P, o357 P, o358 P, o359 P, o360 P, o7 P, o8 P, o363 P, o7 P, o365 P, o366 P, o367 P, o7 P, o8 P, o370 P, o7 P, o372 P, o373 P, o374 P, o7 P, o8 P, o377 P, o7 P, o379 P, o380 P, o381 P, o7 P, o8 P, o384 P, o7 P, o386 P, o387 P, o388 P, o7 P, o8 P, o391 P, o7 P, o393 P, o394 P, o395 P, o7 P, o8 P, o398 P, o7 P, o400 P, o401 P, o402 P, o403 P, o7 P, o8 P, o406 P, o7 P, o408 P, o409 P, o410 P, o411 P, o7 P, o8 P, o414 P, o7 P, o416 P, o417 P, o418 P, o419 P, o7 P, o8 P, o422 P, o7 P, o424 P, o425 P, o426 P, o427 P, o7 P, o8 P, o430 P, o7 P, o432 P, o433 P, o434 P, o435 P, o7 P, o8 P, o438 P, o7 P, o440 P, o441 P, o442 P, o7 P, o8 P, o445 P, o7 P, o447 P, o448 P, o449 P, o7 P, o8 P, o452 P, o7 P, o454 P, o455 P, o456 P, o7 P, o8 P, o459 P, o7 P, o461 P, o462 P, o463 P, o7 P, o8 P, o466 P, o7 P, o468 P, o469 P, o470 P, o7 P, o8 P, o473 P, o7 P, o475 P, o476 P, o477 P, o7 P, o8 P, o480 P, o7 P, o482 P, o483 P, o484 P, o7 P, o8 P, o487 P, o7 P, o489 P, o490 P, o491 P, o7 P, o8 P, o494 P, o7 P, o496 P, o497 P, o498 P, o7 P, o8 P, o501 P, o7 P, o503 P, o504 P, o505 P, o7 P, o8 P, o508 P, o7 P, o510 P, o511 P, o512 P, o7 P, o8 P, o515 P, o7 P, o517 P, o518 P, o519 P, o520 P, o7 P, o8 P, o523 P, o7 P, o525 P, o526 P, o527 P, o47 P, o7 P, o8 P, o531 P, o7 P, o533 P, o534 P, o535 P, o536 P, o7 P, o8 P, o539 P, o7 P, o541 P, o542 P, o543 P, o544 P, o7 P, o8 P, o547 P, o7 P, o549 P, o550 P, o551 P, o552 P, o7 P, o8 P, o555 P, o7 P, o557 P, o558 P, o559 P, o7 P, o8 P, o562 P, o7 P, o564 P, o565 P, o566 P, o7 P, o8 P, o569 P, o7 P, o571 P, o572 P, o573 P, o7 P, o8 P, o576 P, o7 P, o578 P, o579 P, o580 P, o7 P, o8 P, o583 P, o7 P, o585 P, o586 P, o587 P, o7 P, o8 P, o590 P, o7 P, o592 P, o593 P, o594 P, o595 P, o596 P, o597 P, o598 P, o599 P, o7 P, o8 P, o602 P, o7 P, o604 P, o605 P, o606 P, o7 P, o8 P, o609 P, o7 P, o611 P, o612 P, o613 P, o7 P, o8 P, o616 P, o7 P, o618 P, o619 P, o620 P, o7 P, o8 P, o623 P, o7 P, o625 P, o626 P, o627 P, o7 P, o8 P, o630 P, o7 P, o632 P, o633 P, o634 P, o7 P, o8 P, o637 P, o7 P, o639 P, o640 P, o641 P, o7 P, o65 P, o644 P, o7 P, o646 P, o647 P, o648 P, o649 P, o7 P, o8 P, o652 P, o7 P, o654 P, o655 P, o656 P, o7 P, o8 P, o659 P, o7 P, o661 P, o662 P, o663 P, o664 P, o7 P, o8 P, o667 P, o7 P, o669 P, o670 P, o671 P, o47 P, o7 P, o8 P, o675 P, o7 P, o677 P, o678 P, o679 P, o7 P, o8 P, o682 P, o7 P, o684 P, o685 P, o686 P, o7 P, o8 P, o689 P, o7 P, o691 P, o692 P, o693 P, o7 P, o8 P, o696 P, o7 P, o698 P, o699 P, o700 P, o7 P, o8 P, o703 P, o7 P, o705 P, o706 P, o707 P, o708 P, o7 P, o8 P, o711 P, o7 P, o713 P, o714 P, o715 P, o7 P, o8 P, o718 P, o7 P, o720 P, o721 P, o722 P, o7 P, o8 P, o725 P, o7 P, o727 P, o728 P, o729 P, o730 P, o731 P, o732 P, o733 P, o734 P, o735 P, o736 P, o737 P, o7 P, o8 P, o740 P, o7 P, o742 P, o743 P, o744 P, o7 P, o8 P, o747 P, o7 P, o749 P, o750 P, o751 P, o752 P, o7 P, o8 P, o755 P, o7 P, o757 P, o758 P, o759 P, o7 P, o8 P, o762 P, o7 P, o764 P, o765 P, o766 P, o7 P, o8 P, o769 P, o7 P, o771 P, o772 P, o773 P, o7 P, o8 P, o776 P, o7 P, o778 P, o779 P, o780 P, o7 P, o8 P, o783 P, o784 P, o785 P, o7 P, o8 P, o788 P, o7 P, o790 P, o791 P, o792 P, o7 P, o8 P, o795 P, o7 P, o797 P, o798 P, o799 P, o7 P, o8 P, o802 P, o803 P, o804 P]
noncomputable def HK (P : Params) : Frag := (nat_lit 3, o3 P) :: (nat_lit 732, o732 P) :: (nat_lit 731, o731 P) :: (nat_lit 700, o700 P) :: (nat_lit 693, o693 P) :: (nat_lit 729, o729 P) :: (nat_lit 722, o722 P) :: (nat_lit 664, o664 P) :: (nat_lit 663, o663 P) :: (nat_lit 656, o656 P) :: (nat_lit 597, o597 P) :: (nat_lit 596, o596 P) :: (nat_lit 543, o543 P) :: (nat_lit 367, o367 P) :: (nat_lit 374, o374 P) :: (nat_lit 381, o381 P) :: (nat_lit 63, o63 P) :: (nat_lit 90, o90 P) :: (nat_lit 94, o94 P) :: (nat_lit 93, o93 P) :: (nat_lit 92, o92 P) :: (nat_lit 120, o120 P) :: (nat_lit 119, o119 P) :: (nat_lit 744, o744 P) :: (nat_lit 751, o751 P) :: (nat_lit 759, o759 P) :: (nat_lit 752, o752 P) :: (nat_lit 49, o49 P) :: (nat_lit 48, o48 P) :: (nat_lit 766, o766 P) :: (nat_lit 773, o773 P) :: (nat_lit 780, o780 P) :: (nat_lit 785, o785 P) :: (nat_lit 792, o792 P) :: (nat_lit 799, o799 P) :: (nat_lit 804, o804 P) :: (nat_lit 699, o699 P) :: (nat_lit 692, o692 P) :: (nat_lit 728, o728 P) :: (nat_lit 721, o721 P) :: (nat_lit 662, o662 P) :: (nat_lit 655, o655 P) :: (nat_lit 542, o542 P) :: (nat_lit 366, o366 P) :: (nat_lit 373, o373 P) :: (nat_lit 380, o380 P) :: (nat_lit 62, o62 P) :: (nat_lit 89, o89 P) :: (nat_lit 743, o743 P) :: (nat_lit 750, o750 P) :: (nat_lit 758, o758 P) :: (nat_lit 765, o765 P) :: (nat_lit 772, o772 P) :: (nat_lit 779, o779 P) :: (nat_lit 784, o784 P) :: (nat_lit 791, o791 P) :: (nat_lit 798, o798 P) :: (nat_lit 803, o803 P) :: (nat_lit 649, o649 P) :: (nat_lit 360, o360 P) :: (nat_lit 536, o536 P) :: (nat_lit 737, o737 P) :: (nat_lit 733, o733 P) :: (nat_lit 734, o734 P) :: (nat_lit 95, o95 P) :: (nat_lit 96, o96 P) :: (nat_lit 350, o350 P) :: (nat_lit 44, o44 P) :: (nat_lit 43, o43 P) :: (nat_lit 2, o2 P) :: []
noncomputable def HA : List Addr := [nat_lit 3, nat_lit 732, nat_lit 731, nat_lit 700, nat_lit 693, nat_lit 729, nat_lit 722, nat_lit 664, nat_lit 663, nat_lit 656, nat_lit 597, nat_lit 596, nat_lit 543, nat_lit 367, nat_lit 374, nat_lit 381, nat_lit 63, nat_lit 90, nat_lit 94, nat_lit 93, nat_lit 92, nat_lit 120, nat_lit 119, nat_lit 744, nat_lit 751, nat_lit 759, nat_lit 752, nat_lit 49, nat_lit 48, nat_lit 766, nat_lit 773, nat_lit 780, nat_lit 785, nat_lit 792, nat_lit 799, nat_lit 804, nat_lit 699, nat_lit 692, nat_lit 728, nat_lit 721, nat_lit 662, nat_lit 655, nat_lit 542, nat_lit 366, nat_lit 373, nat_lit 380, nat_lit 62, nat_lit 89, nat_lit 743, nat_lit 750, nat_lit 758, nat_lit 765, nat_lit 772, nat_lit 779, nat_lit 784, nat_lit 791, nat_lit 798, nat_lit 803, nat_lit 649, nat_lit 360, nat_lit 536, nat_lit 737, nat_lit 733, nat_lit 734, nat_lit 95, nat_lit 96, nat_lit 350, nat_lit 44, nat_lit 43, nat_lit 2]

example : PySem.Challenge.rw_dn0158_01 = PySem.Challenge.rw_dn0158_01 → HK = HK → True := by
  k_fill
  intros; trivial
section
/- the top's run in five pieces, each checked by the kernel -/
noncomputable abbrev PG : Program := PySem.Challenge.rw_dn0158_01.row.toRowW.prog
noncomputable def btOf (l : List Obj) : BT := (l.foldl (fun (x : BT × Nat) o => (x.1.ins x.2 o, x.2 + 1)) (.nil, 0)).1
noncomputable abbrev St (l : Params → List Obj) (n toks : Nat) (w : World) (os : OsState) : SharedT := ⟨btOf (l w.params), n, {}, #[], {}, toks, os⟩
noncomputable def EN : Env := { scope := PG.main.scope, locals := mainNs, globals := mainNs, cells := [], code := .ref 36, frame := some 37 }
noncomputable abbrev BD : List Stmt := behindTheImports PG
noncomputable abbrev CB : Code := .body BD EN
noncomputable abbrev P0 : Pos := ⟨0, 0, 0, 0⟩
theorem pc1 (w : World) (os : OsState) : segRunT treeTable PG w 34 (some (.ref 6)) 1 2000 (St L1 38 324 w os) (piecesOf (BD.take 9) EN CB P0 [topFrame P0]) = some (.next, St L5 123 479 w os, CB, ⟨31, 0, 32, 21⟩) := by kernel_rfl
theorem pc2 (w : World) (os : OsState) : segRunT treeTable PG w 34 (some (.ref 6)) 1 2000 (St L5 123 479 w os) (piecesOf ((BD.drop 9).take 1) EN CB ⟨31, 0, 32, 21⟩ [topFrame P0]) = some (.next, St L6 353 741 w os, CB, ⟨33, 0, 202, 17⟩) := by kernel_rfl
theorem pc3 (w : World) (os : OsState) : segRunT treeTable PG w 34 (some (.ref 6)) 1 2000 (St L6 353 741 w os) (piecesOf ((BD.drop 10).take 1) EN CB ⟨33, 0, 202, 17⟩ [topFrame P0]) = some (.next, St L7 600 1028 w os, CB, ⟨203, 0, 407, 17⟩) := by kernel_rfl
theorem pc4 (w : World) (os : OsState) : segRunT treeTable PG w 34 (some (.ref 6)) 1 2000 (St L7 600 1028 w os) (piecesOf ((BD.drop 11).take 10) EN CB ⟨203, 0, 407, 17⟩ [topFrame P0]) = some (.next, St L9 737 1228 w os, CB, ⟨473, 0, 724, 20⟩) := by kernel_rfl
theorem pc5 (w : World) (os : OsState) : segRunT treeTable PG w 34 (some (.ref 6)) 1 2000 (St L9 737 1228 w os) (piecesOf (BD.drop 21) EN CB ⟨473, 0, 724, 20⟩ [topFrame P0]) = some (.next, St L10 805 1318 w os, CB, ⟨812, 0, 831, 15⟩) := by kernel_rfl
theorem pcPre (w : World) (os : OsState) : topGo treeTable PG w 34 (some (.ref 6)) 12 (St L0 34 318 w os).abs (topStub PG) = some ((St L1 38 324 w os).abs, ⟨denote treeTable CB, CB, P0, [topFrame P0]⟩) := by kernel_rfl
theorem pcBlock (w : World) (os : OsState) : segRun treeTable PG w 34 (some (.ref 6)) 1 1 (St L1 38 324 w os).abs (blockOf BD EN CB P0 [topFrame P0]) = some (.next, (St L1 38 324 w os).abs, CB, P0) := by kernel_rfl
theorem pcEnd (w : World) (os : OsState) : topRun treeTable PG w 34 (some (.ref 6)) 2 (St L10 805 1318 w os).abs ⟨doneF .next, CB, ⟨812, 0, 831, 15⟩, [topFrame P0]⟩ = some (St L10 805 1318 w os).abs := by kernel_rfl

end
section
theorem piece_split {tb : String → Option Builtin} {p : Program} {w : World} {n₀ : Nat} {ann : Option Value} {env : Env} {q : Pos} {n N : Nat} {s s' r : Shared} {b b' : List Stmt} (k : Nat) {c : Code} {pos p' : Pos} (e : b.drop k = b')
    (h : segRun tb p w n₀ ann 1 n s (piecesOf (b.take k) env c pos [topFrame q]) = some (.next, s', c, p')) (kk : topRun tb p w n₀ ann N s' (restOf b' env c p' [topFrame q]) = some r) :
    topRun tb p w n₀ ann (n + N) s (restOf b env c pos [topFrame q]) = some r := by
  subst e
  have := piece_app h kk
  rwa [List.take_append_drop] at this
theorem runs (w : World) (os : OsState) : topRun treeTable PG w 34 (some (.ref 6)) (12 + (1 + (2000 + (2000 + (2000 + (2000 + (2000 + 2))))))) (St L0 34 318 w os).abs (topStub PG) = some (St L10 805 1318 w os).abs :=
  go_top (pcPre w os) (piece_block (pcBlock w os) (piece_split 9 rfl (segRun_of (pc1 w os)) (piece_split 1 (b' := BD.drop 10) (by rw [List.drop_drop]) (segRun_of (pc2 w os))
    (piece_split 1 (b' := BD.drop 11) (by rw [List.drop_drop]) (segRun_of (pc3 w os)) (piece_split 10 (b' := BD.drop 21) (by rw [List.drop_drop]) (segRun_of (pc4 w os))
      (piece_split 13 (b' := []) (by rw [List.drop_drop]; kernel_rfl) (by rw [show (BD.drop 21).take 13 = BD.drop 21 by kernel_rfl]; exact segRun_of (pc5 w os)) (piece_nil (pcEnd w os))))))))
noncomputable abbrev lawSt : Stmt := by
  refine (fun (b : Stmt) (_ : stIn PySem.Challenge.pw_dn0158_01.main.body [35] = b) => b) ?b ?h
  case h => (conv => lhs; whnf)
noncomputable def VW : Program := { PG with main := { PG.main with body := [lawSt] } }
abbrev LL : List Str := ["__name__", "_sre", "deque", "_wall", "_twin_re_1", "_whence", "_index", "UnsupportedOperation", "IOBase", "BufferedIOBase", "TextIOBase", "BytesIO", "StringIO", "_kind", "_fspath", "_check_arg_types", "isabs", "join", "join_path", "dirname", "shlex", "split",
  "join_shlex", "_find_unsafe", "quote", "_law_digits", "_law_sign", "_law_words", "_law_is_bare", "_law_marks", "_law_read"]
noncomputable abbrev LS : List Str := looseW VW LL
theorem keysHK (P : Params) : HA = (HK P).map (·.1) := by kernel_rfl
noncomputable abbrev HH : Hook := kmHook HK HA keysHK [746]
noncomputable abbrev Xt (s : Shared) : Bool := xlAt VW [] s && recOk (RowW.records PySem.Challenge.rw_dn0158_01.row.toRowW) s
noncomputable abbrev H0 (P : Params) : Heap := absHeap (btOf (L0 P)) 34 {}
noncomputable abbrev H1 (P : Params) : Heap := absHeap (btOf (L10 P)) 805 {}
theorem runs' (w : World) (os : OsState) : topRun treeTable PG w 34 (some (.ref 6)) (12 + (1 + (2000 + (2000 + (2000 + (2000 + (2000 + 2))))))) ⟨H0 w.params, #[], {}, 318, os⟩ (topStub PG) = some ⟨H1 w.params, #[], {}, 1318, os⟩ := by
  have h := runs w os
  simp only [SharedT.abs] at h
  exact h
theorem opens (w : World) : (fencedOpening treeTable PG w 20000).map (fun s => (s.heap, s.gens, s.drawn, s.toks)) = some (H0 w.params, #[], {}, 318) := by kernel_rfl
theorem sized (w : World) : ((H0 w.params).isNs mainGlobals && (#[] : Array GenState).size == 0, (H0 w.params).objs.size, (H0 w.params).nsMap mainGlobals "__annotations__") = (true, 34, some (.ref 6)) := by kernel_rfl
theorem looked1 (w : World) : (fun os => (staticsOk (importedModules PG.main.body) (H0 w.params) (H1 w.params) && namesBound PG (H1 w.params) && gensDone ⟨H1 w.params, #[], {}, 1318, os⟩ && laidKept (H0 w.params) (H1 w.params))) = fun _ => true := by kernel_rfl
theorem looked2 (w : World) : (fun os => openSeen VW LL (importedModules PG.main.body) Xt true ⟨H1 w.params, #[], {}, 1318, os⟩) = fun _ => openGood VW LL := by kernel_rfl
theorem looked3 (w : World) : (fun os => HH.obs ⟨H1 w.params, #[], {}, 1318, os⟩) = fun _ => HH.val w := by kernel_rfl
theorem looked (w : World) : (fun os => ((staticsOk (importedModules PG.main.body) (H0 w.params) (H1 w.params) && namesBound PG (H1 w.params) && gensDone ⟨H1 w.params, #[], {}, 1318, os⟩ && laidKept (H0 w.params) (H1 w.params)),
        openSeen VW LL (importedModules PG.main.body) Xt true ⟨H1 w.params, #[], {}, 1318, os⟩, HH.obs ⟨H1 w.params, #[], {}, 1318, os⟩)) = fun _ => (true, openGood VW LL, HH.val w) :=
  funext fun os => looks_pair (congrFun (looked1 w) os) (looks_pair (congrFun (looked2 w) os) (congrFun (looked3 w) os))
theorem left : LeftO PG VW LL Xt HH.obs HH.val 20000 true :=
  @LeftO.of_pieces PG VW LL Xt HH.α HH.obs HH.val 20000 true H0 H1 #[] #[] {} {} 318 1318 34 (some (.ref 6)) (12 + (1 + (2000 + (2000 + (2000 + (2000 + (2000 + 2))))))) opens sized runs' (by decide +kernel) looked

end
section
theorem lo1 : sreFenced PG.main = true := by decide +kernel
theorem lo2 : ((moduleNames PG.main.body).isEmpty || lookedIntoSs (moduleNames PG.main.body) PG.main.body) = true := by decide +kernel
theorem lo3 : namesResolve PG = true := by decide +kernel
theorem lo4 : PG.boundNames.all (fun n => !worldNames.contains n) = true := by decide +kernel
theorem lo5b : (["vars", "dir", "locals"] : List Str).filter (readsOut PG PG.main.body) = [] := by decide +kernel
theorem lo5 : noRoadLSs { strict := !(importedModules PG.main.body).all cThrough.contains, foot := none, bare := (["vars", "dir", "locals"] : List Str).filter (readsOut PG PG.main.body) } PG.main.body = true := by
  rw [lo5b]
  decide +kernel
theorem lo6 : (namesMeet PG PG.main.body fun _ n => attrL n) = true := by decide +kernel
theorem loAll : looksOpen PG = true := by
  unfold looksOpen
  rw [lo1, lo2, lo3, lo4, lo5, lo6]
  rfl
theorem rowSaid : PySem.Challenge.rw_dn0158_01.row.wellSaid = true := by
  unfold OpenRow.wellSaid OpenRow.partSaid
  rw [loAll]
  decide +kernel
theorem wsaid : PySem.Challenge.rw_dn0158_01.wellSaid = true := by
  unfold OpenLaw.wellSaid
  rw [rowSaid]
  decide +kernel
theorem hdef : defOf VW PySem.Challenge.rw_dn0158_01.row.toRowW.name = some (⟨"law", p_law, b_law, s_law, ⟨812, 0, 831, 15⟩⟩, []) := by kernel_rfl
theorem hpdef : PG.theDef PySem.Challenge.rw_dn0158_01.row.toRowW.name = some (p_law, b_law, s_law) := by kernel_rfl
theorem hkw : kwWritten? p_law.kwonlyargs p_law.kw_defaults = some [] := by kernel_rfl
theorem hok : (chainsOk VW && opensWell PG && (frees PySem.Challenge.rw_dn0158_01.row.toRowW && PySem.Challenge.rw_dn0158_01.row.within.isEmpty)) = true := by kernel_rfl
theorem hwr : (!PySem.Challenge.rw_dn0158_01.row.writes || PySem.Challenge.rw_dn0158_01.row.records.isEmpty) = true := by kernel_rfl
theorem hprom : PySem.Challenge.rw_dn0158_01.row.toRowW.promised := ⟨[.list []], by decide +kernel, by decide +kernel⟩
theorem hbare : PG.bare := ⟨rfl, rfl, rfl, rfl, rfl, by decide +kernel⟩
theorem hd (walk : WalkO VW LL (XL VW []) HH.says PySem.Challenge.rw_dn0158_01.row.toRowW ⟨"law", p_law, b_law, s_law, ⟨812, 0, 831, 15⟩⟩ [] fun f vs => PySem.call f vs) : PySem.Challenge.rw_dn0158_01.Holds :=
  holds_law wsaid fun said => @holds_open PySem.Challenge.rw_dn0158_01.row VW LL Xt (XL VW []) HH.α HH.obs HH.val HH.says ⟨"law", p_law, b_law, s_law, ⟨812, 0, 831, 15⟩⟩ [] 20000 left HH.of HH.keeps (fun s e => xl_of s (Bool.and_eq_true_iff.mp e).1) XL.keeps hdef hpdef hkw
    (fun s e => recFacts_of (Bool.and_eq_true_iff.mp e).2) hwr said hok hbare hprom walk

end
section
/-- a text by its signs' numbers -/
def tx (l : List Nat) : Str := ⟨l.toArray⟩
theorem tx_length (l : List Nat) : (tx l).length = l.length := by simp [tx, Str.length]
theorem tx_append (a b : List Nat) : tx a ++ tx b = tx (a ++ b) := by
  show Str.append _ _ = _
  simp [tx, Str.append]
theorem tx_cps (x : Str) : x = tx x.cps.toList := by simp [tx]
theorem tx_inj {a b : List Nat} : tx a = tx b ↔ a = b := by
  constructor
  · intro h
    have := congrArg (fun x : Str => x.cps.toList) h
    simpa [tx] using this
  · rintro rfl; rfl
theorem sliceIdx (lo hi : Option Int) (i j n : Nat) (hlo : lo = some (i : Int) ∨ (lo = none ∧ i = 0)) (hhi : hi = some (j : Int) ∨ (hi = none ∧ j = n)) (hij : i ≤ j) (hj : j ≤ n) :
    Builtin.Str.strSliceIndices lo hi 1 n = (List.range (j - i)).map (i + ·) := by
  unfold Builtin.Str.strSliceIndices sliceRange
  have h1 : ¬ ((i : Int) < 0) := by omega
  have h2 : ¬ ((j : Int) < 0) := by omega
  have e1 : max (0 : Int) (min (i : Int) (n : Int)) = i := by omega
  have e2 : max (0 : Int) (min (j : Int) (n : Int)) = j := by omega
  have e3 : (if (i : Int) < (j : Int) then ((j : Int) - (i : Int) + 1 - 1) / 1 else 0).toNat = j - i := by
    split
    · rw [Int.ediv_one]; omega
    · omega
  rcases hlo with rfl | ⟨rfl, rfl⟩ <;> rcases hhi with rfl | ⟨rfl, rfl⟩ <;>
    simp only [show (1 : Int) > 0 by decide, if_true, h1, h2, if_false, e1, e2] <;> (try simp only [Int.ofNat_zero] at e3) <;> (try rw [e3]) <;>
    (apply List.map_congr_left; intro k _; omega)
theorem pick_range (l : List Nat) (i n : Nat) (h : i + n ≤ l.length) : ((List.range n).map (i + ·)).filterMap (l[·]?) = (l.drop i).take n := by
  induction n generalizing i with
  | zero => simp
  | succ n ih =>
    have hi : i < l.length := by omega
    rw [List.range_succ_eq_map, List.map_cons, List.filterMap_cons, Nat.add_zero, List.getElem?_eq_getElem hi, List.drop_eq_getElem_cons hi, List.take_succ_cons]
    have := ih (i + 1) (by omega)
    rw [← this, List.map_map]
    have e : ((fun x => i + x) ∘ Nat.succ) = (fun x => i + 1 + x) := by
      funext k
      simp only [Function.comp]
      omega
    rw [e]
theorem slice_gen (lo hi : Option Int) (l : List Nat) (i j : Nat) (hlo : lo = some (i : Int) ∨ (lo = none ∧ i = 0)) (hhi : hi = some (j : Int) ∨ (hi = none ∧ j = l.length)) (hij : i ≤ j) (hj : j ≤ l.length) :
    Txt.slice (tx l) lo hi = tx ((l.drop i).take (j - i)) := by
  unfold Txt.slice
  rw [tx_length, sliceIdx lo hi i j l.length hlo hhi hij hj]
  split
  · rename_i h
    simp only [BEq.rfl, Bool.true_and, List.length_map, List.length_range, beq_iff_eq] at h
    have : i = 0 := by omega
    subst this
    have : j = l.length := by omega
    subst this
    simp
  · show Str.mk _ = Str.mk _
    congr 2
    have := pick_range l i (j - i) (by omega)
    rw [← this]
    simp [tx]
theorem slice_ss (l : List Nat) (i j : Nat) (hij : i ≤ j) (hj : j ≤ l.length) : Txt.slice (tx l) (some (i : Int)) (some (j : Int)) = tx ((l.drop i).take (j - i)) := slice_gen _ _ l i j (.inl rfl) (.inl rfl) hij hj
theorem slice_ns (l : List Nat) (j : Nat) (hj : j ≤ l.length) : Txt.slice (tx l) none (some (j : Int)) = tx (l.take j) := by
  rw [slice_gen none _ l 0 j (.inr ⟨rfl, rfl⟩) (.inl rfl) (Nat.zero_le _) hj]; simp
theorem slice_one (l : List Nat) (i : Nat) (c : Nat) (h : l[i]? = some c) : Txt.slice (tx l) (some (i : Int)) (some ((i : Int) + 1)) = tx [c] := by
  obtain ⟨hi, rfl⟩ := List.getElem?_eq_some_iff.mp h
  have : ((i : Int) + 1) = ((i + 1 : Nat) : Int) := by omega
  rw [this, slice_ss l i (i + 1) (by omega) (by omega)]
  congr 1
  rw [show i + 1 - i = 1 by omega, List.drop_eq_getElem_cons hi, List.take_succ_cons, List.take_zero]

end
section
/-- the kinds of a written sign: between words, bare, opening, within, shutting -/
inductive Kd | bt | ba | op | inn | sh
  deriving DecidableEq
/-- the lexer's modes -/
inductive Md | S | A | Q (q : Nat)
  deriving DecidableEq
inductive Rt
  | bad
  | got (m : Option Md) (qd : Bool) (tk : List Nat) (rest : List (Nat × Kd))
/-- what read_token's loop comes to -/
noncomputable def run (px : Bool) : Md → Bool → List Nat → List (Nat × Kd) → Rt
  | .S, qd, tk, [] => .got none qd tk []
  | .A, qd, tk, [] => .got none qd tk []
  | .Q _, _, _, [] => .bad
  | .S, qd, tk, (c, k) :: r => match k with
    | .bt => run px .S qd tk r
    | .ba => run px .A qd [c] r
    | _ => run px (.Q c) qd (if px then tk else [c]) r
  | .A, qd, tk, (c, k) :: r => match k with
    | .bt => .got (some .S) qd tk r
    | .ba => run px .A qd (tk ++ [c]) r
    | _ => run px (.Q c) qd tk r
  | .Q q, _, tk, (c, k) :: r => match k with
    | .sh => if px then run px .A true tk r else .got (some .S) true (tk ++ [c]) r
    | _ => run px (.Q q) true (tk ++ [c]) r
/-- the signs that are written bare -/
def safeL : List Nat := "%+,-./0123456789:=@ABCDEFGHIJKLMNOPQRSTUVWXYZ_abcdefghijklmnopqrstuvwxyz".toList.map (·.toNat)
/-- the kinds are told truly -/
def Good (px : Bool) : Md → List (Nat × Kd) → Prop
  | _, [] => True
  | .S, (c, k) :: r => match k with
    | .bt => c = 32 ∧ Good px .S r
    | .ba => c ∈ safeL ∧ Good px .A r
    | .op => (c = 39 ∨ c = 34) ∧ Good px (.Q c) r
    | _ => False
  | .A, (c, k) :: r => match k with
    | .bt => c = 32 ∧ Good px .S r
    | .ba => c ∈ safeL ∧ Good px .A r
    | .op => (px = true ∧ (c = 39 ∨ c = 34)) ∧ Good px (.Q c) r
    | _ => False
  | .Q q, (c, k) :: r => match k with
    | .inn => (c ≠ q ∧ (q = 34 → c ≠ 92)) ∧ Good px (.Q q) r
    | .sh => c = q ∧ Good px (if px then .A else .S) r
    | _ => False
/-- «q in hay» is false | true, as the walk says it -/
abbrev Out (hay q : Str) : Prop := (Builtin.Str.occurrences hay q 0 hay.length 1).isEmpty = true
abbrev Inn (hay q : Str) : Prop := (Builtin.Str.occurrences hay q 0 hay.length 1).isEmpty = false
theorem occ_one (hay : Str) (c : Nat) : (Builtin.Str.occurrences hay (tx [c]) 0 hay.length 1).isEmpty = !decide (c ∈ hay.cps.toList) := by
  have h := PySem.StrLaws.found_one hay c
  rw [← h, Bool.not_not]; rfl
theorem out_one {hay : Str} {c : Nat} (h : c ∉ hay.cps.toList) : Out hay (tx [c]) := by
  show _ = true
  rw [occ_one, decide_eq_false h]; rfl
theorem inn_one {hay : Str} {c : Nat} (h : c ∈ hay.cps.toList) : Inn hay (tx [c]) := by
  show _ = false
  rw [occ_one, decide_eq_true h]; rfl
theorem of_inn {hay : Str} {c : Nat} (h : Inn hay (tx [c])) : c ∈ hay.cps.toList := by
  have : _ = false := h
  rw [occ_one] at this
  simpa using this
theorem safe_all : safeL.all (fun c => c != 32 && c != 9 && c != 13 && c != 10 && c != 92 && c != 39 && c != 34 && c != 35) = true := by decide +kernel
theorem safe_ne {c : Nat} (h : c ∈ safeL) : c ≠ 32 ∧ c ≠ 9 ∧ c ≠ 13 ∧ c ≠ 10 ∧ c ≠ 92 ∧ c ≠ 39 ∧ c ≠ 34 ∧ c ≠ 35 := by
  have := List.all_eq_true.mp safe_all c h
  simpa [and_assoc] using this
theorem ws_cps : (Str.ofString " \t\r\n").cps.toList = [32, 9, 13, 10] := by decide +kernel
theorem esc_cps : (Str.ofString "\\").cps.toList = [92] := by decide +kernel
theorem qs_cps : (Str.ofString "'\"").cps.toList = [39, 34] := by decide +kernel
theorem dq_cps : (Str.ofString "\"").cps.toList = [34] := by decide +kernel
theorem no_cps : (Str.ofString "").cps.toList = [] := by decide +kernel
theorem txeq (c q : Nat) : (tx [c] == tx [q]) = decide (c = q) := by
  rw [Bool.eq_iff_iff, beq_iff_eq, tx_inj, decide_eq_true_eq]
  simp

end
section
/-- an empty deque -/
noncomputable abbrev dqObj : Obj := { cls := .type "collections.deque", data := .fields #[.none, .int 0 0] }
theorem noBool_dq : typeLookup (.type "collections.deque") "__bool__" = pure none := by rw [typeLookup_type, builtinLookup_eq_fast]; kernel_rfl
theorem slot_dq_len : Slot "collections.deque" "__len__" "collections.deque.__len__" :=
  .of (owner := "collections.deque") (n := "__len__") (by rw [typeLookup_type, builtinLookup_eq_fast]; kernel_rfl) (by decide +kernel) (by decide +kernel) (by decide +kernel)
    (by first | exact .inl (by decide +kernel) | exact .inr (by decide +kernel)) (by rw [isSubtype_type]; kernel_rfl)
theorem entry_dq_len : entryFor table "collections.deque.__len__" = some Builtin.«collections.deque.__len__» := entryFor_of_fast (by kernel_rfl)
theorem args_dq_len (a : Value) : argsOk "collections.deque.__len__" ⟨[a], []⟩ := by unfold argsOk; kernel_rfl
section
variable {prog : Program} {w : World} {A : Around} {E : Value → Shared → Prop} {s : Shared}
theorem dq_typeIs {l : Addr} (hl : s.heap.get? l = some dqObj) : s.TypeIs (.ref l) "collections.deque" := ⟨_, hl, rfl⟩
theorem len_body_dq {l : Addr} {Q : Value → Shared → Prop} (hl : s.heap.get? l = some dqObj)
    (h : Q (.int 0 (s.toks + 1)) { s with toks := s.toks + 1 + 1 }) : wpAny (model prog w) A (Builtin.«len» ⟨[.ref l], []⟩) (fun fin s' => ∃ r, fin = .done (.ret r) ∧ Q r s') E s := by
  unfold Builtin.«len»
  refine wpAny_bind (m := oneArg "len" _) (wpAny_pure ?_)
  refine wpAny_bind (m := callSpecial? (.ref l) (Str.ofString "__len__")) (wpAny_callSpecial?_slot (name := Str.ofString "__len__") (dq_typeIs hl) slot_dq_len
    (wpAny_call_entry slot_dq_len (dq_typeIs hl) entry_dq_len ?_ (args_dq_len _)))
  show wpAny _ _ (do retInt (← Builtin.Deque.size (.ref l))) _ _ s
  unfold Builtin.Deque.size fieldsOf
  refine wpAny_bind (wpAny_bind (wpAny_bind (wpAny_load hl ?_)))
  refine wpAny_pure (wpAny_pure (wpAny_bind (wpAny_mkInt (wpAny_pure ⟨_, rfl, ?_⟩))))
  refine wpAny_bind (wpAny_holding (wpAny_pure ?_))
  refine wpAny_bind (wpAny_letGo ?_)
  exact wpAny_bind (wpAny_mkInt (wpAny_pure ⟨_, rfl, h⟩))
theorem truthy_dq {l : Addr} {Q : Bool → Shared → Prop} (hl : s.heap.get? l = some dqObj)
    (h : Q false { s with toks := s.toks + 1 + 1 }) : wpAny (model prog w) A (truthy (.ref l)) Q E s := by
  have key : wpAny (model prog w) A (runValue (.builtin "len" ⟨[.ref l], []⟩)) (fun r s' => r = .int 0 (s.toks + 1) ∧ Q false s') E s := by
    refine wpAny_runValue (codeAny_builtin entry_len ?_)
    rw [Around.under_plainId plain_len _]
    exact wpAny_mono (len_body_dq (Q := fun r s' => r = .int 0 (s.toks + 1) ∧ Q false s') hl ⟨rfl, h⟩)
      (fun fin s' h' => by obtain ⟨r, rfl, hq⟩ := h'; exact hq) fun _ _ e => e
  unfold truthy
  first
    | refine wpAny_bind (wpAny_callSpecial?_none (name := Str.ofString "__bool__") (dq_typeIs hl) noBool_dq ?_)
    | refine wpAny_bind (wpAny_pure (wpAny_bind (wpAny_callSpecial?_none (name := Str.ofString "__bool__") (dq_typeIs hl) noBool_dq ?_)))
  first
    | refine wpAny_bind (wpAny_specialOf (name := Str.ofString "__len__") (dq_typeIs hl) slot_dq_len.lookup ?_)
    | refine wpAny_bind (wpAny_pure (wpAny_bind (wpAny_specialOf (name := Str.ofString "__len__") (dq_typeIs hl) slot_dq_len.lookup ?_)))
  first
    | exact wpAny_bind (wpAny_mono key (fun r s' h' => by obtain ⟨rfl, hq⟩ := h'; exact wpAny_pure hq) fun _ _ e => e)
    | exact wpAny_bind (wpAny_pure (wpAny_bind (wpAny_mono key (fun r s' h' => by obtain ⟨rfl, hq⟩ := h'; exact wpAny_pure hq) fun _ _ e => e)))
end

end
section
theorem wpAny_weak {α : Type} {M : Model} {A A' : Around} {t : Sem α} {Q : α → Shared → Prop} {E : Value → Shared → Prop} {s : Shared} (h : wpAny M A' t Q E s) (h1 : A.handled = A'.handled) (h2 : A.depth ≤ A'.depth)
    (h3 : A.frames = A'.frames) (h4 : A'.guards = none) (h5 : A.units ≤ A'.units) : wpAny M A t Q E s := fun Γ p hΓ =>
  h Γ p ⟨hΓ.1.trans h1, Nat.le_trans hΓ.2.1 h2, fun l hl => hΓ.2.2.1 l (h3.trans hl), fun g hg => (by rw [h4] at hg; cases hg), Nat.le_trans hΓ.2.2.2.2 h5⟩
/-- what a StringIO's dict holds (κ: marks that nobody asks for) -/
noncomputable abbrev sioEs (w : World) (κ : Nat → Tok) (b : Str) (p : Int) (v : Tok) : List DictEntry :=
  [en w.params "_StringIO__newline" (κ 0) (.str "\n" (κ 3)), en w.params "_StringIO__buf" (κ 1) (.str b (κ 4)), en w.params "_StringIO__pos" (κ 2) (.int p v)]
section
variable {w : World} {A : Around} {cn : Str} {cs : Scope} {a : Addr} {ccd : Value} {cl : List (Str × Addr)} {outer : List Env} {A₀ : Around} {base h₀ : Heap} {L : Addr} {m : Str → Option Value} {mean : ExcName → Option Value} {mg mb : Str → Option Value} {s : Shared} {Q E : Value → Shared → Prop}
theorem c_read {x dx : Addr} {κ : Nat → Tok} {v t : Tok} {l : List Nat} {p : Nat} {rest : List (Addr × Obj)}
    (B : Below A₀ base outer h₀) (F : Fr h₀ L s.heap m) (X : (HK w.params).In h₀) (T : Top VW LS mean mg mb h₀) (hk : cs.kind = .function)
    (hA : A.frames = some (envX cn cs L a ccd cl :: outer)) (hh : A.handled = none) (hd : A.depth ≤ 800) (hu : A.units ≤ 800)
    (N : News h₀ L s.heap ((x, instObj 597 dx) :: (dx, dictOf (sioEs w κ (tx l) p v) 3) :: rest)) (hne : x ≠ dx) (hr : ∀ q ∈ rest, q.1 ≠ dx) (hl : l.length < 100000) (hp : p ≤ l.length)
    (post0 : l.length ≤ p → ∀ tr h' tk, Fr h₀ L h' m → News h₀ L h' ((x, instObj 597 dx) :: (dx, dictOf (sioEs w κ (tx l) p v) 3) :: rest) → Q (.str (tx []) tr) { s with heap := h', toks := tk })
    (post1 : ∀ c, l[p]? = some c → ∀ v' tr h' tk, Fr h₀ L h' m → News h₀ L h' ((x, instObj 597 dx) :: (dx, dictOf (sioEs w κ (tx l) (p + 1) v') 3) :: rest) → Q (.str (tx [c]) tr) { s with heap := h', toks := tk }) :
    wpAny (model PG w) A (call (.ref 543) [.ref x, .int 1 t]) Q E s := by
  refine wpAny_weak (A' := ktrTop 800 800 none cn cs L a ccd cl outer) ?_ hh hd hA rfl hu
  have hlen := tx_length l
  w_on
  refine wpAny_call ?_
  k_dflt (walk_at "m_enter")
  k_steps
  · exact post0 (by omega) _ _ _ (by k_asm) (by k_asm)
  · obtain ⟨c, hc⟩ : ∃ c, l[p]? = some c := ⟨l[p]'(by omega), List.getElem?_eq_getElem _⟩
    rw [slice_one l p c hc]
    exact post1 c hc _ _ _ _ (by k_asm) (by k_asm)
  · have e : ((tx l).length : Int) = (p : Int) + 1 := by omega
    obtain ⟨c, hc⟩ : ∃ c, l[p]? = some c := ⟨l[p]'(by omega), List.getElem?_eq_getElem _⟩
    simp only [e] at *
    rw [slice_one l p c hc]
    exact post1 c hc _ _ _ _ (by k_asm) (by k_asm)
end

end
section
noncomputable def whileBody (s : Stmt) : List Stmt := match s with | .While _ b _ _ => b | _ => []
noncomputable def ifTest (s : Stmt) : Expr := match s with | .If t _ _ _ => t | _ => .Constant .none 0 ⟨0, 0, 0, 0⟩
noncomputable def ifBody (s : Stmt) : List Stmt := match s with | .If _ b _ _ => b | _ => []
noncomputable def ifElse (s : Stmt) : List Stmt := match s with | .If _ _ b _ => b | _ => []
noncomputable def ifPos (s : Stmt) : Pos := match s with | .If _ _ _ p => p | _ => ⟨0, 0, 0, 0⟩
noncomputable def hd1 (l : List Stmt) : Stmt := l.headD (.Pass ⟨0, 0, 0, 0⟩)
noncomputable abbrev rtLoop : Stmt := by
  refine (fun (b : Stmt) (_ : b_readtok.getD 2 (.Pass ⟨0, 0, 0, 0⟩) = b) => b) ?b ?h
  case h => (conv => lhs; whnf)
noncomputable abbrev rtTail : List Stmt := by
  refine (fun (b : List Stmt) (_ : b_readtok.drop 3 = b) => b) ?b ?h
  case h => (conv => lhs; whnf)
noncomputable abbrev rtP1 : Stmt := by
  refine (fun (b : Stmt) (_ : (whileBody rtLoop).getD 0 (.Pass ⟨0, 0, 0, 0⟩) = b) => b) ?b ?h
  case h => (conv => lhs; whnf)
noncomputable abbrev rtP2 : Stmt := by
  refine (fun (b : Stmt) (_ : (whileBody rtLoop).getD 1 (.Pass ⟨0, 0, 0, 0⟩) = b) => b) ?b ?h
  case h => (conv => lhs; whnf)
noncomputable abbrev rtP3 : Stmt := by
  refine (fun (b : Stmt) (_ : (whileBody rtLoop).getD 2 (.Pass ⟨0, 0, 0, 0⟩) = b) => b) ?b ?h
  case h => (conv => lhs; whnf)
noncomputable abbrev rtBig : Stmt := by
  refine (fun (b : Stmt) (_ : (whileBody rtLoop).getD 3 (.Pass ⟨0, 0, 0, 0⟩) = b) => b) ?b ?h
  case h => (conv => lhs; whnf)
noncomputable abbrev rtEnv (L : Addr) : Env := envOf "shlex.read_token" s_readtok L 700 (.ref 699)
/-- what a lexer's dict holds (κ: marks that nobody asks for) -/
noncomputable abbrev lexEs (w : World) (κ : Nat → Tok) (y pb fs : Addr) (px : Bool) (eof : Value) (cm wc : Str) (st : Value) (ln : Int) (v13 : Tok) (tk : Str) (v15 : Tok) : List DictEntry :=
  [en w.params "instream" (κ 0) (.ref y), en w.params "infile" (κ 1) .none, en w.params "posix" (κ 2) (.bool px), en w.params "eof" (κ 3) eof, en w.params "commenters" (κ 4) (.str cm (κ 20)), en w.params "wordchars" (κ 5) (.str wc (κ 21)), en w.params "whitespace" (κ 6) (.str " \t\r\n" (κ 22)),
    en w.params "whitespace_split" (κ 7) (.bool true), en w.params "quotes" (κ 8) (.str "'\"" (κ 23)), en w.params "escape" (κ 9) (.str "\\" (κ 24)), en w.params "escapedquotes" (κ 10) (.str "\"" (κ 25)), en w.params "state" (κ 11) st, en w.params "pushback" (κ 12) (.ref pb), en w.params "lineno" (κ 13) (.int ln v13),
    en w.params "debug" (κ 14) (.int 0 (κ 26)), en w.params "token" (κ 15) (.str tk v15), en w.params "filestack" (κ 16) (.ref fs), en w.params "source" (κ 17) .none, en w.params "_punctuation_chars" (κ 18) (.str "" (κ 27))]
/-- what never changes of a lexer -/
structure Lx where
  κ : Nat → Tok
  μ : Nat → Tok
  x : Addr
  dx : Addr
  y : Addr
  dy : Addr
  pb : Addr
  fs : Addr
  px : Bool
  eof : Value
  cm : Str
  wc : Str
  rest : List (Addr × Obj)
  l : List Nat
/-- the ledger of a lexer: its state, line, token; the place in the text -/
noncomputable abbrev Lx.led (w : World) (X : Lx) (st : Value) (ln : Int) (v13 : Tok) (tk : Str) (v15 : Tok) (p : Nat) (u : Tok) : List (Addr × Obj) :=
  (X.x, instObj 732 X.dx) :: (X.dx, dictOf (lexEs w X.κ X.y X.pb X.fs X.px X.eof X.cm X.wc st ln v13 tk v15) 19) :: (X.y, instObj 597 X.dy) :: (X.dy, dictOf (sioEs w X.μ (tx X.l) p u) 3) :: X.rest
structure Lx.Ok (X : Lx) : Prop where
  a1 : X.x ≠ X.dx
  a2 : X.x ≠ X.dy
  a3 : X.y ≠ X.dx
  a4 : X.y ≠ X.dy
  a5 : X.dx ≠ X.dy
  r1 : ∀ q ∈ X.rest, q.1 ≠ X.dx
  r2 : ∀ q ∈ X.rest, q.1 ≠ X.dy
  len : X.l.length < 100000
theorem news_swap {h₀ h : Heap} {L : Addr} {a b c d : Addr × Obj} {r : List (Addr × Obj)} (N : News h₀ L h (a :: b :: c :: d :: r)) : News h₀ L h (c :: d :: a :: b :: r) := fun p hp => N p (by
  simp only [List.mem_cons] at hp ⊢
  rcases hp with h | h | h | h | h <;> simp [h])
def Halt (P : Prop) : Prop := P
theorem halt_ {P : Prop} (h : Halt P) : P := h
/-- the frame's names in the loop -/
abbrev rtM (x : Addr) (qd : Bool) (tq : Tok) (ncv : Option Value) (y : Str) : Option Value :=
  if y = Str.ofString "nextchar" then ncv else if y = Str.ofString "quoted" then some (.bool qd) else if y = Str.ofString "escapedstate" then some (.str " " tq) else if y = Str.ofString "self" then some (.ref x) else none
theorem rtM_next {x : Addr} {qd : Bool} {tq : Tok} {ncv ncv' : Option Value} : (fun y => if y = Str.ofString "nextchar" then ncv' else rtM x qd tq ncv y) = rtM x qd tq ncv' := by
  funext y
  unfold rtM
  split <;> rfl
theorem rtM_quoted {x : Addr} {qd : Bool} {tq : Tok} {ncv : Option Value} : (fun y => if y = Str.ofString "quoted" then some (.bool true) else rtM x qd tq ncv y) = rtM x true tq ncv := by
  funext y
  unfold rtM
  by_cases h : y = Str.ofString "quoted"
  · subst h
    rw [if_pos rfl, if_neg (by decide +kernel), if_pos rfl]
  · rw [if_neg h, if_neg h, if_neg h]
noncomputable abbrev rtA (L : Addr) (outer : List Env) : Around := ktrTop 700 700 none "shlex.read_token" s_readtok L 700 (.ref 699) [] outer
section
variable {w : World} {outer : List Env} {A₀ : Around} {base h₀ : Heap} {L : Addr} {mean : ExcName → Option Value} {mg mb : Str → Option Value} {s : Shared} {Q : Flow → Shared → Prop} {E : Value → Shared → Prop}
  {X : Lx} {st : Value} {ln : Int} {v13 v15 tq u : Tok} {tk : Str} {qd : Bool} {ncv : Option Value} {p : Nat} {bg : List Stmt}
local macro_rules | `(tactic| walk_at "call ref") => `(tactic| ((with_reducible show wpAny _ _ (call (Value.ref 543) _) _ _ _); refine halt_ ?_))
theorem rt_pre (B : Below A₀ base outer h₀) (F : Fr h₀ L s.heap (rtM X.x qd tq ncv)) (K : (HK w.params).In h₀) (T : Top VW LS mean mg mb h₀) (N : News h₀ L s.heap (X.led w st ln v13 tk v15 p u)) (ok : X.Ok) (hp : p ≤ X.l.length)
    (post0 : X.l.length ≤ p → ∀ tr h' k, Fr h₀ L h' (rtM X.x qd tq (some (.str (tx []) tr))) → News h₀ L h' (X.led w st ln v13 tk v15 p u) → wpAny (model PG w) (rtA L outer) (execs bg (rtEnv L)) Q E { s with heap := h', toks := k })
    (post1 : ∀ c, X.l[p]? = some c → ∀ ln' v13' u' tr h' k, Fr h₀ L h' (rtM X.x qd tq (some (.str (tx [c]) tr))) → News h₀ L h' (X.led w st ln' v13' tk v15 (p + 1) u') → wpAny (model PG w) (rtA L outer) (execs bg (rtEnv L)) Q E { s with heap := h', toks := k }) :
    wpAny (model PG w) (rtA L outer) (execs (rtP1 :: rtP2 :: rtP3 :: bg) (rtEnv L)) Q E s := by
  obtain ⟨κ, μ, x, dx, y, dy, pb, fs, px, eof, cm, wc, rest, l⟩ := X
  obtain ⟨a1, a2, a3, a4, a5, r1, r2, hl⟩ := ok
  replace a1 := neN a1; replace a2 := neN a2; replace a3 := neN a3; replace a4 := neN a4; replace a5 := neN a5
  dsimp only [Lx.led] at *
  w_on
  k_steps
  unfold Halt
  refine' c_read ?k1 ?k2 ?k3 ?k4 ?k5 ?k6 ?k7 ?k8 ?k9 ?k10 ?k11 ?k12 ?k13 ?k14 ?p0 ?p1; (case k6 => exact rfl); (case k2 => k_asm); (case k1 => k_asm); (case k3 => k_asm); (case k4 => k_asm); (case k5 => exact rfl); (case k7 => exact rfl); (case k8 => exact Nat.le_of_ble_eq_true rfl); (case k9 => exact Nat.le_of_ble_eq_true rfl); (case k10 => exact news_swap (by k_asm)); (case k11 => exact a4); (case k12 => exact List.forall_mem_cons.mpr ⟨a2, List.forall_mem_cons.mpr ⟨a5, r2⟩⟩); (case k13 => exact hl); (case k14 => exact hp)
  · intro q0 tr h9 k9 F9 N9
    replace N9 := news_swap N9
    k_steps
    all_goals (try dsimp only)
    all_goals (exact post0 q0 tr _ _ (by rw [← rtM_next]; k_asm) (by k_asm))
  · intro c hc u9 tr h9 k9 F9 N9
    replace N9 := news_swap N9
    k_steps
    all_goals (try dsimp only)
    all_goals (exact post1 c hc _ _ _ tr _ _ (by rw [← rtM_next]; k_asm) (by k_asm))
end

end
section
noncomputable abbrev dT0 : Expr := by
  refine (fun (b : Expr) (_ : ifTest rtBig = b) => b) ?b ?h
  case h => (conv => lhs; whnf)
noncomputable abbrev dB0 : List Stmt := by
  refine (fun (b : List Stmt) (_ : ifBody rtBig = b) => b) ?b ?h
  case h => (conv => lhs; whnf)
noncomputable abbrev dI1 : Stmt := by
  refine (fun (b : Stmt) (_ : hd1 (ifElse rtBig) = b) => b) ?b ?h
  case h => (conv => lhs; whnf)
noncomputable abbrev dT1 : Expr := by
  refine (fun (b : Expr) (_ : ifTest dI1 = b) => b) ?b ?h
  case h => (conv => lhs; whnf)
noncomputable abbrev dB1 : List Stmt := by
  refine (fun (b : List Stmt) (_ : ifBody dI1 = b) => b) ?b ?h
  case h => (conv => lhs; whnf)
noncomputable abbrev dI2 : Stmt := by
  refine (fun (b : Stmt) (_ : hd1 (ifElse dI1) = b) => b) ?b ?h
  case h => (conv => lhs; whnf)
noncomputable abbrev dT2 : Expr := by
  refine (fun (b : Expr) (_ : ifTest dI2 = b) => b) ?b ?h
  case h => (conv => lhs; whnf)
noncomputable abbrev dB2 : List Stmt := by
  refine (fun (b : List Stmt) (_ : ifBody dI2 = b) => b) ?b ?h
  case h => (conv => lhs; whnf)
noncomputable abbrev dI3 : Stmt := by
  refine (fun (b : Stmt) (_ : hd1 (ifElse dI2) = b) => b) ?b ?h
  case h => (conv => lhs; whnf)
noncomputable abbrev dT3 : Expr := by
  refine (fun (b : Expr) (_ : ifTest dI3 = b) => b) ?b ?h
  case h => (conv => lhs; whnf)
noncomputable abbrev dI4 : Stmt := by
  refine (fun (b : Stmt) (_ : hd1 (ifElse dI3) = b) => b) ?b ?h
  case h => (conv => lhs; whnf)
noncomputable abbrev dT4 : Expr := by
  refine (fun (b : Expr) (_ : ifTest dI4 = b) => b) ?b ?h
  case h => (conv => lhs; whnf)
noncomputable abbrev dB4 : List Stmt := by
  refine (fun (b : List Stmt) (_ : ifBody dI4 = b) => b) ?b ?h
  case h => (conv => lhs; whnf)
noncomputable abbrev dE4 : List Stmt := by
  refine (fun (b : List Stmt) (_ : ifElse dI4 = b) => b) ?b ?h
  case h => (conv => lhs; whnf)
noncomputable abbrev dB3 : List Stmt := by
  refine (fun (b : List Stmt) (_ : ifBody dI3 = b) => b) ?b ?h
  case h => (conv => lhs; whnf)
theorem big_eq : rtBig = .If dT0 dB0 [.If dT1 dB1 [.If dT2 dB2 [.If dT3 dB3 [.If dT4 dB4 dE4 (ifPos dI4)] (ifPos dI3)] (ifPos dI2)] (ifPos dI1)] (ifPos rtBig) := by kernel_rfl
section
variable {w : World} {outer : List Env} {A₀ : Around} {base h₀ : Heap} {L : Addr} {mean : ExcName → Option Value} {mg mb : Str → Option Value} {s : Shared} {Q : Flow → Shared → Prop} {E : Value → Shared → Prop}
  {X : Lx} {ln : Int} {v13 v15 tq u ts tc : Tok} {tk nc q : Str} {qd : Bool} {ncv : Option Value} {p : Nat} {st : Value} {b0 b1 b2 b3 b4 e1 e2 e3 e4 : List Stmt} {p0 p1 p2 p3 p4 : Pos}
theorem lenT {x : Str} (h : x.length ≠ 0) : ((x.length : Int) != 0) = true := by simp only [bne_iff_ne]; omega
theorem lenT' {x : Str} (h : x.length ≠ 0) : (!((x.length : Int) != 0)) = false := by rw [lenT h]; rfl
theorem lenF {x : Str} (h : x.length = 0) : ((x.length : Int) != 0) = false := by rw [h]; rfl
theorem lenF' {x : Str} (h : x.length = 0) : (!((x.length : Int) != 0)) = true := by rw [lenF h]; rfl
theorem disp_sp (F : Fr h₀ L s.heap (rtM X.x qd tq ncv)) (K : (HK w.params).In h₀) (N : News h₀ L s.heap (X.led w (.str " " ts) ln v13 tk v15 p u))
    (cont : ∀ k, wpAny (model PG w) (rtA L outer) (execs b1 (rtEnv L)) Q E { s with toks := k }) :
    wpAny (model PG w) (rtA L outer) (execs [.If dT0 b0 [.If dT1 b1 e1 p1] p0] (rtEnv L)) Q E s := by
  obtain ⟨κ, μ, x, dx, y, dy, pb, fs, px, eof, cm, wc, rest, l⟩ := X
  dsimp only [Lx.led] at *
  w_on
  k_steps
  refine wpAny_mono (cont _) (fun f s' h => ?_) (fun _ _ h => h)
  cases f <;> first | exact h | exact wpAny_execs_nil (wpAny_execs_nil h)
theorem disp_q (F : Fr h₀ L s.heap (rtM X.x qd tq ncv)) (K : (HK w.params).In h₀) (N : News h₀ L s.heap (X.led w (.str q ts) ln v13 tk v15 p u)) (h1 : (q == (" " : Str)) = false) (h2 : Inn "'\"" q)
    (cont : ∀ k, wpAny (model PG w) (rtA L outer) (execs b2 (rtEnv L)) Q E { s with toks := k }) :
    wpAny (model PG w) (rtA L outer) (execs [.If dT0 b0 [.If dT1 b1 [.If dT2 b2 e2 p2] p1] p0] (rtEnv L)) Q E s := by
  obtain ⟨κ, μ, x, dx, y, dy, pb, fs, px, eof, cm, wc, rest, l⟩ := X
  dsimp only [Lx.led] at *
  w_on
  k_steps
  refine wpAny_mono (cont _) (fun f s' h => ?_) (fun _ _ h => h)
  cases f <;> first | exact h | exact wpAny_execs_nil (wpAny_execs_nil (wpAny_execs_nil h))
theorem disp_a (F : Fr h₀ L s.heap (rtM X.x qd tq ncv)) (K : (HK w.params).In h₀) (N : News h₀ L s.heap (X.led w (.str "a" ts) ln v13 tk v15 p u))
    (cont : ∀ h' k, Fr h₀ L h' (rtM X.x qd tq ncv) → News h₀ L h' (X.led w (.str "a" ts) ln v13 tk v15 p u) → wpAny (model PG w) (rtA L outer) (execs b4 (rtEnv L)) Q E { s with heap := h', toks := k }) :
    wpAny (model PG w) (rtA L outer) (execs [.If dT0 b0 [.If dT1 b1 [.If dT2 b2 [.If dT3 b3 [.If dT4 b4 e4 p4] p3] p2] p1] p0] (rtEnv L)) Q E s := by
  obtain ⟨κ, μ, x, dx, y, dy, pb, fs, px, eof, cm, wc, rest, l⟩ := X
  dsimp only [Lx.led] at *
  have z1 : Out "'\"" "a" := by decide +kernel
  have z2 : Out "\\" "a" := by decide +kernel
  w_on
  k_steps
  rotate_left
  · exfalso; rename_i hz; exact absurd (z2.symm.trans hz) Bool.noConfusion
  · exfalso; rename_i hz; exact absurd (z1.symm.trans hz) Bool.noConfusion
  rename_i N' _
  refine wpAny_mono (cont _ _ (by k_asm) (fun q hq => N' q (List.mem_cons_of_mem _ hq))) (fun f s' h => ?_) (fun _ _ h => h)
  cases f <;> first | exact h | exact wpAny_execs_nil (wpAny_execs_nil (wpAny_execs_nil (wpAny_execs_nil (wpAny_execs_nil h))))
theorem none_turn (F : Fr h₀ L s.heap (rtM X.x qd tq ncv)) (K : (HK w.params).In h₀) (N : News h₀ L s.heap (X.led w .none ln v13 tk v15 p u)) (ok : X.Ok)
    (post : ∀ v15' h' k, Fr h₀ L h' (rtM X.x qd tq ncv) → News h₀ L h' (X.led w .none ln v13 "" v15' p u) → Q .brk { s with heap := h', toks := k }) :
    wpAny (model PG w) (rtA L outer) (execs [.If dT0 dB0 b1 p0] (rtEnv L)) Q E s := by
  obtain ⟨κ, μ, x, dx, y, dy, pb, fs, px, eof, cm, wc, rest, l⟩ := X
  obtain ⟨a1, a2, a3, a4, a5, r1, r2, hl⟩ := ok
  replace a1 := neN a1; replace a2 := neN a2; replace a3 := neN a3; replace a4 := neN a4; replace a5 := neN a5
  dsimp only [Lx.led] at *
  w_on
  k_steps
  all_goals (exact post _ _ _ (by k_asm) (by k_asm))
end

end
section
section
variable {w : World} {outer : List Env} {A₀ : Around} {base h₀ : Heap} {L : Addr} {mean : ExcName → Option Value} {mg mb : Str → Option Value} {s : Shared} {Q : Flow → Shared → Prop} {E : Value → Shared → Prop}
  {X : Lx} {ln : Int} {v13 v15 tq u ts tc : Tok} {tk nc q : Str} {qd : Bool} {p : Nat}
theorem sp_eof (B : Below A₀ base outer h₀) (F : Fr h₀ L s.heap (rtM X.x qd tq (some (.str nc tc)))) (K : (HK w.params).In h₀) (T : Top VW LS mean mg mb h₀) (N : News h₀ L s.heap (X.led w (.str " " ts) ln v13 tk v15 p u)) (ok : X.Ok) (hnc : nc.length = 0)
    (post : ∀ h' k, Fr h₀ L h' (rtM X.x qd tq (some (.str nc tc))) → News h₀ L h' (X.led w .none ln v13 tk v15 p u) → Q .brk { s with heap := h', toks := k }) :
    wpAny (model PG w) (rtA L outer) (execs dB1 (rtEnv L)) Q E s := by
  obtain ⟨κ, μ, x, dx, y, dy, pb, fs, px, eof, cm, wc, rest, l⟩ := X
  obtain ⟨a1, a2, a3, a4, a5, r1, r2, hl⟩ := ok
  replace a1 := neN a1; replace a2 := neN a2; replace a3 := neN a3; replace a4 := neN a4; replace a5 := neN a5
  dsimp only [Lx.led] at *
  have hn0 := lenF (x := nc) (by omega)
  have hn1 := lenF' (x := nc) (by omega)
  w_on
  k_steps
  all_goals (try dsimp only)
  all_goals first
    | exact post _ _ (by k_asm) (by k_asm)
theorem sp_ws (B : Below A₀ base outer h₀) (F : Fr h₀ L s.heap (rtM X.x qd tq (some (.str nc tc)))) (K : (HK w.params).In h₀) (T : Top VW LS mean mg mb h₀) (N : News h₀ L s.heap (X.led w (.str " " ts) ln v13 tk v15 p u)) (ok : X.Ok) (hnc : nc.length = 1) (hw : Inn " \t\r\n" nc) (ht : tk.length = 0) (hq : qd = false)
    (post : ∀ h' k, Fr h₀ L h' (rtM X.x qd tq (some (.str nc tc))) → News h₀ L h' (X.led w (.str " " ts) ln v13 tk v15 p u) → Q .cont { s with heap := h', toks := k }) :
    wpAny (model PG w) (rtA L outer) (execs dB1 (rtEnv L)) Q E s := by
  obtain ⟨κ, μ, x, dx, y, dy, pb, fs, px, eof, cm, wc, rest, l⟩ := X
  obtain ⟨a1, a2, a3, a4, a5, r1, r2, hl⟩ := ok
  replace a1 := neN a1; replace a2 := neN a2; replace a3 := neN a3; replace a4 := neN a4; replace a5 := neN a5
  dsimp only [Lx.led] at *
  subst hq
  have ht0 := lenF (x := tk) (by omega)
  have hn0 := lenT (x := nc) (by omega)
  have hn1 := lenT' (x := nc) (by omega)
  w_on
  k_steps
  all_goals (try dsimp only)
  all_goals first
    | exact post _ _ (by k_asm) (by k_asm)
theorem sp_bare (B : Below A₀ base outer h₀) (F : Fr h₀ L s.heap (rtM X.x qd tq (some (.str nc tc)))) (K : (HK w.params).In h₀) (T : Top VW LS mean mg mb h₀) (N : News h₀ L s.heap (X.led w (.str " " ts) ln v13 tk v15 p u)) (ok : X.Ok) (hnc : nc.length = 1) (h1 : Out " \t\r\n" nc) (h2 : Out X.cm nc) (h3 : Out "\\" nc) (h4 : Out "'\"" nc) (h5 : Out "" nc)
    (post : ∀ ts' h' k, Fr h₀ L h' (rtM X.x qd tq (some (.str nc tc))) → News h₀ L h' (X.led w (.str "a" ts') ln v13 nc tc p u) → Q .next { s with heap := h', toks := k }) :
    wpAny (model PG w) (rtA L outer) (execs dB1 (rtEnv L)) Q E s := by
  obtain ⟨κ, μ, x, dx, y, dy, pb, fs, px, eof, cm, wc, rest, l⟩ := X
  obtain ⟨a1, a2, a3, a4, a5, r1, r2, hl⟩ := ok
  replace a1 := neN a1; replace a2 := neN a2; replace a3 := neN a3; replace a4 := neN a4; replace a5 := neN a5
  dsimp only [Lx.led] at *
  have hn0 := lenT (x := nc) (by omega)
  have hn1 := lenT' (x := nc) (by omega)
  w_on
  k_steps
  all_goals (try dsimp only)
  all_goals first
    | exact post _ _ _ (by k_asm) (by k_asm)
theorem sp_quote (B : Below A₀ base outer h₀) (F : Fr h₀ L s.heap (rtM X.x qd tq (some (.str nc tc)))) (K : (HK w.params).In h₀) (T : Top VW LS mean mg mb h₀) (N : News h₀ L s.heap (X.led w (.str " " ts) ln v13 tk v15 p u)) (ok : X.Ok) (hnc : nc.length = 1) (h1 : Out " \t\r\n" nc) (h2 : Out X.cm nc) (h3 : Out "\\" nc) (h4 : Inn "'\"" nc) (h5 : Out "" nc) (h6 : Out X.wc nc)
    (postP : X.px = true → ∀ h' k, Fr h₀ L h' (rtM X.x qd tq (some (.str nc tc))) → News h₀ L h' (X.led w (.str nc tc) ln v13 tk v15 p u) → Q .next { s with heap := h', toks := k })
    (postN : X.px = false → ∀ h' k, Fr h₀ L h' (rtM X.x qd tq (some (.str nc tc))) → News h₀ L h' (X.led w (.str nc tc) ln v13 nc tc p u) → Q .next { s with heap := h', toks := k }) :
    wpAny (model PG w) (rtA L outer) (execs dB1 (rtEnv L)) Q E s := by
  obtain ⟨κ, μ, x, dx, y, dy, pb, fs, px, eof, cm, wc, rest, l⟩ := X
  obtain ⟨a1, a2, a3, a4, a5, r1, r2, hl⟩ := ok
  replace a1 := neN a1; replace a2 := neN a2; replace a3 := neN a3; replace a4 := neN a4; replace a5 := neN a5
  dsimp only [Lx.led] at *
  have hn0 := lenT (x := nc) (by omega)
  have hn1 := lenT' (x := nc) (by omega)
  w_on
  k_steps
  all_goals (try dsimp only)
  all_goals first
    | exact postP ‹_› _ _ (by k_asm) (by k_asm)
    | exact postN ‹_› _ _ (by k_asm) (by k_asm)
end

end
section
local macro_rules | `(tactic| walk_at "exec Raise some none") => `(tactic| refine halt_ ?_)
section
variable {w : World} {outer : List Env} {A₀ : Around} {base h₀ : Heap} {L : Addr} {mean : ExcName → Option Value} {mg mb : Str → Option Value} {s : Shared} {Q : Flow → Shared → Prop} {E : Value → Shared → Prop}
  {X : Lx} {ln : Int} {v13 v15 tq u ts tc : Tok} {tk nc q : Str} {qd : Bool} {p : Nat}
theorem q_in (B : Below A₀ base outer h₀) (F : Fr h₀ L s.heap (rtM X.x qd tq (some (.str nc tc)))) (K : (HK w.params).In h₀) (T : Top VW LS mean mg mb h₀) (N : News h₀ L s.heap (X.led w (.str q ts) ln v13 tk v15 p u)) (ok : X.Ok) (hnc : nc.length = 1) (hne : (nc == q) = false) (h3 : X.px = true → Inn "\\" nc → Out "\"" q) (ht : tk.length < 200000)
    (post : ∀ v15' h' k, Fr h₀ L h' (rtM X.x true tq (some (.str nc tc))) → News h₀ L h' (X.led w (.str q ts) ln v13 (tk ++ nc) v15' p u) → Q .next { s with heap := h', toks := k }) :
    wpAny (model PG w) (rtA L outer) (execs dB2 (rtEnv L)) Q E s := by
  obtain ⟨κ, μ, x, dx, y, dy, pb, fs, px, eof, cm, wc, rest, l⟩ := X
  obtain ⟨a1, a2, a3, a4, a5, r1, r2, hl⟩ := ok
  replace a1 := neN a1; replace a2 := neN a2; replace a3 := neN a3; replace a4 := neN a4; replace a5 := neN a5
  dsimp only [Lx.led] at *
  have hn0 := lenT (x := nc) (by omega)
  have hn1 := lenT' (x := nc) (by omega)
  w_on
  k_steps
  all_goals (try dsimp only)
  all_goals first
    | exact post _ _ _ (by rw [← rtM_quoted]; k_asm) (by k_asm)
    | exact absurd ((h3 ‹px = true› ‹(Builtin.Str.occurrences "\\" nc 0 _ 1).isEmpty = false›).symm.trans ‹(Builtin.Str.occurrences "\"" q 0 _ 1).isEmpty = false›) Bool.noConfusion
theorem q_shut (B : Below A₀ base outer h₀) (F : Fr h₀ L s.heap (rtM X.x qd tq (some (.str nc tc)))) (K : (HK w.params).In h₀) (T : Top VW LS mean mg mb h₀) (N : News h₀ L s.heap (X.led w (.str q ts) ln v13 tk v15 p u)) (ok : X.Ok) (hnc : nc.length = 1) (hne : (nc == q) = true) (ht : tk.length < 200000)
    (postP : X.px = true → ∀ ts' h' k, Fr h₀ L h' (rtM X.x true tq (some (.str nc tc))) → News h₀ L h' (X.led w (.str "a" ts') ln v13 tk v15 p u) → Q .next { s with heap := h', toks := k })
    (postN : X.px = false → ∀ ts' v15' h' k, Fr h₀ L h' (rtM X.x true tq (some (.str nc tc))) → News h₀ L h' (X.led w (.str " " ts') ln v13 (tk ++ nc) v15' p u) → Q .brk { s with heap := h', toks := k }) :
    wpAny (model PG w) (rtA L outer) (execs dB2 (rtEnv L)) Q E s := by
  obtain ⟨κ, μ, x, dx, y, dy, pb, fs, px, eof, cm, wc, rest, l⟩ := X
  obtain ⟨a1, a2, a3, a4, a5, r1, r2, hl⟩ := ok
  replace a1 := neN a1; replace a2 := neN a2; replace a3 := neN a3; replace a4 := neN a4; replace a5 := neN a5
  dsimp only [Lx.led] at *
  have hn0 := lenT (x := nc) (by omega)
  have hn1 := lenT' (x := nc) (by omega)
  w_on
  k_steps
  all_goals (try dsimp only)
  all_goals first
    | exact postP ‹_› _ _ _ (by rw [← rtM_quoted]; k_asm) (by k_asm)
    | exact postN ‹_› _ _ _ _ (by rw [← rtM_quoted]; k_asm) (by k_asm)
theorem q_eof (B : Below A₀ base outer h₀) (F : Fr h₀ L s.heap (rtM X.x qd tq (some (.str nc tc)))) (K : (HK w.params).In h₀) (T : Top VW LS mean mg mb h₀) (N : News h₀ L s.heap (X.led w (.str q ts) ln v13 tk v15 p u)) (ok : X.Ok) (hnc : nc.length = 0) (post : ∀ e h1 h' k t, Fr h₀ L h1 (rtM X.x true tq (some (.str nc tc))) → News h₀ L h1 (X.led w (.str q ts) ln v13 tk v15 p u) → Heap.MadeExcOf h1 h' e (.type "ValueError") [.str "No closing quotation" t] → E (.ref e) { s with heap := h', toks := k }) :
    wpAny (model PG w) (rtA L outer) (execs dB2 (rtEnv L)) Q E s := by
  obtain ⟨κ, μ, x, dx, y, dy, pb, fs, px, eof, cm, wc, rest, l⟩ := X
  obtain ⟨a1, a2, a3, a4, a5, r1, r2, hl⟩ := ok
  replace a1 := neN a1; replace a2 := neN a2; replace a3 := neN a3; replace a4 := neN a4; replace a5 := neN a5
  dsimp only [Lx.led] at *
  have hn0 := lenF (x := nc) (by omega)
  have hn1 := lenF' (x := nc) (by omega)
  w_on
  k_steps
  unfold Halt
  refine Raise_madeB PySem.F.excCall_ValueError PySem.F.excRaise_ValueError rfl ?_
  k_steps
  exact post _ _ _ _ _ (by rw [← rtM_quoted]; k_asm) (by k_asm) (Heap.MadeExc.of (by assumption))
end

end
section
section
variable {w : World} {outer : List Env} {A₀ : Around} {base h₀ : Heap} {L : Addr} {mean : ExcName → Option Value} {mg mb : Str → Option Value} {s : Shared} {Q : Flow → Shared → Prop} {E : Value → Shared → Prop}
  {X : Lx} {ln : Int} {v13 v15 tq u ts tc : Tok} {tk nc q : Str} {qd : Bool} {p : Nat}
theorem a_eof (B : Below A₀ base outer h₀) (F : Fr h₀ L s.heap (rtM X.x qd tq (some (.str nc tc)))) (K : (HK w.params).In h₀) (T : Top VW LS mean mg mb h₀) (N : News h₀ L s.heap (X.led w (.str "a" ts) ln v13 tk v15 p u)) (ok : X.Ok) (hnc : nc.length = 0)
    (post : ∀ h' k, Fr h₀ L h' (rtM X.x qd tq (some (.str nc tc))) → News h₀ L h' (X.led w .none ln v13 tk v15 p u) → Q .brk { s with heap := h', toks := k }) :
    wpAny (model PG w) (rtA L outer) (execs dB4 (rtEnv L)) Q E s := by
  obtain ⟨κ, μ, x, dx, y, dy, pb, fs, px, eof, cm, wc, rest, l⟩ := X
  obtain ⟨a1, a2, a3, a4, a5, r1, r2, hl⟩ := ok
  replace a1 := neN a1; replace a2 := neN a2; replace a3 := neN a3; replace a4 := neN a4; replace a5 := neN a5
  dsimp only [Lx.led] at *
  have hn0 := lenF (x := nc) (by omega)
  have hn1 := lenF' (x := nc) (by omega)
  w_on
  k_steps
  all_goals (try dsimp only)
  all_goals first
    | exact post _ _ (by k_asm) (by k_asm)
theorem a_ws (B : Below A₀ base outer h₀) (F : Fr h₀ L s.heap (rtM X.x qd tq (some (.str nc tc)))) (K : (HK w.params).In h₀) (T : Top VW LS mean mg mb h₀) (N : News h₀ L s.heap (X.led w (.str "a" ts) ln v13 tk v15 p u)) (ok : X.Ok) (hnc : nc.length = 1) (hw : Inn " \t\r\n" nc) (ht : tk.length = 0 → X.px = true ∧ qd = true) (hb : tk.length < 200000)
    (post : ∀ ts' h' k, Fr h₀ L h' (rtM X.x qd tq (some (.str nc tc))) → News h₀ L h' (X.led w (.str " " ts') ln v13 tk v15 p u) → Q .brk { s with heap := h', toks := k }) :
    wpAny (model PG w) (rtA L outer) (execs dB4 (rtEnv L)) Q E s := by
  obtain ⟨κ, μ, x, dx, y, dy, pb, fs, px, eof, cm, wc, rest, l⟩ := X
  obtain ⟨a1, a2, a3, a4, a5, r1, r2, hl⟩ := ok
  replace a1 := neN a1; replace a2 := neN a2; replace a3 := neN a3; replace a4 := neN a4; replace a5 := neN a5
  dsimp only [Lx.led] at *
  have hn0 := lenT (x := nc) (by omega)
  have hn1 := lenT' (x := nc) (by omega)
  w_on
  k_steps
  all_goals (try dsimp only)
  all_goals first
    | exact post _ _ _ (by k_asm) (by k_asm)
    | exact absurd ((ht (by omega)).1.symm.trans ‹px = false›) Bool.noConfusion
    | exact absurd ((ht (by omega)).2.symm.trans ‹qd = false›) Bool.noConfusion
theorem a_bare (B : Below A₀ base outer h₀) (F : Fr h₀ L s.heap (rtM X.x qd tq (some (.str nc tc)))) (K : (HK w.params).In h₀) (T : Top VW LS mean mg mb h₀) (N : News h₀ L s.heap (X.led w (.str "a" ts) ln v13 tk v15 p u)) (ok : X.Ok) (hnc : nc.length = 1) (h1 : Out " \t\r\n" nc) (h2 : Out X.cm nc) (h3 : Out "\\" nc) (h4 : Out "'\"" nc) (h5 : Out "" nc) (ht : tk.length < 200000)
    (post : ∀ v15' h' k, Fr h₀ L h' (rtM X.x qd tq (some (.str nc tc))) → News h₀ L h' (X.led w (.str "a" ts) ln v13 (tk ++ nc) v15' p u) → Q .next { s with heap := h', toks := k }) :
    wpAny (model PG w) (rtA L outer) (execs dB4 (rtEnv L)) Q E s := by
  obtain ⟨κ, μ, x, dx, y, dy, pb, fs, px, eof, cm, wc, rest, l⟩ := X
  obtain ⟨a1, a2, a3, a4, a5, r1, r2, hl⟩ := ok
  replace a1 := neN a1; replace a2 := neN a2; replace a3 := neN a3; replace a4 := neN a4; replace a5 := neN a5
  dsimp only [Lx.led] at *
  have hn0 := lenT (x := nc) (by omega)
  have hn1 := lenT' (x := nc) (by omega)
  w_on
  k_steps
  all_goals (try dsimp only)
  all_goals first
    | exact post _ _ _ (by k_asm) (by k_asm)
theorem a_quote (B : Below A₀ base outer h₀) (F : Fr h₀ L s.heap (rtM X.x qd tq (some (.str nc tc)))) (K : (HK w.params).In h₀) (T : Top VW LS mean mg mb h₀) (N : News h₀ L s.heap (X.led w (.str "a" ts) ln v13 tk v15 p u)) (ok : X.Ok) (hnc : nc.length = 1) (h1 : Out " \t\r\n" nc) (h2 : Out X.cm nc) (h3 : Out "\\" nc) (h4 : Inn "'\"" nc) (hx : X.px = true)
    (post : ∀ h' k, Fr h₀ L h' (rtM X.x qd tq (some (.str nc tc))) → News h₀ L h' (X.led w (.str nc tc) ln v13 tk v15 p u) → Q .next { s with heap := h', toks := k }) :
    wpAny (model PG w) (rtA L outer) (execs dB4 (rtEnv L)) Q E s := by
  obtain ⟨κ, μ, x, dx, y, dy, pb, fs, px, eof, cm, wc, rest, l⟩ := X
  obtain ⟨a1, a2, a3, a4, a5, r1, r2, hl⟩ := ok
  replace a1 := neN a1; replace a2 := neN a2; replace a3 := neN a3; replace a4 := neN a4; replace a5 := neN a5
  dsimp only [Lx.led] at *
  subst hx
  have hn0 := lenT (x := nc) (by omega)
  have hn1 := lenT' (x := nc) (by omega)
  w_on
  k_steps
  all_goals (try dsimp only)
  all_goals first
    | exact post _ _ (by k_asm) (by k_asm)
end

end
section
noncomputable def Md.val : Md → Tok → Value
  | .S, t => .str " " t
  | .A, t => .str "a" t
  | .Q q, t => .str (tx [q]) t
noncomputable def oval : Option Md → Tok → Value
  | none, _ => .none
  | some m, t => m.val t
/-- what a lexer's own sets must not hold -/
structure Lx.Fine (X : Lx) : Prop where
  cm : ∀ c, c ∈ safeL ∨ c = 39 ∨ c = 34 → c ∉ X.cm.cps.toList
  wc : ∀ c, c = 39 ∨ c = 34 → c ∉ X.wc.cps.toList
theorem while_true {prog : Program} {w : World} {A : Around} {env : Env} {body : List Stmt} {pos cp : Pos} {n0 : Nat} {Q : Flow → Shared → Prop} {E : Value → Shared → Prop} {s : Shared} (I : Nat → Shared → Prop) (hA : A.handled = none)
    (turn : ∀ n s, I n s → wpAny (model prog w) A (execs body env) (fun f s₃ => match f with
      | .next | .cont => ∃ m, m < n ∧ I m s₃
      | .brk => Q .next s₃
      | .ret v => Q (.ret v) s₃) E s) (n : Nat) (h : I n s) (hE : PassesOwn (model prog w) A env E) :
    wpAny (model prog w) A (exec (.While (.Constant (.bool true) n0 cp) body [] pos) env) Q E s := by
  refine wpAny_While ?_
  refine codeAny_whileLoop I (fun n s hI => ?_) n h
  w_on
  k_steps
  exact wpAny_mono (turn n s hI) (fun f s₃ h => by cases f <;> exact h) (fun e s' h => hE e s' h)

theorem lit_sp : Str.ofString " " = tx [32] := by decide +kernel
theorem lit_a : Str.ofString "a" = tx [97] := by decide +kernel
section
variable {w : World} {outer : List Env} {A₀ : Around} {base h₀ : Heap} {L : Addr} {mean : ExcName → Option Value} {mg mb : Str → Option Value} {s : Shared} {Q : Flow → Shared → Prop} {E : Value → Shared → Prop}
  {X : Lx} {ln : Int} {v13 v15 tq u ts : Tok} {ncv : Option Value} {p : Nat} {m : Md} {qd : Bool} {tk : List Nat} {ms : List (Nat × Kd)}
/-- the loop of read_token between two turns -/
def RtI (w : World) (h₀ : Heap) (L : Addr) (X : Lx) (tq : Tok) (r : Rt) (s₀ : Shared) (n : Nat) (s : Shared) : Prop :=
  ∃ m qd tk ms p ln v13 v15 u ts ncv h' k, s = { s₀ with heap := h', toks := k } ∧ n = ms.length ∧ Fr h₀ L h' (rtM X.x qd tq ncv) ∧ News h₀ L h' (X.led w (m.val ts) ln v13 (tx tk) v15 p u) ∧
    X.l.drop p = ms.map (·.1) ∧ p ≤ X.l.length ∧ Good X.px m ms ∧ run X.px m qd tk ms = r ∧ tk.length ≤ p ∧ (m = .S → tk = [] ∧ qd = false) ∧ (m = .A → tk = [] → X.px = true ∧ qd = true) ∧ (∀ q, m = .Q q → q ∈ [39, 34] ∧ q ≠ 32)
theorem drop_cons {l : List Nat} {p c : Nat} {k : Kd} {ms : List (Nat × Kd)} (h : l.drop p = ((c, k) :: ms).map (·.1)) : l[p]? = some c ∧ l.drop (p + 1) = ms.map (·.1) ∧ p + 1 ≤ l.length := by
  have h1 : l[p]? = some c := by
    have := congrArg (·[0]?) h
    simpa using this
  have hp : p < l.length := (List.getElem?_eq_some_iff.mp h1).1
  refine ⟨h1, ?_, hp⟩
  exact (List.cons.inj ((List.drop_eq_getElem_cons hp).symm.trans h)).2
theorem rt_loop {A : Around} (B : Below A₀ base outer h₀) (F : Fr h₀ L s.heap (rtM X.x qd tq ncv)) (K : (HK w.params).In h₀) (T : Top VW LS mean mg mb h₀) (N : News h₀ L s.heap (X.led w (m.val ts) ln v13 (tx tk) v15 p u)) (ok : X.Ok) (fine : X.Fine)
    (hl : X.l.drop p = ms.map (·.1)) (hp : p ≤ X.l.length) (hg : Good X.px m ms) (ht : tk.length ≤ p) (hS : m = .S → tk = [] ∧ qd = false) (hA : m = .A → tk = [] → X.px = true ∧ qd = true) (hq : ∀ q, m = .Q q → q ∈ [39, 34] ∧ q ≠ 32)
    (post : ∀ m' qd' tk' ms', run X.px m qd tk ms = .got m' qd' tk' ms' → ∀ ts' ln' v13' v15' p' u' ncv' h' k, Fr h₀ L h' (rtM X.x qd' tq ncv') → News h₀ L h' (X.led w (oval m' ts') ln' v13' (tx tk') v15' p' u') →
      X.l.drop p' = ms'.map (·.1) → p' ≤ X.l.length → Q .next { s with heap := h', toks := k })
    (bad : run X.px m qd tk ms = .bad → ∀ st' ln' v13' tk' v15' p' u' ncv' e h1 h' k t, Fr h₀ L h1 (rtM X.x true tq ncv') → News h₀ L h1 (X.led w st' ln' v13' tk' v15' p' u') →
      Heap.MadeExcOf h1 h' e (.type "ValueError") [.str "No closing quotation" t] → E (.ref e) { s with heap := h', toks := k })
    (hE : PassesOwn (model PG w) A (rtEnv L) E) (hh : A.handled = none) (hd : A.depth ≤ 700) (hf : A.frames = some (rtEnv L :: outer)) (hu : A.units ≤ 700) :
    wpAny (model PG w) A (exec rtLoop (rtEnv L)) Q E s := by
  refine while_true (RtI w h₀ L X tq (run X.px m qd tk ms) s) hh (fun n s₁ hI => ?_) ms.length ⟨m, qd, tk, ms, p, ln, v13, v15, u, ts, ncv, s.heap, s.toks, rfl, rfl, F, N, hl, hp, hg, rfl, ht, hS, hA, hq⟩ hE
  clear F N hl hp hg ht hS hA hq
  obtain ⟨m, qd, tk, ms, p, ln, v13, v15, u, ts, ncv, h1, k1, rfl, rfl, F, N, hl, hp, hg, hr, ht, hS, hA, hq⟩ := hI
  refine wpAny_weak (A' := rtA L outer) ?_ hh hd hf rfl hu
  have hlen : tk.length < 100000 := by have := ok.len; omega
  have htx : (tx tk).length = tk.length := tx_length tk
  refine rt_pre (s := { s with heap := h1, toks := k1 }) B F K T N ok hp ?_ ?_
  · intro q0 tr h2 k2 F2 N2
    obtain rfl : ms = [] := by
      have : (X.l.drop p).length = 0 := by simp; omega
      rw [hl] at this
      simpa using this
    show wpAny _ _ (execs [rtBig] _) _ _ _
    rw [big_eq]
    cases m with
    | S =>
      refine disp_sp F2 K N2 fun k3 => ?_
      refine sp_eof B F2 K T N2 ok (tx_length []) fun h4 k4 F4 N4 => ?_
      exact post none qd tk [] hr.symm 0 _ _ _ _ _ _ _ _ F4 N4 hl hp
    | A =>
      refine disp_a F2 K N2 fun h3 k3 F3 N3 => ?_
      refine a_eof B F3 K T N3 ok (tx_length []) fun h4 k4 F4 N4 => ?_
      exact post none qd tk [] hr.symm 0 _ _ _ _ _ _ _ _ F4 N4 hl hp
    | Q q =>
      refine disp_q (q := tx [q]) F2 K N2 ?_ ?_ fun k3 => ?_
      · rw [lit_sp, txeq]; exact decide_eq_false (hq q rfl).2
      · exact inn_one (by rw [qs_cps]; exact (hq q rfl).1)
      refine q_eof B F2 K T N2 ok (tx_length []) fun e h4 h5 k5 t F5 N5 x5 => ?_
      exact bad hr.symm _ _ _ _ _ _ _ _ e h4 h5 k5 t F5 N5 x5
  · intro c hc ln2 v13' u2 tr h2 k2 F2 N2
    show wpAny _ _ (execs [rtBig] _) _ _ _
    rw [big_eq]
    cases ms with
    | nil =>
      have : (X.l.drop p).length = 0 := by rw [hl]; rfl
      have := (List.getElem?_eq_some_iff.mp hc).1
      simp at *; omega
    | cons ck ms =>
      obtain ⟨c', k⟩ := ck
      obtain ⟨d1, d2, d3⟩ := drop_cons hl
      obtain rfl : c' = c := by rw [d1] at hc; exact Option.some.inj hc
      have hn1 : (tx [c']).length = 1 := tx_length _
      cases m with
      | S =>
        obtain ⟨rfl, rfl⟩ := hS rfl
        refine disp_sp F2 K N2 fun k3 => ?_
        cases k with
        | bt =>
          obtain ⟨rfl, hg⟩ := hg
          refine sp_ws B F2 K T N2 ok hn1 (inn_one (by rw [ws_cps]; decide)) (tx_length []) rfl fun h4 k4 F4 N4 => ?_
          exact ⟨ms.length, Nat.lt_succ_self _, .S, false, [], ms, p + 1, _, _, _, _, _, _, h4, k4, rfl, rfl, F4, N4, d2, d3, hg, hr, Nat.zero_le _, fun _ => ⟨rfl, rfl⟩, (fun h => nomatch h), (fun q h => nomatch h)⟩
        | ba =>
          obtain ⟨hs, hg⟩ := hg
          obtain ⟨z1, z2, z3, z4, z5, z6, z7, z8⟩ := safe_ne hs
          refine sp_bare B F2 K T N2 ok hn1 (out_one (by rw [ws_cps]; simp; omega)) (out_one (fine.cm _ (.inl hs))) (out_one (by rw [esc_cps]; simp; omega)) (out_one (by rw [qs_cps]; simp; omega)) (out_one (by rw [no_cps]; simp)) fun ts' h4 k4 F4 N4 => ?_
          exact ⟨ms.length, Nat.lt_succ_self _, .A, false, [c'], ms, p + 1, _, _, _, _, _, _, h4, k4, rfl, rfl, F4, N4, d2, d3, hg, hr, by simp, (fun h => nomatch h), (fun _ h => nomatch h), (fun q h => nomatch h)⟩
        | op =>
          obtain ⟨hs, hg⟩ := hg
          refine sp_quote B F2 K T N2 ok hn1 (out_one (by rw [ws_cps]; simp; omega)) (out_one (fine.cm _ (.inr hs))) (out_one (by rw [esc_cps]; simp; omega)) (inn_one (by rw [qs_cps]; simp; omega)) (out_one (by rw [no_cps]; simp)) (out_one (fine.wc _ hs)) (fun hx h4 k4 F4 N4 => ?_) (fun hx h4 k4 F4 N4 => ?_)
          · refine ⟨ms.length, Nat.lt_succ_self _, .Q c', false, [], ms, p + 1, _, _, _, _, _, _, h4, k4, rfl, rfl, F4, N4, d2, d3, hg, ?_, Nat.zero_le _, (fun h => nomatch h), (fun h => nomatch h), fun q h => by obtain rfl := Md.Q.inj h; exact ⟨by simp; omega, by omega⟩⟩
            rw [← hr, hx]; rfl
          · refine ⟨ms.length, Nat.lt_succ_self _, .Q c', false, [c'], ms, p + 1, _, _, _, _, _, _, h4, k4, rfl, rfl, F4, N4, d2, d3, hg, ?_, by simp, (fun h => nomatch h), (fun h => nomatch h), fun q h => by obtain rfl := Md.Q.inj h; exact ⟨by simp; omega, by omega⟩⟩
            rw [← hr, hx]; rfl
        | inn => exact hg.elim
        | sh => exact hg.elim
      | A =>
        refine disp_a F2 K N2 fun h3 k3 F3 N3 => ?_
        cases k with
        | bt =>
          obtain ⟨rfl, hg⟩ := hg
          refine a_ws B F3 K T N3 ok hn1 (inn_one (by rw [ws_cps]; decide)) (fun h => hA rfl (List.eq_nil_of_length_eq_zero (htx ▸ h))) (by omega) fun ts' h4 k4 F4 N4 => ?_
          exact post (some .S) qd tk ms hr.symm _ _ _ _ _ _ _ _ _ F4 N4 d2 d3
        | ba =>
          obtain ⟨hs, hg⟩ := hg
          obtain ⟨z1, z2, z3, z4, z5, z6, z7, z8⟩ := safe_ne hs
          refine a_bare B F3 K T N3 ok hn1 (out_one (by rw [ws_cps]; simp; omega)) (out_one (fine.cm _ (.inl hs))) (out_one (by rw [esc_cps]; simp; omega)) (out_one (by rw [qs_cps]; simp; omega)) (out_one (by rw [no_cps]; simp)) (by omega) fun v15' h4 k4 F4 N4 => ?_
          rw [tx_append] at N4
          exact ⟨ms.length, Nat.lt_succ_self _, .A, qd, tk ++ [c'], ms, p + 1, _, _, _, _, _, _, h4, k4, rfl, rfl, F4, N4, d2, d3, hg, hr, by simp; omega, (fun h => nomatch h), fun _ h => by simp at h, (fun q h => nomatch h)⟩
        | op =>
          obtain ⟨⟨hx, hs⟩, hg⟩ := hg
          refine a_quote B F3 K T N3 ok hn1 (out_one (by rw [ws_cps]; simp; omega)) (out_one (fine.cm _ (.inr hs))) (out_one (by rw [esc_cps]; simp; omega)) (inn_one (by rw [qs_cps]; simp; omega)) hx fun h4 k4 F4 N4 => ?_
          exact ⟨ms.length, Nat.lt_succ_self _, .Q c', qd, tk, ms, p + 1, _, _, _, _, _, _, h4, k4, rfl, rfl, F4, N4, d2, d3, hg, hr, by omega, (fun h => nomatch h), (fun h => nomatch h), fun q h => by obtain rfl := Md.Q.inj h; exact ⟨by simp; omega, by omega⟩⟩
        | inn => exact hg.elim
        | sh => exact hg.elim
      | Q q =>
        refine disp_q (q := tx [q]) F2 K N2 ?_ ?_ fun k3 => ?_
        · rw [lit_sp, txeq]; exact decide_eq_false (hq q rfl).2
        · exact inn_one (by rw [qs_cps]; exact (hq q rfl).1)
        cases k with
        | inn =>
          obtain ⟨⟨g1, g2⟩, hg⟩ := hg
          refine q_in B F2 K T N2 ok hn1 (by rw [txeq]; exact decide_eq_false g1) (fun _ hi => out_one (by
            have := of_inn hi
            rw [esc_cps] at this
            rw [dq_cps]
            simp at this ⊢
            intro h9
            exact g2 h9 this)) (by omega) fun v15' h4 k4 F4 N4 => ?_
          rw [tx_append] at N4
          exact ⟨ms.length, Nat.lt_succ_self _, .Q q, true, tk ++ [c'], ms, p + 1, _, _, _, _, _, _, h4, k4, rfl, rfl, F4, N4, d2, d3, hg, hr, by simp; omega, (fun h => nomatch h), (fun h => nomatch h), hq⟩
        | sh =>
          obtain ⟨rfl, hg⟩ := hg
          refine q_shut B F2 K T N2 ok hn1 (by rw [txeq]; exact decide_eq_true rfl) (by omega) (fun hx ts' h4 k4 F4 N4 => ?_) (fun hx ts' v15' h4 k4 F4 N4 => ?_)
          · rw [hx] at hg
            refine ⟨ms.length, Nat.lt_succ_self _, .A, true, tk, ms, p + 1, _, _, _, _, _, _, h4, k4, rfl, rfl, F4, N4, d2, d3, by rw [hx]; exact hg, ?_, by omega, (fun h => nomatch h), fun _ _ => ⟨hx, rfl⟩, (fun q h => nomatch h)⟩
            rw [← hr, hx]; rfl
          · rw [tx_append] at N4
            exact post (some .S) true (tk ++ [c']) ms (by rw [← hr, hx]; rfl) _ _ _ _ _ _ _ _ _ F4 N4 d2 d3
        | bt => exact hg.elim
        | ba => exact hg.elim
        | op => exact hg.elim
end

end
section
theorem Fr.conv {h₀ h : Heap} {L : Addr} {m m' : Str → Option Value} (F : Fr h₀ L h m) (e : m = m') : Fr h₀ L h m' := e ▸ F
theorem lookup1 (y a : Str) (v : Value) : List.lookup y [(a, v)] = if y = a then some v else none := by
  by_cases h : y = a
  · subst h; simp
  · have : (y == a) = false := by simpa using h
    rw [if_neg h, List.lookup_cons, this]; rfl
theorem rtM_start {x : Addr} {tq : Tok} {g : Str → Option Value} (hg : ∀ y, g y = if y = Str.ofString "self" then some (Value.ref x) else none) :
    (fun y => if y = Str.ofString "escapedstate" then some (Value.str (Str.ofString " ") tq) else if y = Str.ofString "quoted" then some (Value.bool false) else g y) = rtM x false tq none := by
  funext y
  rw [hg y]
  unfold rtM
  by_cases h : y = Str.ofString "nextchar"
  · subst h
    rw [if_neg (by decide +kernel), if_neg (by decide +kernel), if_neg (by decide +kernel), if_pos rfl]
  · rw [if_neg h]
    by_cases h2 : y = Str.ofString "quoted"
    · subst h2
      rw [if_neg (by decide +kernel), if_pos rfl, if_pos rfl]
    · rw [if_neg h2, if_neg h2]
theorem raisedK_sub {base h : Heap} {l : List Env} {e t : Addr} {cls : Value} {vs : List Value} {n n' : List (Addr × Obj)} (R : RaisedK base l e cls t vs n h) (hs : ∀ q ∈ n', q ∈ n) : RaisedK base l e cls t vs n' h := by
  obtain ⟨⟨B, h1, h2, h3, h4⟩, h5⟩ := R
  exact ⟨⟨B, h1, fun q hq => h2 q (hs q hq), h3, h4⟩, h5⟩
section
variable {w : World} {A : Around} {cn : Str} {cs : Scope} {a : Addr} {ccd : Value} {cl : List (Str × Addr)} {outer : List Env} {A₀ : Around} {base h₀ : Heap} {L : Addr} {m : Str → Option Value} {mean : ExcName → Option Value} {mg mb : Str → Option Value} {s : Shared} {Q E : Value → Shared → Prop}
  {X : Lx} {ln : Int} {v13 v15 u ts : Tok} {p : Nat} {ms : List (Nat × Kd)}
local macro_rules | `(tactic| walk_at "exec While") => `(tactic| refine halt_ ?_)
/-- read_token's answer -/
noncomputable def rtVal (px qd : Bool) (tk : List Nat) (t : Tok) : Value := if px && !qd && tk.isEmpty then .none else .str (tx tk) t
theorem rtVal_none {px qd : Bool} {tk : List Nat} {t : Tok} (h1 : px = true) (h2 : qd = false) (h3 : (tx tk == Str.ofString "") = true) : rtVal px qd tk t = .none := by
  have : Str.ofString "" = tx [] := by decide +kernel
  rw [this, beq_iff_eq, tx_inj] at h3
  subst h1 h2 h3
  rfl
theorem rtVal_some {px qd : Bool} {tk : List Nat} {t : Tok} (h : px = false ∨ qd = true ∨ (tx tk == Str.ofString "") = false) : rtVal px qd tk t = .str (tx tk) t := by
  unfold rtVal
  rw [if_neg]
  have e : Str.ofString "" = tx [] := by decide +kernel
  rcases h with rfl | rfl | h
  · simp
  · simp
  · rw [e] at h
    intro hc
    simp only [Bool.and_eq_true, List.isEmpty_iff] at hc
    rw [hc.2] at h
    simp at h
theorem c_rt (B : Below A₀ base outer h₀) (F : Fr h₀ L s.heap m) (K : (HK w.params).In h₀) (T : Top VW LS mean mg mb h₀) (hk : cs.kind = .function)
    (hA : A.frames = some (envX cn cs L a ccd cl :: outer)) (hh : A.handled = none) (hd : A.depth ≤ 650) (hu : A.units ≤ 600)
    (N : News h₀ L s.heap (X.led w (.str " " ts) ln v13 "" v15 p u)) (ok : X.Ok) (fine : X.Fine) (hl : X.l.drop p = ms.map (·.1)) (hp : p ≤ X.l.length) (hg : Good X.px .S ms)
    (post : ∀ m' qd' tk' ms', run X.px .S false [] ms = .got m' qd' tk' ms' → ∀ tr ts' ln' v13' v15' p' u' h' k, Fr h₀ L h' m → News h₀ L h' (X.led w (oval m' ts') ln' v13' "" v15' p' u') →
      X.l.drop p' = ms'.map (·.1) → p' ≤ X.l.length → Q (rtVal X.px qd' tk' tr) { s with heap := h', toks := k })
    (bad : run X.px .S false [] ms = .bad → ∀ e t g₂ h' k tt, Fr h₀ L g₂ m → g₂.UpToSlots h' → RaisedK base (envX cn cs L a ccd cl :: outer) e (.type "ValueError") t [.str "No closing quotation" tt] X.rest h' → E (.ref e) { s with heap := h', toks := k }) :
    wpAny (model PG w) A (call (.ref 700) [.ref X.x]) Q E s := by
  refine wpAny_weak (A' := ktrTop 650 600 none cn cs L a ccd cl outer) ?_ hh hd hA rfl hu
  w_on
  refine wpAny_call ?_
  k_dflt (walk_at "m_enter")
  k_steps
  unfold Halt
  refine' rt_loop (m := .S) (tk := []) (qd := false) (X := X) ?k1 ?k2 ?k3 ?k4 ?k5 ok fine hl hp hg (Nat.zero_le _) (fun _ => ⟨rfl, rfl⟩) (fun h => nomatch h) (fun q h => nomatch h) ?post ?bad ?hE rfl (Nat.le_of_ble_eq_true rfl) rfl (Nat.le_of_ble_eq_true rfl)
  case k2 => exact Fr.conv (by k_asm) (rtM_start fun y => lookup1 y _ _)
  case k1 => k_asm
  case k3 => k_asm
  case k4 => k_asm
  case k5 => k_asm
  case hE => passes_own
  case bad =>
    intro hr st' ln' v13' tk' v15' p' u' ncv' e h1 h' k t F1 N1 x1
    k_steps
    rename_i R' U'
    exact bad hr _ _ _ _ _ _ (by assumption) U' (raisedK_sub R' fun q hq => by simp only [Lx.led, List.mem_cons]; exact .inr (.inr (.inr (.inr hq))))
  case post =>
    intro m' qd' tk' ms' hr ts' ln' v13' v15' p' u' ncv' h' k F1 N1 hl1 hp1
    obtain ⟨κ, μ, x, dx, y, dy, pb, fs, px, eof, cm, wc, rest, l⟩ := X
    obtain ⟨a1, a2, a3, a4, a5, r1, r2, hlen⟩ := ok
    replace a1 := neN a1; replace a2 := neN a2; replace a3 := neN a3; replace a4 := neN a4; replace a5 := neN a5
    dsimp only [Lx.led] at *
    k_steps
    all_goals first
      | (rw [← rtVal_none (t := 0) ‹px = true› ‹qd' = false› ‹(tx tk' == Str.ofString "") = true›]; exact post m' qd' tk' ms' hr _ _ _ _ _ _ _ _ _ (by k_asm) (by k_asm) hl1 hp1)
      | (rw [← rtVal_some (px := px) (qd := qd') (t := v15') (by first | exact .inl ‹_› | exact .inr (.inl ‹_›) | exact .inr (.inr ‹_›))]; exact post m' qd' tk' ms' hr _ _ _ _ _ _ _ _ _ (by k_asm) (by k_asm) hl1 hp1)
theorem rt_loop0 {A : Around} {tq : Tok} {tk : Str} {qd : Bool} {ncv : Option Value} {Q : Flow → Shared → Prop} (B : Below A₀ base outer h₀) (F : Fr h₀ L s.heap (rtM X.x qd tq ncv)) (K : (HK w.params).In h₀) (T : Top VW LS mean mg mb h₀) (N : News h₀ L s.heap (X.led w .none ln v13 tk v15 p u)) (ok : X.Ok)
    (hp : p = X.l.length)
    (post : ∀ v15' ncv' h' k, Fr h₀ L h' (rtM X.x qd tq ncv') → News h₀ L h' (X.led w .none ln v13 "" v15' p u) → Q .next { s with heap := h', toks := k })
    (hE : PassesOwn (model PG w) A (rtEnv L) E) (hh : A.handled = none) (hd : A.depth ≤ 700) (hf : A.frames = some (rtEnv L :: outer)) (hu : A.units ≤ 700) :
    wpAny (model PG w) A (exec rtLoop (rtEnv L)) Q E s := by
  refine while_true (fun _ s' => s' = s) hh (fun n s₁ hI => ?_) 0 rfl hE
  subst hI
  refine wpAny_weak (A' := rtA L outer) ?_ hh hd hf rfl hu
  refine rt_pre B F K T N ok (by omega) ?_ ?_
  · intro q0 tr h2 k2 F2 N2
    show wpAny _ _ (execs [rtBig] _) _ _ _
    rw [big_eq]
    refine none_turn F2 K N2 ok fun v15' h3 k3 F3 N3 => ?_
    exact post _ _ _ _ F3 N3
  · intro c hc
    have := (List.getElem?_eq_some_iff.mp hc).1
    omega
theorem c_rt0 (B : Below A₀ base outer h₀) (F : Fr h₀ L s.heap m) (K : (HK w.params).In h₀) (T : Top VW LS mean mg mb h₀) (hk : cs.kind = .function)
    (hA : A.frames = some (envX cn cs L a ccd cl :: outer)) (hh : A.handled = none) (hd : A.depth ≤ 650) (hu : A.units ≤ 600)
    (N : News h₀ L s.heap (X.led w .none ln v13 "" v15 p u)) (ok : X.Ok) (hp : p = X.l.length)
    (post : ∀ tr v15' h' k, Fr h₀ L h' m → News h₀ L h' (X.led w .none ln v13 "" v15' p u) → Q (rtVal X.px false [] tr) { s with heap := h', toks := k }) :
    wpAny (model PG w) A (call (.ref 700) [.ref X.x]) Q E s := by
  refine wpAny_weak (A' := ktrTop 650 600 none cn cs L a ccd cl outer) ?_ hh hd hA rfl hu
  w_on
  refine wpAny_call ?_
  k_dflt (walk_at "m_enter")
  k_steps
  unfold Halt
  refine' rt_loop0 (X := X) ?k1 ?k2 ?k3 ?k4 ?k5 ok hp ?post ?hE rfl (Nat.le_of_ble_eq_true rfl) rfl (Nat.le_of_ble_eq_true rfl)
  case k2 => exact Fr.conv (by k_asm) (rtM_start fun y => lookup1 y _ _)
  case k1 => k_asm
  case k3 => k_asm
  case k4 => k_asm
  case k5 => k_asm
  case hE => passes_own
  case post =>
    intro v15' ncv' h' k F1 N1
    obtain ⟨κ, μ, x, dx, y, dy, pb, fs, px, eof, cm, wc, rest, l⟩ := X
    obtain ⟨a1, a2, a3, a4, a5, r1, r2, hlen⟩ := ok
    replace a1 := neN a1; replace a2 := neN a2; replace a3 := neN a3; replace a4 := neN a4; replace a5 := neN a5
    dsimp only [Lx.led] at *
    k_steps
    all_goals first
      | (rw [← rtVal_none (t := 0) (tk := []) (qd := false) ‹px = true› rfl (by decide +kernel)]; exact post _ _ _ _ (by k_asm) (by k_asm))
      | (show Q (Value.str (tx []) v15') _; rw [← rtVal_some (px := px) (qd := false) (t := v15') (.inl ‹_›)]; exact post _ _ _ _ (by k_asm) (by k_asm))
/-- where a lexer stands between two tokens: at work, or at the end -/
def Stand (px : Bool) (o : Option Md) (ms : List (Nat × Kd)) : Prop := match o with
  | none => ms = []
  | some m => m = .S ∧ Good px .S ms
noncomputable def runO (px : Bool) (o : Option Md) (ms : List (Nat × Kd)) : Rt := match o with
  | none => .got none false [] ms
  | some _ => run px .S false [] ms
theorem c_rtO {o : Option Md} (B : Below A₀ base outer h₀) (F : Fr h₀ L s.heap m) (K : (HK w.params).In h₀) (T : Top VW LS mean mg mb h₀) (hk : cs.kind = .function)
    (hA : A.frames = some (envX cn cs L a ccd cl :: outer)) (hh : A.handled = none) (hd : A.depth ≤ 650) (hu : A.units ≤ 600)
    (N : News h₀ L s.heap (X.led w (oval o ts) ln v13 "" v15 p u)) (ok : X.Ok) (fine : X.Fine) (hl : X.l.drop p = ms.map (·.1)) (hp : p ≤ X.l.length) (hg : Stand X.px o ms)
    (post : ∀ m' qd' tk' ms', runO X.px o ms = .got m' qd' tk' ms' → ∀ tr ts' ln' v13' v15' p' u' h' k, Fr h₀ L h' m → News h₀ L h' (X.led w (oval m' ts') ln' v13' "" v15' p' u') →
      X.l.drop p' = ms'.map (·.1) → p' ≤ X.l.length → Q (rtVal X.px qd' tk' tr) { s with heap := h', toks := k })
    (bad : runO X.px o ms = .bad → ∀ e t g₂ h' k tt, Fr h₀ L g₂ m → g₂.UpToSlots h' → RaisedK base (envX cn cs L a ccd cl :: outer) e (.type "ValueError") t [.str "No closing quotation" tt] X.rest h' → E (.ref e) { s with heap := h', toks := k }) :
    wpAny (model PG w) A (call (.ref 700) [.ref X.x]) Q E s := by
  cases o with
  | none =>
    have hm : ms = [] := hg
    subst hm
    refine c_rt0 B F K T hk hA hh hd hu N ok ?_ fun tr v15' h' k F' N' => ?_
    · have := congrArg List.length hl
      simp at this
      omega
    · exact post none false [] [] rfl tr ts _ _ _ _ _ _ _ F' N' hl hp
  | some m =>
    obtain ⟨rfl, hg⟩ := hg
    exact c_rt B F K T hk hA hh hd hu N ok fine hl hp hg post bad
end

end
section
theorem while_once {prog : Program} {w : World} {A : Around} {env : Env} {test : Expr} {body : List Stmt} {pos : Pos} {Q : Flow → Shared → Prop} {E : Value → Shared → Prop} {s : Shared}
    (turn : wpAny (model prog w) A (isTrue test env (eval test env)) (fun b s₂ => if b then wpAny (model prog w) A (execs body env) (fun f s₃ => match f with
      | .next | .cont => False
      | .brk => Q .next s₃
      | .ret v => Q (.ret v) s₃) E s₂ else Q .next s₂) E s) (hE : PassesOwn (model prog w) A env E) :
    wpAny (model prog w) A (exec (.While test body [] pos) env) Q E s := by
  refine wpAny_While ?_
  refine codeAny_whileLoop (fun _ s' => s' = s) (fun n s' hI => ?_) 0 rfl
  subst hI
  refine wpAny_mono turn (fun b s₂ h => ?_) (fun e s' h => hE e s' h)
  cases b with
  | true =>
    refine wpAny_mono h (fun f s₃ h => ?_) (fun e s' h => hE e s' h)
    cases f <;> first | exact h | exact h.elim
  | false => exact wpAny_execs_nil h
theorem dq_mem {p a b c d : Addr × Obj} {r : List (Addr × Obj)} (h : p ∈ r) : p ∈ a :: b :: c :: d :: r := .tail _ (.tail _ (.tail _ (.tail _ h)))
theorem truthy_dqN {prog : Program} {w : World} {A : Around} {E : Value → Shared → Prop} {s : Shared} {h₀ : Heap} {L l : Addr} {news : List (Addr × Obj)} {Q : Bool → Shared → Prop} (N : News h₀ L s.heap news) (hm : (l, dqObj) ∈ news)
    (h : Q false { s with toks := s.toks + 1 + 1 }) : wpAny (model prog w) A (truthy (.ref l)) Q E s := truthy_dq (N.get hm) h
/-- get_token's answer says: the end -/
def stops (px qd : Bool) (tk : List Nat) : Bool := tk.isEmpty && (!px || !qd)
noncomputable def eofOf (px : Bool) (t : Tok) : Value := if px then .none else .str "" t
theorem eofOf_f {t : Tok} : eofOf false t = .str "" t := rfl
theorem eofOf_t {t : Tok} : eofOf true t = .none := rfl
section
variable {w : World} {A : Around} {cn : Str} {cs : Scope} {a : Addr} {ccd : Value} {cl : List (Str × Addr)} {outer : List Env} {A₀ : Around} {base h₀ : Heap} {L : Addr} {m : Str → Option Value} {mean : ExcName → Option Value} {mg mb : Str → Option Value} {s : Shared} {Q E : Value → Shared → Prop}
  {X : Lx} {ln : Int} {v13 v15 u ts te : Tok} {p : Nat} {ms : List (Nat × Kd)}
local macro_rules | `(tactic| walk_at "exec While") => `(tactic| (refine while_once ?_ (by passes_own)))
local macro_rules | `(tactic| walk_at "truthy ref") => `(tactic| (refine truthy_dqN (by assumption) (dq_mem (by assumption)) ?_))
local macro_rules | `(tactic| walk_at "call ref") => `(tactic| ((with_reducible show wpAny _ _ (call (Value.ref 700) _) _ _ _); refine halt_ ?_))
theorem c_gt {o : Option Md} (B : Below A₀ base outer h₀) (F : Fr h₀ L s.heap m) (K : (HK w.params).In h₀) (T : Top VW LS mean mg mb h₀) (hk : cs.kind = .function)
    (hA : A.frames = some (envX cn cs L a ccd cl :: outer)) (hh : A.handled = none) (hd : A.depth ≤ 600) (hu : A.units ≤ 500)
    (N : News h₀ L s.heap (X.led w (oval o ts) ln v13 "" v15 p u)) (ok : X.Ok) (fine : X.Fine) (hl : X.l.drop p = ms.map (·.1)) (hp : p ≤ X.l.length) (hg : Stand X.px o ms)
    (heof : X.eof = eofOf X.px te) (hpb : (X.pb, dqObj) ∈ X.rest) (hfs : (X.fs, dqObj) ∈ X.rest)
    (post : ∀ m' qd' tk' ms', runO X.px o ms = .got m' qd' tk' ms' → ∀ tr ts' ln' v13' v15' p' u' h' k, Fr h₀ L h' m → News h₀ L h' (X.led w (oval m' ts') ln' v13' "" v15' p' u') →
      X.l.drop p' = ms'.map (·.1) → p' ≤ X.l.length → Q (if stops X.px qd' tk' then eofOf X.px te else .str (tx tk') tr) { s with heap := h', toks := k })
    (bad : runO X.px o ms = .bad → ∀ e t g₂ h' k tt, Fr h₀ L g₂ m → g₂.UpToSlots h' → RaisedK base (envX cn cs L a ccd cl :: outer) e (.type "ValueError") t [.str "No closing quotation" tt] X.rest h' → E (.ref e) { s with heap := h', toks := k }) :
    wpAny (model PG w) A (call (.ref 693) [.ref X.x]) Q E s := by
  refine wpAny_weak (A' := ktrTop 600 500 none cn cs L a ccd cl outer) ?_ hh hd hA rfl hu
  obtain ⟨κ, μ, x, dx, y, dy, pb, fs, px, eof, cm, wc, rest, l⟩ := X
  obtain ⟨a1, a2, a3, a4, a5, r1, r2, hlen⟩ := id ok
  replace a1 := neN a1; replace a2 := neN a2; replace a3 := neN a3; replace a4 := neN a4; replace a5 := neN a5
  dsimp only [Lx.led] at *
  w_on
  refine wpAny_call ?_
  k_dflt (walk_at "m_enter")
  k_steps
  unfold Halt
  refine' c_rtO (X := ⟨κ, μ, x, dx, y, dy, pb, fs, px, eof, cm, wc, rest, l⟩) ?k1 ?k2 ?k3 ?k4 ?k5 ?k6 ?k7 ?k8 ?k9 ?k10 ok fine hl hp hg ?post ?bad; (case k6 => exact rfl); (case k2 => k_asm); (case k1 => k_asm); (case k3 => k_asm); (case k4 => k_asm); (case k5 => exact rfl); (case k7 => exact rfl); (case k8 => exact Nat.le_of_ble_eq_true rfl); (case k9 => exact Nat.le_of_ble_eq_true rfl); (case k10 => k_asm)
  case bad =>
    intro hr e t g2 h9 k9 tt F9 U9 R9
    k_steps
    rename_i R' U'
    exact bad hr _ _ _ _ _ _ (by assumption) U' R'
  case post =>
    intro m' qd' tk' ms' hr tr ts' ln' v13' v15' p' u' h9 k9 F9 N9 hl9 hp9
    dsimp only [Lx.led] at *
    replace post := post m' qd' tk' ms' hr
    subst heof
    cases px with
    | false =>
      rw [show rtVal false qd' tk' tr = .str (tx tk') tr from rfl]
      simp only [eofOf_f] at *
      k_steps
      · have e : stops false qd' tk' = true := by
          have h : (tx tk' == Str.ofString "") = true := by assumption
          rw [show Str.ofString "" = tx [] by decide +kernel, beq_iff_eq, tx_inj] at h
          rw [h]; rfl
        rw [e] at post
        exact post 0 _ _ _ _ _ _ _ _ (by k_asm) (by k_asm) hl9 hp9
      · have e : stops false qd' tk' = false := by
          have h : (tx tk' == Str.ofString "") = false := by assumption
          rw [show Str.ofString "" = tx [] by decide +kernel] at h
          cases tk' with
          | nil => simp at h
          | cons c r => rfl
        rw [e] at post
        exact post tr _ _ _ _ _ _ _ _ (by k_asm) (by k_asm) hl9 hp9
    | true =>
      simp only [eofOf_t] at *
      by_cases hs : stops true qd' tk' = true
      · have h1 : tk' = [] ∧ qd' = false := by simpa [stops] using hs
        obtain ⟨rfl, rfl⟩ := h1
        rw [show rtVal true false [] tr = .none from rfl]
        k_steps
        exact post 0 _ _ _ _ _ _ _ _ (by k_asm) (by k_asm) hl9 hp9
      · rw [Bool.not_eq_true] at hs
        rw [hs] at post
        have h1 : rtVal true qd' tk' tr = .str (tx tk') tr := by
          unfold rtVal
          rw [if_neg]
          intro hc
          simp [stops] at hs hc
          rw [hs hc.2] at hc
          simp at hc
        rw [h1]
        k_steps
        exact post tr _ _ _ _ _ _ _ _ (by k_asm) (by k_asm) hl9 hp9

theorem c_iter {x : Addr} {rest : List (Addr × Obj)} (B : Below A₀ base outer h₀) (F : Fr h₀ L s.heap m) (K : (HK w.params).In h₀) (T : Top VW LS mean mg mb h₀) (hk : cs.kind = .function)
    (hA : A.frames = some (envX cn cs L a ccd cl :: outer)) (hh : A.handled = none) (hd : A.depth ≤ 500) (hu : A.units ≤ 400)
    (N : News h₀ L s.heap rest)
    (post : ∀ h' k, Fr h₀ L h' m → News h₀ L h' rest → Q (.ref x) { s with heap := h', toks := k }) :
    wpAny (model PG w) A (call (.ref 722) [.ref x]) Q E s := by
  refine wpAny_weak (A' := ktrTop 500 400 none cn cs L a ccd cl outer) ?_ hh hd hA rfl hu
  w_on
  refine wpAny_call ?_
  k_dflt (walk_at "m_enter")
  k_steps
  exact post _ _ (by k_asm) (by k_asm)
end
section
variable {w : World} {A : Around} {cn : Str} {cs : Scope} {a : Addr} {ccd : Value} {cl : List (Str × Addr)} {outer : List Env} {A₀ : Around} {base h₀ : Heap} {L : Addr} {m : Str → Option Value} {mean : ExcName → Option Value} {mg mb : Str → Option Value} {s : Shared} {Q E : Value → Shared → Prop}
  {X : Lx} {ln : Int} {v13 v15 u ts te : Tok} {p : Nat} {ms : List (Nat × Kd)}
local macro_rules | `(tactic| walk_at "call ref") => `(tactic| ((with_reducible show wpAny _ _ (call (Value.ref 693) _) _ _ _); refine halt_ ?_))
theorem c_next {o : Option Md} (B : Below A₀ base outer h₀) (F : Fr h₀ L s.heap m) (K : (HK w.params).In h₀) (T : Top VW LS mean mg mb h₀) (hk : cs.kind = .function)
    (hA : A.frames = some (envX cn cs L a ccd cl :: outer)) (hh : A.handled = none) (hd : A.depth ≤ 500) (hu : A.units ≤ 400)
    (N : News h₀ L s.heap (X.led w (oval o ts) ln v13 "" v15 p u)) (ok : X.Ok) (fine : X.Fine) (hl : X.l.drop p = ms.map (·.1)) (hp : p ≤ X.l.length) (hg : Stand X.px o ms)
    (heof : X.eof = eofOf X.px te) (hpb : (X.pb, dqObj) ∈ X.rest) (hfs : (X.fs, dqObj) ∈ X.rest)
    (post : ∀ m' qd' tk' ms', runO X.px o ms = .got m' qd' tk' ms' → stops X.px qd' tk' = false → ∀ tr ts' ln' v13' v15' p' u' h' k, Fr h₀ L h' m → News h₀ L h' (X.led w (oval m' ts') ln' v13' "" v15' p' u') →
      X.l.drop p' = ms'.map (·.1) → p' ≤ X.l.length → Q (.str (tx tk') tr) { s with heap := h', toks := k })
    (stop : ∀ m' qd' tk' ms', runO X.px o ms = .got m' qd' tk' ms' → stops X.px qd' tk' = true → ∀ e t g₂ h' k, Fr h₀ L g₂ m → g₂.UpToSlots h' → RaisedK base (envX cn cs L a ccd cl :: outer) e (.type "StopIteration") t [] X.rest h' → E (.ref e) { s with heap := h', toks := k })
    (bad : runO X.px o ms = .bad → ∀ e t g₂ h' k tt, Fr h₀ L g₂ m → g₂.UpToSlots h' → RaisedK base (envX cn cs L a ccd cl :: outer) e (.type "ValueError") t [.str "No closing quotation" tt] X.rest h' → E (.ref e) { s with heap := h', toks := k }) :
    wpAny (model PG w) A (call (.ref 729) [.ref X.x]) Q E s := by
  refine wpAny_weak (A' := ktrTop 500 400 none cn cs L a ccd cl outer) ?_ hh hd hA rfl hu
  obtain ⟨κ, μ, x, dx, y, dy, pb, fs, px, eof, cm, wc, rest, l⟩ := X
  obtain ⟨a1, a2, a3, a4, a5, r1, r2, hlen⟩ := id ok
  replace a1 := neN a1; replace a2 := neN a2; replace a3 := neN a3; replace a4 := neN a4; replace a5 := neN a5
  dsimp only [Lx.led] at *
  w_on
  refine wpAny_call ?_
  k_dflt (walk_at "m_enter")
  k_steps
  unfold Halt
  refine' c_gt (X := ⟨κ, μ, x, dx, y, dy, pb, fs, px, eof, cm, wc, rest, l⟩) (te := te) ?k1 ?k2 ?k3 ?k4 ?k5 ?k6 ?k7 ?k8 ?k9 ?k10 ok fine hl hp hg heof hpb hfs ?post ?bad; (case k6 => exact rfl); (case k2 => k_asm); (case k1 => k_asm); (case k3 => k_asm); (case k4 => k_asm); (case k5 => exact rfl); (case k7 => exact rfl); (case k8 => exact Nat.le_of_ble_eq_true rfl); (case k9 => exact Nat.le_of_ble_eq_true rfl); (case k10 => k_asm)
  case bad =>
    intro hr e t g2 h9 k9 tt F9 U9 R9
    k_steps
    rename_i R' U'
    exact bad hr _ _ _ _ _ _ (by assumption) U' R'
  case post =>
    intro m' qd' tk' ms' hr tr ts' ln' v13' v15' p' u' h9 k9 F9 N9 hl9 hp9
    dsimp only [Lx.led] at *
    replace post := post m' qd' tk' ms' hr
    replace stop := stop m' qd' tk' ms' hr
    subst heof
    by_cases hs : stops px qd' tk' = true
    · rw [hs]
      rw [if_pos rfl]
      cases px with
      | false =>
        simp only [eofOf_f] at *
        have z : (Str.ofString "" == Str.ofString "") = true := by decide +kernel
        k_steps
        rename_i R' U'
        exact stop hs _ _ _ _ _ (by assumption) U' (raisedK_sub R' fun q hq => dq_mem hq)
      | true =>
        simp only [eofOf_t] at *
        k_steps
        rename_i R' U'
        exact stop hs _ _ _ _ _ (by assumption) U' (raisedK_sub R' fun q hq => dq_mem hq)
    · rw [Bool.not_eq_true] at hs
      rw [hs]
      rw [if_neg (by decide)]
      cases px with
      | false =>
        simp only [eofOf_f] at *
        have z : (tx tk' == Str.ofString "") = false := by
          cases tk' with
          | nil => simp [stops] at hs
          | cons c r => rw [show Str.ofString "" = tx [] by decide +kernel, ← Bool.not_eq_true, beq_iff_eq, tx_inj]; simp
        k_steps
        exact post hs tr _ _ _ _ _ _ _ _ (by k_asm) (by k_asm) hl9 hp9
      | true =>
        simp only [eofOf_t] at *
        k_steps
        exact post hs tr _ _ _ _ _ _ _ _ (by k_asm) (by k_asm) hl9 hp9
end

end
section
/-- what the lexer makes of the marks: none where a quotation stays open -/
inductive Lexed (px : Bool) : Option Md → List (Nat × Kd) → Option (List (List Nat)) → Prop
  | bad {o ms} : runO px o ms = .bad → Lexed px o ms none
  | stop {o ms m' qd tk ms'} : runO px o ms = .got m' qd tk ms' → stops px qd tk = true → Lexed px o ms (some [])
  | more {o ms m' qd tk ms' r} : runO px o ms = .got m' qd tk ms' → stops px qd tk = false → Lexed px m' ms' r → Lexed px o ms (r.map (tk :: ·))
theorem run_stand {px : Bool} {m' : Option Md} {qd' : Bool} {tk' : List Nat} {ms' : List (Nat × Kd)} : ∀ (ms : List (Nat × Kd)) (m : Md) (qd : Bool) (tk : List Nat), Good px m ms → run px m qd tk ms = .got m' qd' tk' ms' → Stand px m' ms' := by
  intro ms
  induction ms with
  | nil =>
    intro m qd tk hg hr
    cases m <;> simp only [run] at hr
    · obtain ⟨rfl, -, -, rfl⟩ := Rt.got.inj hr; rfl
    · obtain ⟨rfl, -, -, rfl⟩ := Rt.got.inj hr; rfl
    · cases hr
  | cons ck ms ih =>
    obtain ⟨c, k⟩ := ck
    intro m qd tk hg hr
    cases m with
    | S =>
      cases k <;> simp only [run, Good] at hr hg
      · exact ih _ _ _ hg.2 hr
      · exact ih _ _ _ hg.2 hr
      · exact ih _ _ _ hg.2 hr
    | A =>
      cases k <;> simp only [run, Good] at hr hg
      · obtain ⟨rfl, -, -, rfl⟩ := Rt.got.inj hr; exact ⟨rfl, hg.2⟩
      · exact ih _ _ _ hg.2 hr
      · exact ih _ _ _ hg.2 hr
    | Q q =>
      cases k <;> simp only [run, Good] at hr hg
      · exact ih _ _ _ hg.2 hr
      · cases px
        · simp only [Bool.false_eq_true, if_false] at hr hg
          obtain ⟨rfl, -, -, rfl⟩ := Rt.got.inj hr; exact ⟨rfl, hg.2⟩
        · simp only [if_true] at hr hg
          exact ih _ _ _ hg.2 hr
theorem run_len {px : Bool} {m' : Option Md} {qd' : Bool} {tk' : List Nat} {ms' : List (Nat × Kd)} : ∀ (ms : List (Nat × Kd)) (m : Md) (qd : Bool) (tk : List Nat), run px m qd tk ms = .got m' qd' tk' ms' → ms'.length ≤ ms.length ∧ (ms ≠ [] → ms'.length < ms.length) := by
  intro ms
  induction ms with
  | nil =>
    intro m qd tk hr
    cases m <;> simp only [run] at hr
    · obtain ⟨rfl, -, -, rfl⟩ := Rt.got.inj hr; simp
    · obtain ⟨rfl, -, -, rfl⟩ := Rt.got.inj hr; simp
    · cases hr
  | cons ck ms ih =>
    obtain ⟨c, k⟩ := ck
    have key : ∀ m qd tk, run px m qd tk ms = .got m' qd' tk' ms' → ms'.length ≤ ((c, k) :: ms).length ∧ ((c, k) :: ms ≠ [] → ms'.length < ((c, k) :: ms).length) := fun m qd tk h => by
      have := (ih m qd tk h).1
      simp only [List.length_cons]
      omega
    have fin : ms' = ms → ms'.length ≤ ((c, k) :: ms).length ∧ ((c, k) :: ms ≠ [] → ms'.length < ((c, k) :: ms).length) := fun h => by
      subst h
      simp only [List.length_cons]
      omega
    intro m qd tk hr
    cases m with
    | S => cases k <;> simp only [run] at hr <;> exact key _ _ _ hr
    | A =>
      cases k <;> simp only [run] at hr <;> first
        | exact key _ _ _ hr
        | (obtain ⟨-, -, -, h⟩ := Rt.got.inj hr; exact fin h.symm)
    | Q q =>
      cases k <;> simp only [run] at hr <;> first
        | exact key _ _ _ hr
        | (cases px <;> simp only [Bool.false_eq_true, if_false, if_true] at hr <;> first
          | exact key _ _ _ hr
          | (obtain ⟨-, -, -, h⟩ := Rt.got.inj hr; exact fin h.symm))
theorem runO_len {px : Bool} {o m' : Option Md} {qd' : Bool} {tk' : List Nat} {ms ms' : List (Nat × Kd)} (hs : Stand px o ms) (hr : runO px o ms = .got m' qd' tk' ms') (hn : stops px qd' tk' = false) : ms'.length < ms.length := by
  cases o with
  | none =>
    obtain ⟨-, rfl, rfl, -⟩ := Rt.got.inj hr
    simp [stops] at hn
  | some m =>
    refine (run_len ms .S false [] hr).2 fun h => ?_
    subst h
    simp only [runO, run] at hr
    obtain ⟨-, rfl, rfl, -⟩ := Rt.got.inj hr
    simp [stops] at hn
theorem runO_stand {px : Bool} {o m' : Option Md} {qd' : Bool} {tk' : List Nat} {ms ms' : List (Nat × Kd)} (hs : Stand px o ms) (hr : runO px o ms = .got m' qd' tk' ms') : Stand px m' ms' := by
  cases o with
  | none => obtain ⟨rfl, -, -, rfl⟩ := Rt.got.inj hr; exact hs
  | some m => exact run_stand ms .S false [] hs.2 hr
section
variable {M : Model} {A : Around} {E : Value → Shared → Prop} {s : Shared} {base : Heap} {l : List Env} {e t : Addr} {vs : List Value} {news : List (Addr × Obj)} {Q : Option Value → Shared → Prop}
theorem raised_type {X : String} (R : RaisedK base l e (.type X) t vs news s.heap) : s.TypeIs (.ref e) X := by
  obtain ⟨⟨B, hB, hl, hfl, _⟩, _⟩ := R
  obtain ⟨ob, hob, hobc⟩ := (flyingW_base hB hfl).there
  exact ⟨ob, hob, hobc⟩
theorem owit_is (R : RaisedK base l e (.type "StopIteration") t vs news s.heap) (k : Q none s) : OwitStop M A Q E (.ref e) s :=
  wpAny_isInstance (raised_type R) (b := true) (by rw [isSubtype_type]; kernel_rfl) (by rw [if_pos rfl]; exact k)
theorem owit_not (R : RaisedK base l e (.type "ValueError") t vs news s.heap) (k : E (.ref e) s) : OwitStop M A Q E (.ref e) s :=
  wpAny_isInstance (raised_type R) (b := false) (by rw [isSubtype_type]; kernel_rfl) (by rw [if_neg (by decide)]; exact k)
end
/-- the values carry these texts -/
def Texts (vs : List Value) (ts : List (List Nat)) : Prop := ∃ us : List Tok, us.length = ts.length ∧ vs = (ts.zip us).map fun p => .str (tx p.1) p.2
theorem Texts.nil : Texts [] [] := ⟨[], rfl, rfl⟩
theorem Texts.snoc {vs : List Value} {ts : List (List Nat)} {t : List Nat} {u : Tok} (h : Texts vs ts) : Texts (vs ++ [.str (tx t) u]) (ts ++ [t]) := by
  obtain ⟨us, h1, rfl⟩ := h
  refine ⟨us ++ [u], by simp [h1], ?_⟩
  rw [List.zip_append h1.symm, List.map_append]; rfl
theorem Texts.length {vs : List Value} {ts : List (List Nat)} (h : Texts vs ts) : vs.length = ts.length := by
  obtain ⟨us, h1, rfl⟩ := h
  simp [h1]
section
variable {w : World} {A : Around} {cn : Str} {cs : Scope} {a : Addr} {ccd : Value} {outer : List Env} {A₀ : Around} {base h₀ : Heap} {L S : Addr} {m : Str → Option Value} {mean : ExcName → Option Value} {mg mb : Str → Option Value} {R : Result → Shared → Prop}
  {X : Lx} {te : Tok}
abbrev Lx.with (X : Lx) (S : Addr) (vs : List Value) (c : Nat) : Lx := { X with rest := (S, lo vs c) :: X.rest }
theorem lex_inst {h : Heap} {st : Value} {ln : Int} {v13 v15 u : Tok} {tk : Str} {p : Nat} (N : News h₀ L h (X.led w st ln v13 tk v15 p u)) :
    PySem.W.InstAt h X.x (instObj 732 X.dx) 732 (some (dictOf (lexEs w X.κ X.y X.pb X.fs X.px X.eof X.cm X.wc st ln v13 tk v15) 19)) := ⟨N.get (.head _), rfl, rfl, N.get (.tail _ (.head _))⟩
theorem push_lo {vs : List Value} {c : Nat} {v : Value} : Obj.mapSeq (·.push v) (lo vs c) = lo (vs ++ [v]) (c + 1) := by
  simp [Obj.mapSeq, lo]
theorem touch_lo {vs : List Value} {c : Nat} {v : Value} : Obj.mapSeq (·.pop) (lo (vs ++ [v]) c) = lo vs (c + 1) := by
  simp [Obj.mapSeq, lo]
structure Lx.Off (X : Lx) (S : Addr) : Prop where
  x : X.x ≠ S
  dx : X.dx ≠ S
  y : X.y ≠ S
  dy : X.dy ≠ S
  r : ∀ q ∈ X.rest, q.1 ≠ S
theorem ok_with {vs : List Value} {c : Nat} (ok : X.Ok) (off : X.Off S) : (X.with S vs c).Ok := ⟨ok.a1, ok.a2, ok.a3, ok.a4, ok.a5, List.forall_mem_cons.mpr ⟨off.dx.symm, ok.r1⟩, List.forall_mem_cons.mpr ⟨off.dy.symm, ok.r2⟩, ok.len⟩
theorem fine_with {vs : List Value} {c : Nat} (f : X.Fine) : (X.with S vs c).Fine := ⟨f.cm, f.wc⟩
theorem list_loop (B : Below A₀ base outer h₀) (K : (HK w.params).In h₀) (T : Top VW LS mean mg mb h₀) (hk : cs.kind = .function)
    (hA : A.in1.frames = some (envOf cn cs L a ccd :: outer)) (hh : A.in1.handled = none) (hd : A.in1.depth ≤ 500) (hu : A.in1.units ≤ 400)
    (ok : X.Ok) (fine : X.Fine) (off : X.Off S) (heof : X.eof = eofOf X.px te) (hpb : (X.pb, dqObj) ∈ X.rest) (hfs : (X.fs, dqObj) ∈ X.rest) {o : Option Md} {ms : List (Nat × Kd)} {r : Option (List (List Nat))} (lx : Lexed X.px o ms r) :
    ∀ (s : Shared) (vs : List Value) (tt : List (List Nat)) (c : Nat) (ts : Tok) (ln : Int) (v13 v15 : Tok) (p : Nat) (u : Tok), Fr h₀ L s.heap m → News h₀ L s.heap ((X.with S vs c).led w (oval o ts) ln v13 "" v15 p u) → Texts vs tt → X.l.drop p = ms.map (·.1) → p ≤ X.l.length → Stand X.px o ms →
      tt.length + ms.length < 200000 →
      (∀ r', r = some r' → ∀ vs' c' e t g₂ h' k, Texts vs' (tt ++ r') → Fr h₀ L g₂ m → g₂.UpToSlots h' → RaisedK base (envOf cn cs L a ccd :: outer) e (.type "StopIteration") t [] ((S, lo vs' c') :: X.rest) h' → R (.ok (.ret .none)) { s with heap := h', toks := k }) →
      (r = none → ∀ e t g₂ h' k tt, Fr h₀ L g₂ m → g₂.UpToSlots h' → RaisedK base (envOf cn cs L a ccd :: outer) e (.type "ValueError") t [.str "No closing quotation" tt] X.rest h' → R (.error (.ref e)) { s with heap := h', toks := k }) →
      codeAny (model PG w) A (.builtin "list.extend.loop" ⟨[.ref S, .ref X.x, .none], []⟩) R s := by
  induction lx with
  | bad hr =>
    intro s vs tt c ts ln v13 v15 p u F N hT hl hp hs hb post bad
    refine codeAny_builtin PySem.F.entry_extend_loop ?_
    rw [Around.under_plainId PySem.F.plain_extend_loop _]
    show wpAny _ A.in1 (pyNext (.ref X.x) >>= _) _ _ s
    refine wpAny_bind (owit_next (K := HK w.params) (C := 732) (f := 729) F K (lex_inst (X := X.with S vs c) N) (by k_is) (by k_is) ?_)
    refine c_next (X := X.with S vs c) (cl := []) B F K T hk hA hh hd hu N (ok_with ok off) (fine_with fine) hl hp hs heof (.tail _ hpb) (.tail _ hfs) ?_ ?_ ?_
    · intro m' qd' tk' ms' hr'
      rw [show runO (X.with S vs c).px _ _ = _ from hr] at hr'
      cases hr'
    · intro m' qd' tk' ms' hr'
      rw [show runO (X.with S vs c).px _ _ = _ from hr] at hr'
      cases hr'
    · intro _ e t g2 h' k tt' F2 U2 R2
      exact owit_not R2 (bad rfl e t g2 h' k tt' F2 U2 (raisedK_sub R2 fun q hq => .tail _ hq))
  | stop hr hst =>
    intro s vs tt c ts ln v13 v15 p u F N hT hl hp hs hb post bad
    refine codeAny_builtin PySem.F.entry_extend_loop ?_
    rw [Around.under_plainId PySem.F.plain_extend_loop _]
    show wpAny _ A.in1 (pyNext (.ref X.x) >>= _) _ _ s
    refine wpAny_bind (owit_next (K := HK w.params) (C := 732) (f := 729) F K (lex_inst (X := X.with S vs c) N) (by k_is) (by k_is) ?_)
    refine c_next (X := X.with S vs c) (cl := []) B F K T hk hA hh hd hu N (ok_with ok off) (fine_with fine) hl hp hs heof (.tail _ hpb) (.tail _ hfs) ?_ ?_ ?_
    · intro m' qd' tk' ms' hr' hn
      rw [show runO (X.with S vs c).px _ _ = _ from hr] at hr'
      obtain ⟨-, rfl, rfl, -⟩ := Rt.got.inj hr'
      rw [show stops (X.with S vs c).px _ _ = _ from hst] at hn
      cases hn
    · intro m' qd' tk' ms' hr' hn e t g2 h' k F2 U2 R2
      exact owit_is R2 (wpAny_pure (post [] rfl vs c e t g2 h' k (by rw [List.append_nil]; exact hT) F2 U2 R2))
    · intro hr'
      rw [show runO (X.with S vs c).px _ _ = _ from hr] at hr'
      cases hr'
  | more hr hst lx ih =>
    rename_i o ms m' qd' tk' ms' r
    intro s vs tt c ts ln v13 v15 p u F N hT hl hp hs hb post bad
    refine codeAny_builtin PySem.F.entry_extend_loop ?_
    rw [Around.under_plainId PySem.F.plain_extend_loop _]
    show wpAny _ A.in1 (pyNext (.ref X.x) >>= _) _ _ s
    refine wpAny_bind (owit_next (K := HK w.params) (C := 732) (f := 729) F K (lex_inst (X := X.with S vs c) N) (by k_is) (by k_is) ?_)
    refine c_next (X := X.with S vs c) (cl := []) B F K T hk hA hh hd hu N (ok_with ok off) (fine_with fine) hl hp hs heof (.tail _ hpb) (.tail _ hfs) ?_ ?_ ?_
    · intro m2 qd2 tk2 ms2 hr' hn tr ts' ln' v13' v15' p' u' h' k F' N' hl' hp'
      rw [show runO (X.with S vs c).px _ _ = _ from hr] at hr'
      obtain ⟨rfl, rfl, rfl, rfl⟩ := Rt.got.inj hr'
      have hlt := runO_len hs hr hst
      have hvl := hT.length
      have hS := N'.get (.tail _ (.tail _ (.tail _ (.tail _ (.head _)))))
      show wpAny _ A.in1 (updateSeq S (·.push _) >>= _) _ _ _
      refine wpAny_bind ?_
      have up := news_upd (f := Obj.mapSeq (·.push (Value.str (tx tk') tr))) (o' := lo (vs ++ [.str (tx tk') tr]) (c + 1)) (pre := [(X.x, instObj 732 X.dx), (X.dx, dictOf (lexEs w X.κ X.y X.pb X.fs X.px X.eof X.cm X.wc (oval m' ts') ln' v13' "" v15') 19), (X.y, instObj 597 X.dy), (X.dy, dictOf (sioEs w X.μ (tx X.l) p' u') 3)]) F' N' ?_ off.r ?_ rfl
      · refine wpAny_updateSeq hS rfl (wpAny_pure ⟨plainId_quiet PySem.F.plain_extend_loop _, ih _ _ (tt ++ [tk']) (c + 1) ts' ln' v13' v15' p' u' up.1 up.2 hT.snoc hl' hp' (runO_stand hs hr) (by simp; omega) ?_ ?_⟩) ?_ ?_
        · intro r' h2 vs' c' e t g2 h3 k3 hT3 F3 U3 R3
          subst h2
          exact post _ rfl vs' c' e t g2 h3 k3 (by rw [List.append_assoc] at hT3; exact hT3) F3 U3 R3
        · intro h2
          subst h2
          exact bad rfl
        · show vs.toArray.size ≤ _
          rw [sizeLine_eq]; simp; omega
        · show (vs.toArray.push _).size ≤ _
          rw [sizeLine_eq]; simp; omega
      · intro q hq
        simp only [List.mem_cons, List.not_mem_nil, or_false] at hq
        rcases hq with rfl | rfl | rfl | rfl
        · exact off.x
        · exact off.dx
        · exact off.y
        · exact off.dy
      · exact push_lo
    · intro m2 qd2 tk2 ms2 hr' hn
      rw [show runO (X.with S vs c).px _ _ = _ from hr] at hr'
      obtain ⟨-, rfl, rfl, -⟩ := Rt.got.inj hr'
      rw [show stops (X.with S vs c).px _ _ = _ from hst] at hn
      cases hn
    · intro hr'
      rw [show runO (X.with S vs c).px _ _ = _ from hr] at hr'
      cases hr'
theorem c_list {s : Shared} {Q E : Value → Shared → Prop} {ts : Tok} {ln : Int} {v13 v15 u : Tok} {p : Nat} (B : Below A₀ base outer h₀) (F : Fr h₀ L s.heap m) (K : (HK w.params).In h₀) (T : Top VW LS mean mg mb h₀) (hk : cs.kind = .function)
    (hA : A.frames = some (envOf cn cs L a ccd :: outer)) (hh : A.handled = none) (hd : A.depth ≤ 400) (hu : A.units ≤ 300)
    (ok : X.Ok) (fine : X.Fine) (heof : X.eof = eofOf X.px te) (hpb : (X.pb, dqObj) ∈ X.rest) (hfs : (X.fs, dqObj) ∈ X.rest) {ms : List (Nat × Kd)} {r : Option (List (List Nat))} (lx : Lexed X.px (some .S) ms r)
    (N : News h₀ L s.heap (X.led w (.str " " ts) ln v13 "" v15 p u)) (hl : X.l.drop p = ms.map (·.1)) (hp : p ≤ X.l.length) (hg : Good X.px .S ms)
    (post : ∀ r', r = some r' → ∀ S vs' c' e t g₂ h' k, Texts vs' r' → Fr h₀ L g₂ m → g₂.UpToSlots h' → RaisedK base (envOf cn cs L a ccd :: outer) e (.type "StopIteration") t [] ((S, lo vs' c') :: X.rest) h' → Q (.ref S) { s with heap := h', toks := k })
    (bad : r = none → ∀ e t g₂ h' k tt, Fr h₀ L g₂ m → g₂.UpToSlots h' → RaisedK base (envOf cn cs L a ccd :: outer) e (.type "ValueError") t [.str "No closing quotation" tt] X.rest h' → E (.ref e) { s with heap := h', toks := k }) :
    wpAny (model PG w) A (call (.type "list") [.ref X.x]) Q E s := by
  have lt : ∀ q ∈ X.led w (.str " " ts) ln v13 "" v15 p u, q.1 ≠ s.heap.objs.size := fun q hq => Nat.ne_of_lt (Heap.lt_size (N q hq).1)
  have off : X.Off s.heap.objs.size := ⟨lt _ (.head _), lt _ (.tail _ (.head _)), lt _ (.tail _ (.tail _ (.head _))), lt _ (.tail _ (.tail _ (.tail _ (.head _)))), fun q hq => lt q (dq_mem hq)⟩
  refine callType_codes (Q₁ := fun obj s₁ => obj = .ref s.heap.objs.size ∧ s₁ = { s with heap := s.heap.push (lo [] 0) }) PySem.F.called_list (PySem.F.typeCall_list_1 _) PySem.F.entry_list_init
    (code_list_new _ ⟨rfl, rfl⟩) fun obj s₁ h₁ => ?_
  obtain ⟨rfl, rfl⟩ := h₁
  have hS : (s.heap.push (lo [] 0)).get? s.heap.objs.size = some (lo [] 0) := Heap.get?_push_size _ rfl
  have F1 := F.push (lo [] 0)
  have N1 : News h₀ L (s.heap.push (lo [] 0)) ((X.with s.heap.objs.size [] 0).led w (.str " " ts) ln v13 "" v15 p u) := fun q hq => by
    refine News.push F N (lo [] 0) rfl q ?_
    simp only [Lx.led, Lx.with, List.mem_cons] at hq ⊢
    rcases hq with h | h | h | h | h | h <;> simp [h]
  refine ⟨⟨_, hS, rfl⟩, PySem.F.args_list_init_2 _ _, ?_⟩
  show wpAny _ _ (do let old ← Builtin.List.listItems (.ref s.heap.objs.size); Builtin.List.listUpdate (.ref s.heap.objs.size) (fun _ => #[]); letGo old.toList.reverse; Builtin.List.listExtendWith (.ref s.heap.objs.size) (.ref X.x) .none) _ _ _
  refine wpAny_bind ?_
  unfold Builtin.List.listItems
  refine wpAny_bind (wpAny_seqItems hS rfl (wpAny_pure ?_))
  show wpAny _ _ (updateSeq s.heap.objs.size (fun _ => #[]) >>= fun _ => letGo (#[] : Array Value).toList.reverse >>= fun _ => Builtin.List.listExtendWith (.ref s.heap.objs.size) (.ref X.x) .none) _ _ _
  refine wpAny_bind (wpAny_updateSeq hS rfl ?_)
  have upd : ∀ {h : Heap} {vs : List Value} {c : Nat} (f : Obj → Obj) (o' : Obj), Fr h₀ L h m → News h₀ L h ((X.with s.heap.objs.size vs c).led w (.str " " ts) ln v13 "" v15 p u) → f (lo vs c) = o' → o'.isFreed = false →
      Fr h₀ L (h.update s.heap.objs.size f) m ∧ News h₀ L (h.update s.heap.objs.size f) ((X.x, instObj 732 X.dx) :: (X.dx, dictOf (lexEs w X.κ X.y X.pb X.fs X.px X.eof X.cm X.wc (.str " " ts) ln v13 "" v15) 19) :: (X.y, instObj 597 X.dy) :: (X.dy, dictOf (sioEs w X.μ (tx X.l) p u) 3) :: (s.heap.objs.size, o') :: X.rest) := fun f o' Fh Nh e1 e2 =>
    news_upd (f := f) (o' := o') (pre := [(X.x, instObj 732 X.dx), (X.dx, dictOf (lexEs w X.κ X.y X.pb X.fs X.px X.eof X.cm X.wc (.str " " ts) ln v13 "" v15) 19), (X.y, instObj 597 X.dy), (X.dy, dictOf (sioEs w X.μ (tx X.l) p u) 3)]) Fh Nh (fun q hq => by
      simp only [List.mem_cons, List.not_mem_nil, or_false] at hq
      rcases hq with rfl | rfl | rfl | rfl
      · exact off.x
      · exact off.dx
      · exact off.y
      · exact off.dy) off.r e1 e2
  obtain ⟨F2, N2⟩ := upd (Obj.mapSeq fun _ => (#[] : Array Value)) (lo [] 0) F1 N1 rfl rfl
  refine wpAny_bind (wpAny_letGo ?_)
  unfold Builtin.List.listExtendWith
  refine wpAny_bind ((lex_inst (X := X.with s.heap.objs.size [] 0) N2).type.here ?_)
  have h1 : Builtin.List.listSameRef (.ref s.heap.objs.size) (.ref X.x) = false := by simp [Builtin.List.listSameRef, off.x.symm]
  have h2 : (Value.ref 732 == Value.type "list") = false := by decide
  have h3 : (Value.ref 732 == Value.type "tuple") = false := by decide
  simp only [h1, h2, h3, Bool.or_false, Bool.false_eq_true, if_false]
  refine wpAny_bind (owit_iter (K := HK w.params) (C := 732) (f := 722) F2 K (lex_inst (X := X.with s.heap.objs.size [] 0) N2) (by k_is) (by k_is) ?_)
  refine c_iter (cl := []) B F2 K T hk hA hh (Nat.le_trans hd (by decide)) (Nat.le_trans (Nat.add_le_add_right (Nat.add_le_add_right hu 1) 1) (by decide)) N2 fun h3 k3 F3 N3 => ?_
  refine owit_it (K := HK w.params) (C := 732) (g := .ref 729) F3 K (lex_inst (X := X.with s.heap.objs.size [] 0) N3) (by k_is) ?_
  refine wpAny_bind (wpAny_holding ?_)
  unfold Builtin.List.listLengthHint
  refine wpAny_bind (wpAny_bind ((lex_inst (X := X.with s.heap.objs.size [] 0) N3).type.here ((looks_findIn (K := HK w.params) (K.keeps F3.keep) (r := none) (by k_is)).here ?_)))
  refine wpAny_ite_split (fun hab => absurd hab (by decide)) (fun _ => ?_)
  refine wpAny_ite_split (fun hab => absurd hab (by decide)) (fun _ => ?_)
  refine wpAny_bind (wpAny_bind ((lex_inst (X := X.with s.heap.objs.size [] 0) N3).type.here ((looks_findIn (K := HK w.params) (K.keeps F3.keep) (r := none) (by k_is)).here ?_)))
  refine wpAny_pure ?_
  refine wpAny_ite_split (fun _ => ?_) (fun hab => absurd rfl hab)
  refine wpAny_bind (wpAny_rule ?_)
  refine wpAny_bind ?_
  show wpAny _ _ (updateSeq s.heap.objs.size (·.push .none) >>= fun _ => updateSeq s.heap.objs.size (·.pop)) _ _ _
  obtain ⟨F4, N4⟩ := upd (Obj.mapSeq (·.push Value.none)) (lo [.none] 1) F3 N3 rfl rfl
  refine wpAny_bind (wpAny_updateSeq (N3.get (.tail _ (.tail _ (.tail _ (.tail _ (.head _)))))) rfl ?_)
  obtain ⟨F5, N5⟩ := upd (Obj.mapSeq (·.pop)) (lo [] 2) F4 N4 rfl rfl
  refine wpAny_updateSeq (hz := by seq_fits) (N4.get (.tail _ (.tail _ (.tail _ (.tail _ (.head _)))))) rfl ?_
  refine wpAny_pure ⟨plainId_quiet PySem.F.plain_extend_loop _, ?_⟩
  refine list_loop (A := A.in1) (te := te) (m := m) B K T hk hA hh (Nat.le_trans hd (by decide)) (Nat.le_trans (Nat.add_le_add_right (Nat.add_le_add_right hu 1) 1) (by decide)) ok fine off heof hpb hfs lx _ [] [] 2 ts ln v13 v15 p u F5 N5 Texts.nil hl hp ⟨rfl, hg⟩ ?_ ?_ ?_
  · have h9 := congrArg List.length hl
    have := ok.len
    simp at h9 ⊢
    omega
  · intro r' hr' vs' c' e t g2 h6 k6 hT F6 U6 R6
    exact ⟨rfl, post r' hr' _ vs' c' e t g2 h6 k6 hT F6 U6 R6⟩
  · intro hr' e t g2 h6 k6 tt F6 U6 R6
    exact bad hr' e t g2 h6 k6 tt F6 U6 R6
end

end
section
theorem News.sub {h₀ h : Heap} {L : Addr} {n n' : List (Addr × Obj)} (N : News h₀ L h n) (hs : ∀ q ∈ n', q ∈ n) : News h₀ L h n' := fun q hq => N q (hs q hq)
theorem sio_here {w : World} {h : Heap} (X : (HK w.params).In h) : Looks (model PG w) h (Bind.madeHere "object.__new__" (.ref 597)) () := Looks.of_peek X (by kernel_rfl)
theorem sio_base {w : World} {h : Heap} (X : (HK w.params).In h) : Looks (model PG w) h (Bind.staticBase (.ref 597)) (.type "object") := Looks.of_peek X (by kernel_rfl)
theorem sio_made {w : World} {h : Heap} (X : (HK w.params).In h) : Looks (model PG w) h (Bind.madeBy (.type "object")) (some "object.__new__") := Looks.of_peek X (by kernel_rfl)
theorem sio_by {w : World} {h : Heap} (X : (HK w.params).In h) : Looks (model PG w) h (Bind.madeBy (.ref 597)) none := Looks.of_peek X (by kernel_rfl)
theorem sio_typ {w : World} {h : Heap} (X : (HK w.params).In h) : Looks (model PG w) h (isInstance (.ref 597) (.type "type")) true := looks_instIn X (by kernel_rfl)
theorem sio_call {w : World} {h : Heap} (X : (HK w.params).In h) : Looks (model PG w) h (specialOf (.ref 597) "__call__") (some (.builtin "type.__call__")) := looks_specialIn X (by kernel_rfl)
theorem sio_self {w : World} {h : Heap} (X : (HK w.params).In h) : Looks (model PG w) h (isSubtype (.ref 597) (.ref 597)) true := looks_mroIn X (by kernel_rfl)
theorem sio_top {w : World} {h : Heap} (X : (HK w.params).In h) : Looks (model PG w) h (isSubtype (.ref 597) (.type "object")) true := looks_mroIn X (by kernel_rfl)
theorem new_sio {w : World} {A : Around} {R : Result → Shared → Prop} {h : Heap} {g : Array GenState} {d : Drawn} {t : Nat} {os : OsState} (X : (HK w.params).In h)
    (hq : R (.ok (.ret (.ref (h.objs.size + 1)))) ⟨(h.push emptyDict).push (instObj 597 h.objs.size), g, d, t, os⟩) :
    codeAny (model PG w) A (.call (.builtin "object.__new__") ⟨[.ref 597], []⟩) R ⟨h, g, d, t, os⟩ := by
  have hC : h.get? 597 = some (o597 w.params) := X 597 _ (by kernel_rfl)
  have typ := sio_typ X
  have self := sio_self X
  have top := sio_top X
  have F := PySem.F.objNew
  refine codeAny_call_builtin_code (Code.quiet_builtin _ F.quiet) ?_
  simp only [checkBuiltinCall, F.kind, F.split, F.row]
  have here := sio_here X
  have base := sio_base X
  have made := sio_made X
  have args : Bind.checkArgs "object.__new__" ⟨.hand, "object.__new__", "__new__", .cls, []⟩ ⟨[.ref 597], []⟩ = pure () := by kernel_rfl
  rw [args]
  repeat (first | simp only [bne_self_eq_false, Bool.false_eq_true, if_false] | lk)
  refine codeAny_builtin F.entry ?_
  unfold Builtin.«object.__new__»
  have fin : ∀ A', wpAny (model PG w) A' (do
      let d ← if typeHasDict (.ref 597) then some <$> alloc { cls := .type "dict", data := .dict #[] } else pure none
      ret (← newObj (.ref 597) .plain d)) (fun fin s' => match fin with | .done f => R (.ok f) s' | .again c' => c'.quiet = true ∧ codeAny (model PG w) A c' R s') (fun e s' => R (.error e) s') ⟨h, g, d, t, os⟩ := by
    intro A'
    show wpAny _ _ ((alloc emptyDict >>= fun x => pure (some x)) >>= _) _ _ _
    refine wpAny_bind (wpAny_bind (wpAny_alloc (wpAny_pure (wpAny_bind ?_))))
    show wpAny _ _ (newObjAsIs _ _ _) _ _ _
    unfold newObjAsIs classHasDel
    refine wpAny_bind (wpAny_alloc (wpAny_bind (wpAny_bind (wpAny_load (Heap.get?_push_of_some _ (Heap.get?_push_of_some _ hC)) (wpAny_pure ?_)))))
    refine wpAny_pure (wpAny_pure ?_)
    show R _ _
    rw [Heap.size_push]
    exact hq
  repeat (first | simp only [Bool.false_eq_true, if_false] | exact fin _ | lk)
theorem new_sioK {w : World} {A : Around} {s : Shared} {Q E : Value → Shared → Prop} {h₀ : Heap} {L : Addr} {m : Str → Option Value} {news : List (Addr × Obj)} (F : Fr h₀ L s.heap m) (K : (HK w.params).In h₀) (N : News h₀ L s.heap news)
    (h : ∀ x dx h', Fr h₀ L h' m → News h₀ L h' ((x, instObj 597 dx) :: (dx, emptyDict) :: news) → (∀ p ∈ news, p.1 < dx) → dx < x → Q (.ref x) { s with heap := h' }) :
    wpAny (model PG w) A (call (.builtin "object.__new__") [.ref 597]) Q E s := by
  obtain ⟨hh, g, d, t, os⟩ := s
  refine wpAny_call (new_sio (K.keeps F.keep) ?_)
  have N' := (N.push F emptyDict).push (F.push _) (instObj 597 hh.objs.size)
  rw [Heap.size_push] at N'
  exact h _ hh.objs.size _ ((F.push _).push _) N' (fun p hp => Heap.lt_size (N p hp).1) (Nat.lt_succ_self _)
local macro_rules | `(tactic| walk_at "m_enterB") => `(tactic| (refine' kp_both ?k1 ?k2 ?k3 ?k4 ?k5 ?kA ?kF ?kK ?k6 ?k7 ?k8 ?kV ?kX ?kQ ?kM ?kN ?kD ?kR ?kP ?kS ?kT ?kB ?_ ?c2 ?c3 ?c4 ?c5; (case kA => exact rfl); (case kF => exact rfl); (case kK => assumption); (case k1 => k_asm); (case k2 => k_asm); (case k3 => k_asm); (case k4 => k_asm); (case k5 => k_asm); (case k6 => k_is); (case k7 => k_is); (case k8 => k_room); (case kV => kp_lit); (case kX => kp_lit); (case kQ => exact rfl); (case kM => exact rfl); (case kN => exact rfl); (case kD => kp_flats); (case kR => exact rfl); (case kP => exact rfl); (case kS => exact fun _ => rfl); (case kT => exact fun _ _ => rfl); (case kB => exact fun _ _ => locs rfl); (case c5 => decide); (case c2 => exact rfl); (case c3 => exact rfl); (case c4 => exact rfl); k_whole; intro C' D' o' g' L' h' tk' l1 l2 lo' hs' fs' FG' F' N' B' X' T'; (try k_lt l1); (try k_lt2 l2); (try dsimp only); (try k_fold)))
section
variable {w : World} {A : Around} {cn : Str} {cs : Scope} {a : Addr} {ccd : Value} {cl : List (Str × Addr)} {outer : List Env} {A₀ : Around} {base h₀ : Heap} {L : Addr} {m : Str → Option Value} {mean : ExcName → Option Value} {mg mb : Str → Option Value} {s : Shared} {Q E : Value → Shared → Prop} {news : List (Addr × Obj)}
theorem c_new {b : Str} {t : Tok} (B : Below A₀ base outer h₀) (F : Fr h₀ L s.heap m) (K : (HK w.params).In h₀) (T : Top VW LS mean mg mb h₀) (hk : cs.kind = .function)
    (hA : A.frames = some (envX cn cs L a ccd cl :: outer)) (hh : A.handled = none) (hd : A.depth ≤ 800) (hu : A.units ≤ 800)
    (N : News h₀ L s.heap news)
    (post : ∀ x dx h' k, Fr h₀ L h' m → News h₀ L h' ((x, instObj 597 dx) :: (dx, emptyDict) :: news) → (∀ p ∈ news, p.1 < dx) → dx < x → Q (.ref x) { s with heap := h', toks := k }) :
    wpAny (model PG w) A (call (.ref 90) [.ref 597, .str b t]) Q E s := by
  refine wpAny_weak (A' := ktrTop 800 800 none cn cs L a ccd cl outer) ?_ hh hd hA rfl hu
  w_on
  refine wpAny_call ?_
  k_dflt (walk_at "m_enterB")
  k_steps
  refine' new_sioK ?k1 ?k2 ?k3 ?k4; (case k1 => k_asm); (case k2 => k_asm); (case k3 => k_asm)
  intro x dx h9 F9 N9 l3 l4
  k_steps
  refine' post _ _ _ _ ?k1 (News.sub ?k2 ?k3) (fun q hq => l3 q (.tail _ (.tail _ hq))) l4
  case k1 => k_asm
  case k2 => assumption
  case k3 =>
    intro q hq
    simp only [List.mem_cons] at hq ⊢
    rcases hq with h | h | h <;> simp [h]
end

end
section
section
variable {w : World} {A : Around} {cn : Str} {cs : Scope} {a : Addr} {ccd : Value} {cl : List (Str × Addr)} {outer : List Env} {A₀ : Around} {base h₀ : Heap} {L : Addr} {m : Str → Option Value} {mean : ExcName → Option Value} {mg mb : Str → Option Value} {s : Shared} {Q E : Value → Shared → Prop} {news : List (Addr × Obj)}
theorem sio_make {b : Str} {t : Tok} {R : Result → Shared → Prop} (B : Below A₀ base outer h₀) (F : Fr h₀ L s.heap m) (K : (HK w.params).In h₀) (T : Top VW LS mean mg mb h₀) (hk : cs.kind = .function)
    (hA : A.frames = some (envX cn cs L a ccd cl :: outer)) (hh : A.handled = none) (hd : A.depth ≤ 790) (hu : A.units ≤ 790)
    (N : News h₀ L s.heap news)
    (hq : ∀ x dx h' k, Fr h₀ L h' m → News h₀ L h' ((x, instObj 597 dx) :: (dx, emptyDict) :: news) → (∀ p ∈ news, p.1 < dx) → dx < x →
      wpAny (model PG w) (A.under (.builtin "type.__call__" ⟨[.ref 597, .str b t], []⟩)) (call (.ref 367) [.ref x, .str b t]) (fun v s' => v = .none ∧ R (.ok (.ret (.ref x))) s') (fun e s' => R (.error e) s') { s with heap := h', toks := k }) :
    codeAny (model PG w) A (.call (.ref 597) ⟨[.str b t], []⟩) R s := by
  have X := K.keeps F.keep
  have hC : s.heap.get? 597 = some (o597 w.params) := X 597 _ (by kernel_rfl)
  have typ := sio_typ X
  have call := sio_call X
  have by_ := sio_by X
  have hm : Looks (model PG w) s.heap (mroOf (.ref 597)) [.ref 597, .ref 120, .ref 93, .type "object"] := Looks.of_peek X (by kernel_rfl)
  refine codeAny_of_tree ?_
  show wpAny _ _ (callAny (.ref 597) _) _ _ _
  refine nd_load hC ?_
  show wpAny _ _ (callAny.viaDunder (.ref 597) _) _ _ _
  unfold callAny.viaDunder
  refine wpAny_bind (call.at ?_)
  dsimp only
  rw [tc_bind]
  refine wpAny_bind (wpAny_pure (wpAny_bind (wpAny_pure ?_)))
  refine wpAny_pure (a := Fin.again (.call (.builtin "type.__call__") ⟨[.ref 597, .str b t], []⟩)) (And.intro rfl ?_)
  refine codeAny_call_builtin_at (Code.quiet_builtin _ (by decide +kernel)) entry_typeCall (check_slot tc_kind tc_split typ (tc_args _ _ _) ?_)
  unfold Builtin.«type.__call__»
  have g1 : typeIn (HK w.params) (.ref 597) = some (.type "type") := by kernel_rfl
  have g2 : readsIn (HK w.params) 597 (.type "type") = true := by kernel_rfl
  have g3 : findCls (HK w.params) (.ref 597) (.type "type") "__new__" = some (.get (.builtin "staticmethod.__get__") (.ref 94) .none (.ref 597)) := by kernel_rfl
  have g4 : recIn (HK w.params) 94 "staticmethod" = some (.ref 90 :: []) := by kernel_rfl
  have g5 : handedIn (.ref 90) = true := by kernel_rfl
  iterate 14 (first
    | (with_reducible show wpAny _ _ (PySem.getAttr _ _ _) _ _ _)
    | lk)
  refine cls_sm (K := HK w.params) (C := 597) (mc := .type "type") (p := 94) (f := .ref 90) (rest := []) F K g1 g2 g3 g4 g5 ?_
  refine wpAny_bind (wpAny_holding ?_)
  refine c_new (cl := cl) B F K T hk hA hh (show A.depth + 1 ≤ 800 by omega) (show A.units + 1 ≤ 800 by omega) N fun x dx h' k F' N' l1 l2 => ?_
  have X' := K.keeps F'.keep
  have hx := N'.get (.head _)
  have t1 : Looks (model PG w) h' (typeOf (.ref x)) (.ref 597) := (Looks.ld hx).andThen .now
  have s1 := sio_self X'
  have i1 : Looks (model PG w) h' (typeLookup (.ref 597) "__init__") (some (.ref 367)) := looks_findIn X' (by kernel_rfl)
  have b1 : Looks (model PG w) h' (bindSpecial (.ref 367) (.ref x)) (.ref 367, [.ref x]) := bind_fn X' (.ref x) (by kernel_rfl)
  unfold isInstance callSpecial? specialOf
  iterate 30 (first
    | (with_reducible show wpAny _ _ (PySem.call _ _) _ _ _)
    | lk)
  refine wpAny_mono (hq x dx h' k F' N' l1 l2) (fun v s' h => ?_) (fun _ _ h => h)
  obtain ⟨rfl, h⟩ := h
  exact wpAny_pure (wpAny_pure h)
end

end
section
theorem mro_dq : mroOf (.type "collections.deque") = pure [.type "collections.deque", .type "object"] := by rw [mroOf_type]; kernel_rfl
theorem lookup_dq_new : typeLookup (.type "collections.deque") "__new__" = pure (some (.builtin "collections.deque.__new__")) := by rw [typeLookup_type, builtinLookup_eq_fast]; kernel_rfl
theorem slot_dq_init : Slot "collections.deque" "__init__" "collections.deque.__init__" :=
  .of (owner := "collections.deque") (n := "__init__") (by rw [typeLookup_type, builtinLookup_eq_fast]; kernel_rfl) (by decide +kernel) (by decide +kernel) (by decide +kernel)
    (by first | exact .inl (by decide +kernel) | exact .inr (by decide +kernel)) (by rw [isSubtype_type]; kernel_rfl)
theorem called_dq : TypeCalled "collections.deque" "collections.deque.__new__" "collections.deque.__init__" :=
  ⟨by decide +kernel, by decide +kernel, ⟨_, _, mro_dq⟩, madeBy_type mro_dq lookup_dq_new (by decide +kernel), by decide +kernel, by rw [isSubtype_type]; kernel_rfl, slot_dq_init⟩
theorem typeCall_dq : checkTypeCall "collections.deque" ⟨[], []⟩ = pure () := by kernel_rfl
theorem newCall_dq : checkBuiltinCall "collections.deque.__new__" ⟨[.type "collections.deque"], []⟩ = pure () := by kernel_rfl
theorem entry_dq_new : entryFor table "collections.deque.__new__" = some Builtin.«collections.deque.__new__» := entryFor_of_tree (by kernel_rfl)
theorem entry_dq_init : entryFor table "collections.deque.__init__" = some Builtin.«collections.deque.__init__» := entryFor_of_tree (by kernel_rfl)
theorem plain_dq_new : plainId "collections.deque.__new__" = true := by decide +kernel
theorem args_dq_init (a : Value) : argsOk "collections.deque.__init__" ⟨[a], []⟩ := by unfold argsOk; kernel_rfl
theorem sub_dq : isSubtype (.type "collections.deque") (.type Builtin.Deque.ty) = pure true := by show isSubtype (.type "collections.deque") (.type "collections.deque") = _; rw [isSubtype_type]; kernel_rfl
section
variable {prog : Program} {w : World} {A : Around} {E : Value → Shared → Prop} {s : Shared}
theorem code_dq_new {Q₁ : Value → Shared → Prop} (h : Q₁ (.ref s.heap.objs.size) { s with heap := s.heap.push dqObj }) :
    codeAny (model prog w) A (.call (.builtin "collections.deque.__new__") ⟨[.type "collections.deque"], []⟩) (wants Q₁ E) s := by
  refine codeAny_of_tree ?_
  show wpAny _ A.in1 (do checkBuiltinCall "collections.deque.__new__" ⟨[.type "collections.deque"], []⟩; again (.builtin "collections.deque.__new__" ⟨[.type "collections.deque"], []⟩)) _ _ s
  refine wpAny_bind (wpAny_of_eq newCall_dq (wpAny_pure ⟨plainId_quiet plain_dq_new _, codeAny_builtin entry_dq_new ?_⟩))
  rw [Around.under_plainId plain_dq_new _]
  have hsub := sub_dq
  obtain ⟨hp, g, d, tk, os⟩ := s
  unfold Builtin.«collections.deque.__new__» Builtin.Deque.newArgs Builtin.Deque.new
  have hit : isType (.type "collections.deque") = pure true := by kernel_rfl
  have hty : typeHasDict (.type "collections.deque") = false := by decide +kernel
  simp only [hit, hsub, hty]
  wp_walk
  exact h
theorem call_dq {Q : Value → Shared → Prop} {h₀ : Heap} {L : Addr} {m : Str → Option Value} {news : List (Addr × Obj)} (F : Fr h₀ L s.heap m) (N : News h₀ L s.heap news)
    (h : ∀ d h', Fr h₀ L h' m → News h₀ L h' ((d, dqObj) :: news) → (∀ p ∈ news, p.1 < d) → Q (.ref d) { s with heap := h' }) :
    wpAny (model prog w) A (call (.type "collections.deque") []) Q E s := by
  refine callType_codes (Q₁ := fun obj s₁ => obj = .ref s.heap.objs.size ∧ s₁ = { s with heap := s.heap.push dqObj }) called_dq typeCall_dq entry_dq_init (code_dq_new ⟨rfl, rfl⟩) fun obj s₁ h₁ => ?_
  obtain ⟨rfl, rfl⟩ := h₁
  have hS : (s.heap.push dqObj).get? s.heap.objs.size = some dqObj := Heap.get?_push_size _ rfl
  refine ⟨⟨_, hS, rfl⟩, args_dq_init _, ?_⟩
  have F1 := F.push dqObj
  have N1 := News.push F N dqObj rfl
  have lt : ∀ p ∈ news, p.1 < s.heap.objs.size := fun p hp => Heap.lt_size (N p hp).1
  obtain ⟨F2, N2⟩ := news_upd (f := Obj.mapFields (·.setIfInBounds 0 Value.none)) (o' := dqObj) (pre := []) F1 N1 (fun p hp => nomatch hp) (fun p hp => Nat.ne_of_lt (lt p hp)) rfl rfl
  show wpAny _ _ (do setField (.ref s.heap.objs.size) 0 .none; Builtin.Deque.clear (.ref s.heap.objs.size); ret .none) _ _ _
  refine wpAny_bind (wpAny_setField hS rfl (by decide) ?_)
  have hS2 := N2.get (.head _)
  unfold Builtin.Deque.clear Builtin.Deque.items fieldsOf
  refine wpAny_bind (wpAny_bind (wpAny_bind (wpAny_bind (wpAny_load hS2 ?_))))
  refine wpAny_pure (wpAny_pure ?_)
  refine wpAny_ite_split (fun hab => absurd hab (by decide)) (fun _ => ?_)
  exact wpAny_pure (wpAny_pure ⟨rfl, h _ _ F2 N2 lt⟩)
end

end
section
section
variable {w : World} {A : Around} {cn : Str} {cs : Scope} {a : Addr} {ccd : Value} {cl : List (Str × Addr)} {outer : List Env} {A₀ : Around} {base h₀ : Heap} {L : Addr} {m : Str → Option Value} {mean : ExcName → Option Value} {mg mb : Str → Option Value} {s : Shared} {Q E : Value → Shared → Prop} {rest : List (Addr × Obj)}
theorem c_sinit {x dx : Addr} {l : List Nat} {t : Tok} (B : Below A₀ base outer h₀) (F : Fr h₀ L s.heap m) (K : (HK w.params).In h₀) (T : Top VW LS mean mg mb h₀) (hk : cs.kind = .function)
    (hA : A.frames = some (envX cn cs L a ccd cl :: outer)) (hh : A.handled = none) (hd : A.depth ≤ 800) (hu : A.units ≤ 800)
    (N : News h₀ L s.heap ((x, instObj 597 dx) :: (dx, emptyDict) :: rest)) (hne : x ≠ dx) (hr : ∀ q ∈ rest, q.1 ≠ dx)
    (post : ∀ κ v h' k, Fr h₀ L h' m → News h₀ L h' ((x, instObj 597 dx) :: (dx, dictOf (sioEs w κ (tx l) 0 v) 3) :: rest) → Q .none { s with heap := h', toks := k }) :
    wpAny (model PG w) A (call (.ref 367) [.ref x, .str (tx l) t]) Q E s := by
  refine wpAny_weak (A' := ktrTop 800 800 none cn cs L a ccd cl outer) ?_ hh hd hA rfl hu
  replace hne := neN hne
  w_on
  refine wpAny_call ?_
  k_dflt (walk_at "m_enter")
  k_steps
  exact post (fun n => [_, _, _, _, _].getD n 0) _ _ _ (by k_asm) (by k_asm)
theorem c_sio {l : List Nat} {t : Tok} (B : Below A₀ base outer h₀) (F : Fr h₀ L s.heap m) (K : (HK w.params).In h₀) (T : Top VW LS mean mg mb h₀) (hk : cs.kind = .function)
    (hA : A.frames = some (envX cn cs L a ccd cl :: outer)) (hh : A.handled = none) (hd : A.depth ≤ 790) (hu : A.units ≤ 790)
    (N : News h₀ L s.heap rest)
    (post : ∀ x dx κ v h' k, Fr h₀ L h' m → News h₀ L h' ((x, instObj 597 dx) :: (dx, dictOf (sioEs w κ (tx l) 0 v) 3) :: rest) → (∀ p ∈ rest, p.1 < dx) → dx < x → Q (.ref x) { s with heap := h', toks := k }) :
    wpAny (model PG w) A (call (.ref 597) [.str (tx l) t]) Q E s := by
  refine wpAny_call (sio_make (cl := cl) B F K T hk hA hh hd hu N fun x dx h' k F' N' l1 l2 => ?_)
  refine c_sinit (cl := cl) B F' K T hk hA hh (show A.depth + 1 ≤ 800 by omega) (show A.units + 1 ≤ 800 by omega) N' (Nat.ne_of_gt l2) (fun q hq => Nat.ne_of_lt (l1 q hq)) fun κ v h2 k2 F2 N2 => ?_
  exact ⟨rfl, post x dx κ v h2 k2 F2 N2 l1 l2⟩
end

end
section
noncomputable def wcOf (px : Bool) : Str := if px then Str.ofString "abcdfeghijklmnopqrstuvwxyzABCDEFGHIJKLMNOPQRSTUVWXYZ0123456789_" ++ Str.ofString "ßàáâãäåæçèéêëìíîïðñòóôõöøùúûüýþÿÀÁÂÃÄÅÆÇÈÉÊËÌÍÎÏÐÑÒÓÔÕÖØÙÚÛÜÝÞ" else Str.ofString "abcdfeghijklmnopqrstuvwxyzABCDEFGHIJKLMNOPQRSTUVWXYZ0123456789_"
/-- what a fresh lexer's dict holds -/
noncomputable abbrev linEs (w : World) (κ : Nat → Tok) (y pb fs : Addr) (px ws : Bool) (eof : Value) (cm wc : Str) (st : Value) (ln : Int) (v13 : Tok) (tk : Str) (v15 : Tok) : List DictEntry :=
  [en w.params "instream" (κ 0) (.ref y), en w.params "infile" (κ 1) .none, en w.params "posix" (κ 2) (.bool px), en w.params "eof" (κ 3) eof, en w.params "commenters" (κ 4) (.str cm (κ 20)), en w.params "wordchars" (κ 5) (.str wc (κ 21)), en w.params "whitespace" (κ 6) (.str " \t\r\n" (κ 22)),
    en w.params "whitespace_split" (κ 7) (.bool ws), en w.params "quotes" (κ 8) (.str "'\"" (κ 23)), en w.params "escape" (κ 9) (.str "\\" (κ 24)), en w.params "escapedquotes" (κ 10) (.str "\"" (κ 25)), en w.params "state" (κ 11) st, en w.params "pushback" (κ 12) (.ref pb), en w.params "lineno" (κ 13) (.int ln v13),
    en w.params "debug" (κ 14) (.int 0 (κ 26)), en w.params "token" (κ 15) (.str tk v15), en w.params "filestack" (κ 16) (.ref fs), en w.params "source" (κ 17) .none, en w.params "_punctuation_chars" (κ 18) (.str "" (κ 27))]
theorem news6 {h₀ h : Heap} {L : Addr} {a b c d e f : Addr × Obj} {r : List (Addr × Obj)} (N : News h₀ L h (a :: b :: c :: d :: e :: f :: r)) : News h₀ L h (e :: f :: c :: d :: a :: b :: r) := fun p hp => N p (by
  simp only [List.mem_cons] at hp ⊢
  rcases hp with h | h | h | h | h | h | h <;> simp [h])
section
variable {w : World} {A : Around} {cn : Str} {cs : Scope} {a : Addr} {ccd : Value} {cl : List (Str × Addr)} {outer : List Env} {A₀ : Around} {base h₀ : Heap} {L : Addr} {m : Str → Option Value} {mean : ExcName → Option Value} {mg mb : Str → Option Value} {s : Shared} {Q E : Value → Shared → Prop} {rest : List (Addr × Obj)}
local macro_rules | `(tactic| walk_at "call ref") => `(tactic| ((with_reducible show wpAny _ _ (call (Value.ref 597) _) _ _ _); refine halt_ ?_))
local macro_rules | `(tactic| walk_at "call type:collections.deque") => `(tactic| refine halt_ ?_)
theorem codeAny_weak {M : Model} {A A' : Around} {c : Code} {R : Result → Shared → Prop} {s : Shared} (h : codeAny M A' c R s) (h1 : A.handled = A'.handled) (h2 : A.depth ≤ A'.depth)
    (h3 : A.frames = A'.frames) (h4 : A'.guards = none) (h5 : A.units ≤ A'.units) : codeAny M A c R s := fun Γ p hc hΓ =>
  h Γ p hc ⟨hΓ.1.trans h1, Nat.le_trans hΓ.2.1 h2, fun l hl => hΓ.2.2.1 l (h3.trans hl), fun g hg => (by rw [h4] at hg; cases hg), Nat.le_trans hΓ.2.2.2.2 h5⟩
theorem c_linit {x dx : Addr} {R : Result → Shared → Prop} {l : List Nat} {t : Tok} {px : Bool} (B : Below A₀ base outer h₀) (F : Fr h₀ L s.heap m) (K : (HK w.params).In h₀) (T : Top VW LS mean mg mb h₀) (hk : cs.kind = .function)
    (hA : A.frames = some (envX cn cs L a ccd cl :: outer)) (hh : A.handled = none) (hd : A.depth ≤ 700) (hu : A.units ≤ 700)
    (N : News h₀ L s.heap ((x, instObj 732 dx) :: (dx, emptyDict) :: rest)) (hne : x ≠ dx) (hr : ∀ q ∈ rest, q.1 ≠ dx)
    (post : ∀ κ μ y dy pb fs te ts v13 v15 u h' k, Fr h₀ L h' m → News h₀ L h' ((x, instObj 732 dx) :: (dx, dictOf (linEs w κ y pb fs px false (eofOf px te) "#" (wcOf px) (.str " " ts) 1 v13 "" v15) 19) :: (y, instObj 597 dy) :: (dy, dictOf (sioEs w μ (tx l) 0 u) 3) :: (fs, dqObj) :: (pb, dqObj) :: rest) →
      x < dy → dx < dy → (∀ q ∈ rest, q.1 < dy) → dy < y → y < pb → pb < fs → R (.ok (.ret .none)) { s with heap := h', toks := k }) :
    codeAny (model PG w) A (.call (.ref 656) ⟨[.ref x, .str (tx l) t], [("posix", .bool px)]⟩) R s := by
  refine codeAny_weak (A' := ktrTop 700 700 none cn cs L a ccd cl outer) ?_ hh hd hA rfl hu
  replace hne := neN hne
  cases px
  all_goals
    w_on
    k_dflt (walk_at "m_enter")
    k_steps
    unfold Halt
    refine' c_sio ?k1 ?k2 ?k3 ?k4 ?k5 ?k6 ?k7 ?k8 ?k9 ?k10 ?post; (case k6 => exact rfl); (case k2 => k_asm); (case k1 => k_asm); (case k3 => k_asm); (case k4 => k_asm); (case k5 => exact rfl); (case k7 => exact rfl); (case k8 => exact Nat.le_of_ble_eq_true rfl); (case k9 => exact Nat.le_of_ble_eq_true rfl); (case k10 => k_asm)
    case post =>
      intro y dy μ u h9 k9 F9 N9 l3 l4
      have z1 : (y : Nat) ≠ dx := Nat.ne_of_gt (Nat.lt_trans (l3 (dx, emptyDict) (.tail _ (.head _))) l4)
      have z2 : (dy : Nat) ≠ dx := Nat.ne_of_gt (l3 (dx, emptyDict) (.tail _ (.head _)))
      k_steps
      unfold Halt
      refine' call_dq ?k1 ?k2 ?post; (case k1 => k_asm); (case k2 => k_asm)
      case post =>
        intro pb h10 F10 N10 l5
        have z3 : (pb : Nat) ≠ dx := Nat.ne_of_gt (l5 (dx, _) (.tail _ (.tail _ (.tail _ (.head _)))))
        k_steps
        unfold Halt
        refine' call_dq ?k1 ?k2 ?post; (case k1 => k_asm); (case k2 => k_asm)
        case post =>
          intro fs h11 F11 N11 l6
          have z4 : (fs : Nat) ≠ dx := Nat.ne_of_gt (l6 (dx, _) (.tail _ (.tail _ (.tail _ (.tail _ (.head _))))))
          k_steps
          have N' := news6 (by assumption : News h₀ L _ ((fs, dqObj) :: (pb, dqObj) :: (y, instObj 597 dy) :: (dy, dictOf (sioEs w μ (tx l) 0 u) 3) :: (x, instObj 732 dx) :: (dx, _) :: rest))
          first
            | exact post (fun n => [_, _, _, _, _, _, _, _, _, _, _, _, _, _, _, _, _, _, _, 0, _, _, _, _, _, _, _, _].getD n 0) μ y dy pb fs 0 _ _ _ u _ _ (by k_asm) N' (l3 (x, _) (.head _)) (l3 (dx, _) (.tail _ (.head _))) (fun q hq => l3 q (.tail _ (.tail _ hq))) l4 (l5 (y, _) (.head _)) (l6 (pb, _) (.head _))
            | exact post (fun n => [_, _, _, _, _, _, _, _, _, _, _, _, _, _, _, _, _, _, _, 0, _, _, _, _, _, _, _, _].getD n 0) μ y dy pb fs _ _ _ _ u _ _ (by k_asm) N' (l3 (x, _) (.head _)) (l3 (dx, _) (.tail _ (.head _))) (fun q hq => l3 q (.tail _ (.tail _ hq))) l4 (l5 (y, _) (.head _)) (l6 (pb, _) (.head _))
theorem c_lex {l : List Nat} {t : Tok} {px : Bool} (B : Below A₀ base outer h₀) (F : Fr h₀ L s.heap m) (K : (HK w.params).In h₀) (T : Top VW LS mean mg mb h₀) (hk : cs.kind = .function)
    (hA : A.frames = some (envX cn cs L a ccd cl :: outer)) (hh : A.handled = none) (hd : A.depth ≤ 690) (hu : A.units ≤ 690)
    (N : News h₀ L s.heap rest)
    (post : ∀ κ μ x dx y dy pb fs te ts v13 v15 u h' k, Fr h₀ L h' m → News h₀ L h' ((x, instObj 732 dx) :: (dx, dictOf (linEs w κ y pb fs px false (eofOf px te) "#" (wcOf px) (.str " " ts) 1 v13 "" v15) 19) :: (y, instObj 597 dy) :: (dy, dictOf (sioEs w μ (tx l) 0 u) 3) :: (fs, dqObj) :: (pb, dqObj) :: rest) →
      (∀ q ∈ rest, q.1 < dx) → dx < x → x < dy → dy < y → y < pb → pb < fs → Q (.ref x) { s with heap := h', toks := k }) :
    wpAny (model PG w) A (call (.ref 732) [.str (tx l) t] [("posix", .bool px)]) Q E s := by
  refine wpAny_call (make_K (K := HK w.params) (C := 732) (fI := 656) F N (K.keeps F.keep) (by k_is) (by k_is) (by k_is) fun x dx h' F' N' l1 l2 => ?_)
  refine c_linit (cl := cl) (px := px) B F' K T hk hA hh (show A.depth + 1 ≤ 700 by omega) (show A.units + 1 ≤ 700 by omega) N' (Nat.ne_of_gt l2) (fun q hq => Nat.ne_of_lt (l1 q hq)) fun κ μ y dy pb fs te ts v13 v15 u h2 k2 F2 N2 o1 o2 o3 o4 o5 o6 => ?_
  exact ⟨rfl, post κ μ x dx y dy pb fs te ts v13 v15 u h2 k2 F2 N2 l1 l2 o1 o4 o5 o6⟩
end

end
section
/-- a call whose end is not shown by its own frame's ledger (an exception has passed within) -/
theorem enterR {prog : Program} {w : World} {A₀ A : Around} {s : Shared} {base h₀ : Heap} {outer : List Env} {L : Addr} {m : Str → Option Value} {env : Env} {news : List (Addr × Obj)} {K : Frag} {p : Program} {loose : List Str} {mean : ExcName → Option Value} {mg mb : Str → Option Value}
    {R : Result → Shared → Prop} {name qual : Str} {params : Arguments} {body : List Stmt} {scope : Scope} {dV kV doc pm cdv ct oc : Value} {an od : Option Addr} {osl : Array (Option Value)} {f : Addr} {args : Args} {binds : List (Str × Value)}
    (B : Below A₀ base outer h₀) (F : Fr h₀ L s.heap m) (X₀ : K.In h₀) (N : News h₀ L s.heap news) (T : Top p loose mean mg mb h₀) (hA : A.frames = some (env :: outer)) (hf : env.frame = some L) (hke : env.scope.kind = .function)
    (ho : K.lookup f = some ⟨oc, od, .func (fnOf name qual params body scope dV kV doc pm an cdv ct), osl⟩) (hcd : codeIn K cdv qual = true) (hroom : A.depth < recursionLimit)
    (hbind : BindsTo s (fnOf name qual params body scope dV kV doc pm an cdv ct) args binds) (hloc : ∀ y ∈ binds, scope.names.lookup y.1 = some .local)
    (h : ∀ g L' h₁, Fr h₀ L g m → Fr g L' h₁ (fun y => binds.reverse.lookup y) → News g L' h₁ news → Below A base (env :: outer) g → K.In g → Top p loose mean mg mb g →
      wpAny (model prog w) (A.deeper (envOf qual scope L' f cdv)) (execs body (envOf qual scope L' f cdv))
        (fun fl s' => R (.ok (.ret (match fl with | .ret v => v | _ => .none))) s')
        (fun e s' => wpAny (model prog w) (A.deeper (envOf qual scope L' f cdv)) (leaving (envOf qual scope L' f cdv) e) (fun _ s'' => R (.error e) s'') (fun e' s'' => R (.error e') s'') s')
        { s with heap := h₁, toks := s.toks + binds.length })
    (hco : scope.isCoroutine = false) (hgen : scope.isGenerator = false) (hk : scope.kind = .function)
    (hcell : ∀ x ∈ scope.names, x.2 ≠ .cell) : codeAny (model prog w) A (.call (.ref f) args) R s := by
  have X := X₀.keeps F.keep
  refine codeAny_call_def (fd := fnOf name qual params body scope dV kV doc pm an cdv ct) (body := body) (binds := binds) hroom (X _ _ ho) rfl (T.nolimit.keeps F.keep) (codeRec_of X hcd) rfl hbind hcell hloc (fun h₁ hns up => ?_) hco hgen hk
  have off : ∀ b o, h₀.get? b = some o → b ∉ news.map (·.1) := fun b o e q => by
    obtain ⟨p, hp, rfl⟩ := List.mem_map.mp q
    rw [(N p hp).2.2] at e; cases e
  have st : h₀.StaysIn (hideAll s.heap (news.map (·.1))) := fun b o e => hideAll_get _ (F.keep b o e) (off b o e)
  obtain ⟨oL, es, ep, hL, hLd, hLr⟩ := F.ns
  have nL : L ∉ news.map (·.1) := fun q => by
    obtain ⟨p, hp, e⟩ := List.mem_map.mp q
    exact (N p hp).2.1 e
  have hLg := hideAll_get (news.map (·.1)) hL nL
  have nb : base.get? L = none := by
    cases q : base.get? L with
    | none => rfl
    | some o => exact absurd (Nat.lt_of_lt_of_le (Heap.lt_size (B.stays L o q)) F.above) (Nat.lt_irrefl _)
  have fr : (hideAll s.heap (news.map (·.1))).FunFrames base (env :: outer) := by
    refine ⟨by rw [hke]; decide, ⟨L, oL, hf, nb, hLg, fun vs q => by rw [hLd] at q; cases q⟩, ?_⟩
    exact B.frames.of_keeps fun b o e _ => ⟨o, st b o e, rfl⟩
  refine h _ s.heap.objs.size h₁ ⟨⟨oL, es, ep, hLg, hLd, hLr⟩, st, F.above⟩ ⟨hns, fun b o e => up b o (of_hideAll _ e), Nat.le_of_eq (hideAll_size _ _)⟩ (fun p hp => ⟨up _ _ (N p hp).1, Nat.ne_of_lt (Heap.lt_size (N p hp).1), hideAll_none _ (List.mem_map_of_mem hp)⟩)
    ⟨hA, fun b o e => st b o (B.stays b o e), fr⟩ (X₀.keeps st) (T.keeps st)
/-- the frame that was left: the exception that has passed within says nothing of it any more -/
theorem raisedK_tail {base h : Heap} {env : Env} {l : List Env} {e t : Addr} {cls : Value} {vs : List Value} {n : List (Addr × Obj)} (R : RaisedK base (env :: l) e cls t vs n h) : RaisedK base l e cls t vs n h := by
  obtain ⟨⟨B, h1, h2, ⟨k1, k2, ⟨_, _, k3⟩, k4⟩, h4⟩, h5⟩ := R
  exact ⟨⟨B, h1, h2, ⟨k1, k2, k3, k4⟩, h4⟩, h5⟩
/-- the caller's frame and ledger behind a flight that was caught within -/
theorem back_K {h₀ g₂ h : Heap} {L a : Addr} {cn : Str} {cs : Scope} {ccd : Value} {cl : List (Str × Addr)} {outer : List Env} {m : Str → Option Value} {e t : Addr} {cls : Value} {vs : List Value} {n : List (Addr × Obj)} (F : Fr h₀ L g₂ m) (U : g₂.UpToSlots h) (R : RaisedK h₀ (envX cn cs L a ccd cl :: outer) e cls t vs n h) :
    Fr h₀ L h m ∧ News h₀ L h n := by
  obtain ⟨⟨B, h1, h2, ⟨k1, k2, ⟨_, ⟨L', _, hf, hn', _⟩, k3⟩, k4⟩, h4⟩, h5⟩ := R
  obtain rfl : L = L' := Option.some.inj hf
  exact ⟨F.of_stays (fun b o q => k1 b o (h1 b o q)) U, fun q hq => ⟨k1 _ _ (h2 q hq).1, (fun z => by have := (h2 q hq).1; rw [z, hn'] at this; cases this), (h2 q hq).2⟩⟩
local macro_rules | `(tactic| walk_at "m_enterR") => `(tactic|
  (refine' enterR ?k1 ?k2 ?k3 ?k4 ?k5 ?kA ?kF ?kK ?k6 ?k7 ?k8 ?k9 ?kB ?_ ?c2 ?c3 ?c4 ?c5; (case kA => exact rfl); (case kF => exact rfl); (case kK => assumption); (case k1 => k_asm); (case k2 => k_asm); (case k3 => k_asm); (case k4 => k_asm); (case k5 => k_asm); (case k6 => k_is); (case k7 => k_is); (case k8 => k_room); (case k9 => first | exact BindsTo.of_eq rfl | exact binds_K (by k_in) rfl (by k_is) rfl rfl rfl | fail "m_enterR: no rule for these arguments"); (case c5 => decide); (case kB => exact locs rfl); (case c2 => exact rfl); (case c3 => exact rfl); (case c4 => exact rfl); k_whole; intro g' L' h' FG' F' N' B' X' T'; (try dsimp only); (try k_fold)))
theorem ord6 {dx x dy y pb fs : Nat} (h1 : dx < x) (h2 : x < dy) (h3 : dy < y) (h4 : y < pb) (h5 : pb < fs) : x ≠ dx ∧ dy ≠ dx ∧ y ≠ dx ∧ pb ≠ dx ∧ fs ≠ dx ∧ x ≠ dy ∧ y ≠ dy ∧ pb ≠ dy ∧ fs ≠ dy := by omega
noncomputable def upK (κ : Nat → Tok) (t : Tok) (n : Nat) : Tok := if n = 20 then t else κ n
theorem wc_fine (px : Bool) (c : Nat) (h : c = 39 ∨ c = 34) : c ∉ (wcOf px).cps.toList := by
  rcases h with rfl | rfl <;> cases px <;> decide +kernel
theorem fineX {X : Lx} (px : Bool) (h1 : X.cm = "" ∨ X.cm = "#") (h2 : X.wc = wcOf px) : X.Fine := by
  refine ⟨fun c hc h => ?_, fun c hc => by rw [h2]; exact wc_fine px c hc⟩
  rcases h1 with e | e
  · rw [e, no_cps] at h; cases h
  · have e2 : (Str.ofString "#").cps.toList = [35] := by decide +kernel
    rw [e, e2] at h
    simp at h
    subst h
    rcases hc with hc | hc | hc
    · exact (safe_ne hc).2.2.2.2.2.2.2 rfl
    · cases hc
    · cases hc
section
variable {w : World} {A : Around} {cn : Str} {cs : Scope} {a : Addr} {ccd : Value} {cl : List (Str × Addr)} {outer : List Env} {A₀ : Around} {base h₀ : Heap} {L : Addr} {m : Str → Option Value} {mean : ExcName → Option Value} {mg mb : Str → Option Value} {s : Shared} {Q E : Value → Shared → Prop} {rest : List (Addr × Obj)}
local macro_rules | `(tactic| walk_at "call ref") => `(tactic| (refine halt_ ?_))
local macro_rules | `(tactic| walk_at "call type:list") => `(tactic| (refine halt_ ?_))
theorem c_split {l : List Nat} {t : Tok} {cb px : Bool} {ms : List (Nat × Kd)} {r : Option (List (List Nat))} (B : Below A₀ base outer h₀) (F : Fr h₀ L s.heap m) (K : (HK w.params).In h₀) (T : Top VW LS mean mg mb h₀) (hk : cs.kind = .function)
    (hA : A.frames = some (envX cn cs L a ccd cl :: outer)) (hh : A.handled = none) (hd : A.depth ≤ 350) (hu : A.units ≤ 100)
    (N : News h₀ L s.heap rest) (hl : l = ms.map (·.1)) (hlen : l.length < 100000) (hg : Good px .S ms) (lx : Lexed px (some .S) ms r)
    (post : ∀ r', r = some r' → ∀ S vs' c' e t g₂ h' k, Texts vs' r' → Fr h₀ L g₂ m → g₂.UpToSlots h' → RaisedK base (envX cn cs L a ccd cl :: outer) e (.type "StopIteration") t [] ((S, lo vs' c') :: rest) h' → Q (.ref S) { s with heap := h', toks := k })
    (bad : r = none → ∀ e t g₂ h' k tt, Fr h₀ L g₂ m → g₂.UpToSlots h' → RaisedK base (envX cn cs L a ccd cl :: outer) e (.type "ValueError") t [.str "No closing quotation" tt] rest h' → E (.ref e) { s with heap := h', toks := k }) :
    wpAny (model PG w) A (call (.ref 744) [.str (tx l) t, .bool cb, .bool px]) Q E s := by
  refine wpAny_weak (A' := ktrTop 350 100 none cn cs L a ccd cl outer) ?_ hh hd hA rfl hu
  w_on
  refine wpAny_call ?_
  k_dflt (walk_at "m_enterR")
  k_steps
  unfold Halt
  refine' c_lex (px := px) ?k1 ?k2 ?k3 ?k4 ?k5 ?k6 ?k7 ?k8 ?k9 ?k10 ?post; (case k6 => exact rfl); (case k2 => k_asm); (case k1 => k_asm); (case k3 => k_asm); (case k4 => k_asm); (case k5 => exact rfl); (case k7 => exact rfl); (case k8 => exact Nat.le_of_ble_eq_true rfl); (case k9 => exact Nat.le_of_ble_eq_true rfl); (case k10 => k_asm)
  case post =>
    intro κ μ x dx y dy pb fs te ts v13 v15 u h9 k9 F9 N9 o0 o1 o2 o3 o4 o5
    obtain ⟨z1, z2, z3, z4, z5, z6, z7, z8, z9⟩ := ord6 o1 o2 o3 o4 o5
    have hr : ∀ q ∈ rest, q.1 ≠ dx := fun q hq => Nat.ne_of_lt (o0 q hq)
    have hr2 : ∀ q ∈ (fs, dqObj) :: (pb, dqObj) :: rest, q.1 ≠ dx := List.forall_mem_cons.mpr ⟨z5, List.forall_mem_cons.mpr ⟨z4, hr⟩⟩
    have hr3 : ∀ q ∈ (fs, dqObj) :: (pb, dqObj) :: rest, q.1 ≠ dy := List.forall_mem_cons.mpr ⟨z9, List.forall_mem_cons.mpr ⟨z8, fun q hq => Nat.ne_of_lt (Nat.lt_trans (o0 q hq) (Nat.lt_trans o1 o2))⟩⟩
    have hl0 : l.drop 0 = ms.map (·.1) := by rw [List.drop_zero]; exact hl
    clear F N
    have FG := (by assumption : Fr h₀ L _ m)
    cases cb
    · k_steps
      unfold Halt
      have N2 := (by assumption : News _ _ _ (Lx.led w ⟨upK κ _, μ, x, dx, y, dy, pb, fs, px, eofOf px te, "", wcOf px, (fs, dqObj) :: (pb, dqObj) :: rest, l⟩ (.str " " ts) 1 v13 "" v15 0 u))
      refine' c_list (X := ⟨upK κ _, μ, x, dx, y, dy, pb, fs, px, eofOf px te, "", wcOf px, (fs, dqObj) :: (pb, dqObj) :: rest, l⟩) (ms := ms) ?k1 ?k2 ?k3 ?k4 ?k5 ?k6 ?k7 ?k8 ?k9 ⟨z1, z6, z3, z7, z2.symm, hr2, hr3, hlen⟩ (fineX px (.inl rfl) rfl) rfl (.tail _ (.head _)) (.head _) lx N2 hl0 (Nat.zero_le _) hg ?p1 ?p2
      case k6 => exact rfl
      case k2 => k_asm
      case k1 => k_asm
      case k3 => k_asm
      case k4 => k_asm
      case k5 => exact rfl
      case k7 => exact rfl
      case k8 => exact Nat.le_of_ble_eq_true rfl
      case k9 => exact Nat.le_of_ble_eq_true rfl
      case p1 =>
        intro r' hr' S vs' c' e t g2 h' k hT F2 U2 R2
        exact post r' hr' S vs' c' e t _ h' k hT FG ((Heap.UpToSlots.of_keeps F2.keep).trans U2) (raisedK_sub (raisedK_tail R2) fun q hq => by
          rcases List.mem_cons.mp hq with h | h
          · exact h ▸ .head _
          · exact .tail _ (.tail _ (.tail _ h)))
      case p2 =>
        intro hr' e t g2 h9 k9 tt F9 U9 R9
        k_steps
        rename_i R' U'
        exact bad hr' _ _ _ _ _ _ FG U' (raisedK_sub R' fun q hq => .tail _ (.tail _ hq))
    · k_steps
      unfold Halt
      have N2 := (by assumption : News _ _ _ (Lx.led w ⟨κ, μ, x, dx, y, dy, pb, fs, px, eofOf px te, "#", wcOf px, (fs, dqObj) :: (pb, dqObj) :: rest, l⟩ (.str " " ts) 1 v13 "" v15 0 u))
      refine' c_list (X := ⟨κ, μ, x, dx, y, dy, pb, fs, px, eofOf px te, "#", wcOf px, (fs, dqObj) :: (pb, dqObj) :: rest, l⟩) (ms := ms) ?k1 ?k2 ?k3 ?k4 ?k5 ?k6 ?k7 ?k8 ?k9 ⟨z1, z6, z3, z7, z2.symm, hr2, hr3, hlen⟩ (fineX px (.inr rfl) rfl) rfl (.tail _ (.head _)) (.head _) lx N2 hl0 (Nat.zero_le _) hg ?p1 ?p2
      case k6 => exact rfl
      case k2 => k_asm
      case k1 => k_asm
      case k3 => k_asm
      case k4 => k_asm
      case k5 => exact rfl
      case k7 => exact rfl
      case k8 => exact Nat.le_of_ble_eq_true rfl
      case k9 => exact Nat.le_of_ble_eq_true rfl
      case p1 =>
        intro r' hr' S vs' c' e t g2 h' k hT F2 U2 R2
        exact post r' hr' S vs' c' e t _ h' k hT FG ((Heap.UpToSlots.of_keeps F2.keep).trans U2) (raisedK_sub (raisedK_tail R2) fun q hq => by
          rcases List.mem_cons.mp hq with h | h
          · exact h ▸ .head _
          · exact .tail _ (.tail _ (.tail _ h)))
      case p2 =>
        intro hr' e t g2 h9 k9 tt F9 U9 R9
        k_steps
        rename_i R' U'
        exact bad hr' _ _ _ _ _ _ FG U' (raisedK_sub R' fun q hq => .tail _ (.tail _ hq))
end

end
section
noncomputable def rep (l : List Nat) : List Nat := l.flatMap fun c => if c = 39 then [39, 34, 39, 34, 39] else [c]
theorem rep_free : ∀ l : List Nat, 39 ∉ l → rep l = l := by
  intro l
  induction l with
  | nil => intro _; rfl
  | cons c l ih =>
    intro h
    have h1 : ¬ c = 39 := fun e => h (e ▸ .head _)
    have := ih fun m => h (.tail _ m)
    unfold rep at this ⊢
    rw [List.flatMap_cons, if_neg h1, this]
    rfl
theorem rep_append (a b : List Nat) : rep (a ++ b) = rep a ++ rep b := by simp [rep]
theorem rep_join : ∀ parts : List Str, (∀ p ∈ parts, 39 ∉ p.cps.toList) → rep (Str.join ⟨#[39]⟩ parts).cps.toList = (Str.join ⟨#[39, 34, 39, 34, 39]⟩ parts).cps.toList
  | [], _ => rfl
  | [p], h => rep_free _ (h p (List.mem_singleton.mpr rfl))
  | p :: q :: r, h => by
    have ih := rep_join (q :: r) fun a ha => h a (List.mem_cons_of_mem _ ha)
    show rep (p ++ ⟨#[39]⟩ ++ Str.join ⟨#[39]⟩ (q :: r)).cps.toList = (p ++ ⟨#[39, 34, 39, 34, 39]⟩ ++ Str.join ⟨#[39, 34, 39, 34, 39]⟩ (q :: r)).cps.toList
    simp only [Str.cps_append, Array.toList_append]
    rw [rep_append, rep_append, ih, rep_free _ (h p (List.mem_cons_self ..))]
    rfl
theorem rep_eq (l : List Nat) : Txt.replace (tx l) "'" "'\"'\"'" = tx (rep l) := by
  have e1 : Str.ofString "'" = ⟨#[39]⟩ := by decide +kernel
  have e2 : Str.ofString "'\"'\"'" = ⟨#[39, 34, 39, 34, 39]⟩ := by decide +kernel
  have h := rep_join _ (StrLaws.split_free (tx l) 39)
  rw [StrLaws.join_split] at h
  rw [e1, e2, StrLaws.replace_one, tx_cps (Str.join _ _), ← h]
  simp [tx]
theorem rep_len (l : List Nat) : (rep l).length ≤ 5 * l.length := by
  induction l with
  | nil => simp [rep]
  | cons c l ih =>
    unfold rep at ih ⊢
    rw [List.flatMap_cons, List.length_append, List.length_cons]
    split <;> simp only [List.length_cons, List.length_nil] <;> omega

end
section
/- the search for an unsafe sign: what the machine of the pattern comes to -/
open PySem.Sre in
noncomputable def CD : Array Nat := #[14, 17, 4, 1, 1, 21, 9, 0, 604043296, 1, 0, 0, 0, 0, 0, 8, 4, 0, 13, 14, 21, 9, 0, 604043296, 1, 0, 0, 0, 0, 0, 8, 4, 0, 1]
section
open PySem.Sre
theorem is1 (c : Nat) (seen : Sre.Seen) : inSet CD c 34 5 true seen = inSet CD c 33 6 false (seen.add 21) := by kernel_rfl
theorem is2 (c : Nat) (seen : Sre.Seen) : inSet CD c 33 6 false seen = if (decide (c < 256) && (CD.getD (6 + (1 + c / 32)) 0).testBit (c % 32)) = true then .ok (false, seen.add 9) else inSet CD c 32 15 false (seen.add 9) := by kernel_rfl
theorem is3 (c : Nat) (seen : Sre.Seen) : inSet CD c 32 15 false seen = (do if ← category 4 c then pure (false, (seen.add 8).add 59) else inSet CD c 31 17 false ((seen.add 8).add 59)) := by kernel_rfl
theorem is4 (c : Nat) (seen : Sre.Seen) : inSet CD c 31 17 false seen = .ok (true, seen.add 0) := by kernel_rfl
theorem cat4 (c : Nat) : category 4 c = .ok (isWord c != false) := by kernel_rfl
theorem safe_bits : (List.range 256).all (fun c => ((CD.getD (6 + (1 + c / 32)) 0).testBit (c % 32) || isWord c) == decide (c ∈ safeL)) = true := by decide +kernel
theorem safe_small : safeL.all (· < 128) = true := by decide +kernel
theorem safe_iff (c : Nat) : (decide (c < 256) && (CD.getD (6 + (1 + c / 32)) 0).testBit (c % 32) || isWord c) = decide (c ∈ safeL) := by
  by_cases h : c < 256
  · have := List.all_eq_true.mp safe_bits c (List.mem_range.mpr h)
    simp only [beq_iff_eq] at this
    simp only [h, decide_true, Bool.true_and]
    exact this
  · have e1 : isWord c = false := by
      unfold isWord isDigit
      simp only [Bool.or_eq_false_iff, Bool.and_eq_false_iff, decide_eq_false_iff_not, beq_eq_false_iff_ne]
      omega
    have e2 : c ∉ safeL := fun hc => by
      have := List.all_eq_true.mp safe_small c hc
      simp at this
      omega
    simp [h, e1, e2]
theorem inSet5 (c : Nat) (seen : Sre.Seen) : ∃ s', inSet CD c 34 5 true seen = .ok (!decide (c ∈ safeL), s') := by
  rw [is1, is2, ← safe_iff]
  by_cases h : (decide (c < 256) && (CD.getD (6 + (1 + c / 32)) 0).testBit (c % 32)) = true
  · rw [if_pos h, h]; exact ⟨_, rfl⟩
  · rw [if_neg h, is3, cat4]
    rw [Bool.not_eq_true] at h
    rw [h]
    cases hw : isWord c
    · exact ⟨_, is4 c _⟩
    · exact ⟨_, rfl⟩
theorem is1' (c : Nat) (seen : Sre.Seen) : inSet CD c 34 20 true seen = inSet CD c 33 21 false (seen.add 21) := by kernel_rfl
theorem is2' (c : Nat) (seen : Sre.Seen) : inSet CD c 33 21 false seen = if (decide (c < 256) && (CD.getD (21 + (1 + c / 32)) 0).testBit (c % 32)) = true then .ok (false, seen.add 9) else inSet CD c 32 30 false (seen.add 9) := by kernel_rfl
theorem is3' (c : Nat) (seen : Sre.Seen) : inSet CD c 32 30 false seen = (do if ← category 4 c then pure (false, (seen.add 8).add 59) else inSet CD c 31 32 false ((seen.add 8).add 59)) := by kernel_rfl
theorem is4' (c : Nat) (seen : Sre.Seen) : inSet CD c 31 32 false seen = .ok (true, seen.add 0) := by kernel_rfl
theorem safe_bits' : (List.range 256).all (fun c => (CD.getD (21 + (1 + c / 32)) 0).testBit (c % 32) == (CD.getD (6 + (1 + c / 32)) 0).testBit (c % 32)) = true := by decide +kernel
theorem inSet20 (c : Nat) (seen : Sre.Seen) : ∃ s', inSet CD c 34 20 true seen = .ok (!decide (c ∈ safeL), s') := by
  have e : (decide (c < 256) && (CD.getD (21 + (1 + c / 32)) 0).testBit (c % 32)) = (decide (c < 256) && (CD.getD (6 + (1 + c / 32)) 0).testBit (c % 32)) := by
    by_cases h : c < 256
    · have := List.all_eq_true.mp safe_bits' c (List.mem_range.mpr h)
      simp only [beq_iff_eq] at this
      rw [this]
    · simp [h]
  rw [is1', is2', ← safe_iff, e]
  by_cases h : (decide (c < 256) && (CD.getD (6 + (1 + c / 32)) 0).testBit (c % 32)) = true
  · rw [if_pos h, h]; exact ⟨_, rfl⟩
  · rw [if_neg h, is3', cat4]
    rw [Bool.not_eq_true] at h
    rw [h]
    cases hw : isWord c
    · exact ⟨_, is4' c _⟩
    · exact ⟨_, rfl⟩
theorem adm_none (m : M) (hc : m.code = CD) (hs : ∀ c ∈ m.text.toList, c ∈ safeL) (hl : m.lim ≤ m.text.size) : ∀ (fuel s : Nat) (seen : Sre.Seen), ∃ s', M.admitted m fuel s seen = .ok (none, s') := by
  intro fuel
  induction fuel with
  | zero => intro s seen; exact ⟨_, rfl⟩
  | succ n ih =>
    intro s seen
    unfold M.admitted
    by_cases h : s ≥ m.lim
    · rw [if_pos h]; exact ⟨_, rfl⟩
    · rw [if_neg h, hc, show CD.size = 34 from rfl]
      obtain ⟨s', e⟩ := inSet5 (m.text.getD s 0) seen
      have hm : m.text.getD s 0 ∈ safeL := by
        refine hs _ ?_
        have : s < m.text.size := by omega
        simp [Array.getD, this]
      rw [e, decide_eq_true hm]
      exact ih _ _
theorem adm_some (m : M) (hc : m.code = CD) (j : Nat) (hj : j < m.lim) (hu : m.text.getD j 0 ∉ safeL) : ∀ (fuel s : Nat) (seen : Sre.Seen), s ≤ j → j < s + fuel → ∃ i s', M.admitted m fuel s seen = .ok (some i, s') ∧ i < m.lim ∧ m.text.getD i 0 ∉ safeL := by
  intro fuel
  induction fuel with
  | zero => intro s seen h1 h2; omega
  | succ n ih =>
    intro s seen h1 h2
    unfold M.admitted
    rw [if_neg (by omega), hc, show CD.size = 34 from rfl]
    obtain ⟨s', e⟩ := inSet5 (m.text.getD s 0) seen
    rw [e]
    by_cases hm : m.text.getD s 0 ∈ safeL
    · rw [decide_eq_true hm]
      refine ih _ _ ?_ (by omega)
      rcases Nat.lt_or_ge s j with h | h
      · exact h
      · obtain rfl : s = j := by omega
        exact absurd hm hu
    · rw [decide_eq_false hm]
      exact ⟨s, s', rfl, by omega, hm⟩
/-- the machine as the search begins -/
noncomputable def M0 (text : Array Nat) (n : Nat) : M := { code := CD, text, lim := n, start := 0, pc := 18, pos := 0, handed := 0, marks := Array.replicate (2 * 0) none, mustAdvance := false, seen := ({} : Sre.Seen).add 14, lastStart := n }
theorem fs_eq (text : Array Nat) (n : Nat) : forSearch CD text 0 0 n false = if (decide (0 > n) || decide (n - 0 < 1)) = true then M.say { M0 text n with lastStart := 0 } false else (M0 text n).attemptFrom 0 true := by kernel_rfl
theorem af_eq (text : Array Nat) (n : Nat) : (M0 text n).attemptFrom 0 true = match M.admitted (M0 text n) (n + 1 - 0) 0 (M0 text n).seen with
  | .ok (some s, seen) => ({ M0 text n with mustAdvance := false, seen } : M).attemptAt s true
  | .ok (none, seen) => ({ M0 text n with seen } : M).say false
  | .error why => (M0 text n).stick why := by kernel_rfl
theorem sre_none (text : Array Nat) (h0 : text.size ≠ 0) (hs : ∀ c ∈ text.toList, c ∈ safeL) : ((forSearch CD text 0 0 text.size false).runFor 4).outcome = some .failed := by
  rw [fs_eq, if_neg (by rw [Bool.not_eq_true, Bool.or_eq_false_iff]; exact ⟨decide_eq_false (by omega), decide_eq_false (by omega)⟩), af_eq]
  obtain ⟨s', e⟩ := adm_none (M0 text text.size) rfl hs (Nat.le_refl _) (text.size + 1 - 0) 0 (M0 text text.size).seen
  rw [e]
  rfl
theorem ex_in (m : M) (h1 : m.code = CD) (h2 : m.pc = 18) (h3 : m.pos < m.lim) (h4 : m.text.getD m.pos 0 ∉ safeL) : ∃ seen, m.exec = { m with seen, pc := 33, pos := m.pos + 1 } := by
  obtain ⟨code, text, lim, start, ls, wt, ma, pc, pos, handed, om, marks, lm, li, loops, inner, frames, weight, answer, seen, outcome⟩ := m
  dsimp only at h1 h2 h3 h4
  subst h1 h2
  obtain ⟨s', e⟩ := inSet20 (text.getD pos 0) (seen.add 13)
  rw [decide_eq_false h4] at e
  refine ⟨s', ?_⟩
  have h5 : ¬ pos ≥ lim := by omega
  show (if pos ≥ lim then _ else match inSet CD (text.getD pos 0) 34 20 true (seen.add 13) with | .error why => _ | .ok (false, seen) => _ | .ok (true, seen) => _) = _
  rw [if_neg h5, e]
  rfl
noncomputable def M1 (text : Array Nat) (n : Nat) (s' : Sre.Seen) (i : Nat) : M := { code := CD, text, lim := n, start := i, pc := 18, pos := i, handed := i, marks := Array.replicate (2 * 0) none, mustAdvance := false, seen := s', lastStart := n, frames := [{ wait := .nextStart, pc := 18, pos := i, outermost := true }], weight := 1 }
theorem at_eq (text : Array Nat) (n : Nat) (s' : Sre.Seen) (i : Nat) : ({ M0 text n with mustAdvance := false, seen := s' } : M).attemptAt i true = M1 text n s' i := by kernel_rfl
theorem r4_eq (text : Array Nat) (n : Nat) (s' : Sre.Seen) (i : Nat) : M.runFor 4 (M1 text n s' i) = M.runFor 3 (M.exec (M1 text n s' i)) := by kernel_rfl
theorem r3_eq (text : Array Nat) (n : Nat) (s' s2 : Sre.Seen) (i : Nat) : (M.runFor 3 { M1 text n s' i with seen := s2, pc := 33, pos := (M1 text n s' i).pos + 1 }).outcome = some .matched := by kernel_rfl
theorem sre_some (text : Array Nat) (j : Nat) (hj : j < text.size) (hu : text.getD j 0 ∉ safeL) : ((forSearch CD text 0 0 text.size false).runFor 4).outcome = some .matched := by
  rw [fs_eq, if_neg (by rw [Bool.not_eq_true, Bool.or_eq_false_iff]; exact ⟨decide_eq_false (by omega), decide_eq_false (by omega)⟩), af_eq]
  obtain ⟨i, s', e, hi, hi2⟩ := adm_some (M0 text text.size) rfl j hj hu (text.size + 1 - 0) 0 (M0 text text.size).seen (Nat.zero_le _) (by omega)
  rw [e]
  show (M.runFor 4 (({ M0 text text.size with mustAdvance := false, seen := s' } : M).attemptAt i true)).outcome = _
  obtain ⟨s2, e2⟩ := ex_in (M1 text text.size s' i) rfl rfl hi hi2
  rw [at_eq, r4_eq, e2]
  exact r3_eq ..
end

end
section
theorem entry_search : entryFor table "re.Pattern.search" = some Builtin.«re.Pattern.search» := entryFor_of_tree (by kernel_rfl)
theorem plain_search : plainId "re.Pattern.search" = true := by decide +kernel
section
variable {prog : Program} {w : World} {A : Around} {E : Value → Shared → Prop} {s : Shared}
theorem rules_seen {α : Type} {l : List Nat} {f : Nat → Bool} {g : Nat → String} {k : Unit → Sem α} {Q : α → Shared → Prop} (h : wpAny (model prog w) A (k ()) Q E s) :
    wpAny (model prog w) A ((forIn l () fun i _ => if f i = true then (do rule (g i); pure (ForInStep.yield ())) else pure (ForInStep.yield ())) >>= k) Q E s := by
  refine wpAny_bind ?_
  induction l with
  | nil => rw [List.forIn_nil]; exact wpAny_pure h
  | cons i l ih =>
    rw [List.forIn_cons]
    refine wpAny_bind ?_
    split
    · exact wpAny_bind (wpAny_rule (wpAny_pure ih))
    · exact wpAny_pure ih
theorem drive1 {m : Sre.M} {o : Sre.Outcome} {α : Type} {k : Sre.M → Sem α} {Q : α → Shared → Prop} (e : (m.runFor 4).outcome = some o) (h : wpAny (model prog w) A (k (m.runFor 4)) Q E s) :
    wpAny (model prog w) A (Builtin.Re.reDrive (2 ^ 64) m >>= k) Q E s := by
  refine wpAny_bind ?_
  rw [show (2 ^ 64 : Nat) = 18446744073709551615 + 1 from rfl]
  unfold Builtin.Re.reDrive
  show wpAny _ _ (if (m.runFor 4).outcome.isSome = true then pure (m.runFor 4) else _) _ _ _
  rw [e, if_pos (show (some o).isSome = true from rfl)]
  exact wpAny_pure h
end
theorem callWith_752 {w : World} {A : Around} {E : Value → Shared → Prop} {s : Shared} {env : Env} {pos : Pos} {first : List Value} {Q : Value → Shared → Prop} {e : Expr} {rest : List Expr}
    (h : wpAny (model PG w) A (spliced (backTo pos (starEach (e :: rest) env))) (fun vs s₁ => (HK w.params).In s₁.heap ∧ wpAny (model PG w) A (call (.ref 752) (first ++ vs)) Q E s₁) E s)
    (he : starEach (e :: rest) env = (false, eval e env) :: starEach rest env := by rfl) (hplain : (backTo pos (starEach rest env)).any (·.1) = false := by rfl) :
    wpAny (model PG w) A (callWith pos (.ref 752) first (backTo pos (starEach (e :: rest) env)) []) Q E s := by
  rw [he] at h ⊢
  exact callWith_of (by show ((false || (backTo pos (starEach rest env)).any (·.1)) || false) = false; rw [hplain]; rfl) (fun h X => ⟨.machine, .inr (.inl rfl), Looks.of_peek X (by kernel_rfl)⟩) (evalArgs_plain h)
section
variable {w : World} {A : Around} {h₀ : Heap} {L : Addr} {m : Str → Option Value} {s : Shared} {Q E : Value → Shared → Prop} {rest : List (Addr × Obj)}
theorem call_752 {l : List Nat} {t : Tok} (F : Fr h₀ L s.heap m) (K : (HK w.params).In h₀) (N : News h₀ L s.heap rest) (hne : l ≠ []) (hlen : l.length < 100000)
    (post0 : (∀ c ∈ l, c ∈ safeL) → Q .none s)
    (post1 : (¬ ∀ c ∈ l, c ∈ safeL) → ∀ x h', Fr h₀ L h' m → News h₀ L h' rest → Q (.ref x) { s with heap := h' }) :
    wpAny (model PG w) A (call (.ref 752) [.str (tx l) t]) Q E s := by
  have X := K.keeps F.keep
  have hC : s.heap.get? 752 = some (o752 w.params) := X 752 _ (by kernel_rfl)
  have h49 : s.heap.get? 49 = some (o49 w.params) := X 49 _ (by kernel_rfl)
  have h48 : s.heap.get? 48 = some (o48 w.params) := X 48 _ (by kernel_rfl)
  refine wpAny_call (codeAny_of_tree ?_)
  show wpAny _ _ (callAny (.ref 752) _) _ _ _
  refine nd_load hC ?_
  show wpAny _ _ (do checkBoundCall "re.Pattern.search" ⟨[.ref 49, .str (tx l) t], []⟩; again (.builtin "re.Pattern.search" ⟨[.ref 49, .str (tx l) t], []⟩)) _ _ _
  have hck : Looks (model PG w) s.heap (checkBoundCall "re.Pattern.search" ⟨[.ref 49, .str (tx l) t], []⟩) () := Looks.of_peek X (by kernel_rfl)
  refine wpAny_bind (hck.at ?_)
  refine wpAny_pure ⟨plainId_quiet plain_search _, codeAny_builtin entry_search ?_⟩
  rw [Around.under_plainId plain_search _]
  show wpAny _ _ (do let t ← Builtin.Re.reTarget "re.Pattern.search" "search" ⟨[.ref 49, .str (tx l) t], []⟩; Builtin.Re.reAnswer t (Sre.forSearch t.code t.text t.groups t.pos t.lim false)) _ _ _
  have htgt : Looks (model PG w) s.heap (Builtin.Re.reTarget "re.Pattern.search" "search" ⟨[.ref 49, .str (tx l) t], []⟩) ⟨.ref 49, .str (tx l) t, CD, l.toArray, 0, 0, min (Int.toNat 0) l.toArray.size, min (Int.toNat (2 ^ 63 - 1)) l.toArray.size⟩ := Looks.of_peek X (by kernel_rfl)
  have hlim : min (Int.toNat (2 ^ 63 - 1)) l.toArray.size = l.toArray.size := by
    rw [List.size_toArray, show Int.toNat (2 ^ 63 - 1) = 9223372036854775807 from rfl]
    omega
  have hpos : min (Int.toNat 0) l.toArray.size = 0 := by simp
  rw [hlim, hpos] at htgt
  refine wpAny_bind (htgt.at ?_)
  have h0 : l.toArray.size ≠ 0 := by simpa using hne
  unfold Builtin.Re.reAnswer Builtin.Re.reRunToEnd
  by_cases hs : ∀ c ∈ l, c ∈ safeL
  · have e := sre_none l.toArray h0 (by simpa using hs)
    refine wpAny_bind (drive1 e (rules_seen ?_))
    simp only [e]
    exact wpAny_pure (wpAny_pure (post0 hs))
  · have hs' := hs
    obtain ⟨c, hc⟩ := Classical.not_forall.mp hs
    obtain ⟨hc, hc2⟩ := Classical.not_imp.mp hc
    obtain ⟨j, hj, rfl⟩ := List.getElem_of_mem hc
    have e := sre_some l.toArray j (by simpa using hj) (by simpa [Array.getD, hj] using hc2)
    refine wpAny_bind (drive1 e (rules_seen ?_))
    simp only [e]
    refine wpAny_pure ?_
    generalize (Sre.M.runFor 4 (Sre.forSearch CD l.toArray 0 0 l.toArray.size false)) = M
    show wpAny _ _ ((newTuple [rawInt M.start, rawInt M.handed] >>= fun d => newFields "re.Match" [.str (tx l) t, .ref 49, rawInt (0 : Nat), rawInt l.toArray.size, rawInt M.lastindex, d]) >>= fun x => ret x) _ _ _
    refine wpAny_bind (wpAny_bind (newTuple_N F N fun h1 F1 N1 => ?_))
    unfold newFields
    refine wpAny_newObj_type ?_ (by first | trivial | (show _ ≤ sizeLine + 2; rw [sizeLine_eq]; simp))
    exact wpAny_pure (post1 hs' _ _ (F1.push _) fun q hq => N1.push F1 _ rfl q (.tail _ (.tail _ hq)))
end

end
section
/- the plain law: what join writes, what the reader of the marks says, what the lexer makes of it -/
noncomputable def bare (w : List Nat) : Bool := !w.isEmpty && w.all fun c => decide (c ∈ safeL)
noncomputable def qm (c : Nat) : List (Nat × Kd) := if c = 39 then [(39, .sh), (34, .op), (39, .inn), (34, .sh), (39, .op)] else [(c, .inn)]
noncomputable def wm (w : List Nat) : List (Nat × Kd) := if bare w then w.map (·, .ba) else (39, .op) :: (w.flatMap qm ++ [(39, .sh)])
noncomputable def mkR (ws : List (List Nat)) : List (Nat × Kd) := ws.flatMap fun w => (32, .bt) :: wm w
noncomputable def mk : List (List Nat) → List (Nat × Kd)
  | [] => []
  | w :: r => wm w ++ mkR r
theorem mk_snoc (ws : List (List Nat)) (w : List Nat) : mk (ws ++ [w]) = mk ws ++ ((if ws = [] then [] else [(32, .bt)]) ++ wm w) := by
  cases ws with
  | nil => simp [mk, mkR]
  | cons a r => simp [mk, mkR]
/-- the reader's state -/
structure Rs where
  ws : List (List Nat)
  ts : List (List Nat)
  fr : Bool
  ins : Bool
noncomputable def app1 (l : List (List Nat)) (c : Nat) : List (List Nat) := l.dropLast ++ [l.getLast?.getD [] ++ [c]]
theorem app1_snoc (l : List (List Nat)) (w : List Nat) (c : Nat) : app1 (l ++ [w]) c = l ++ [w ++ [c]] := by simp [app1]
noncomputable def rstep (s : Rs) (p : Nat × Kd) : Rs := match p.2 with
  | .bt => { s with fr := true }
  | .ba => ⟨app1 (if s.fr then s.ws ++ [[]] else s.ws) p.1, app1 (if s.fr then s.ts ++ [[]] else s.ts) p.1, false, s.ins⟩
  | .op => ⟨if s.fr then s.ws ++ [[]] else s.ws, app1 (s.ts ++ [[]]) p.1, false, true⟩
  | .inn => ⟨app1 (if s.fr then s.ws ++ [[]] else s.ws) p.1, app1 (if s.fr then s.ts ++ [[]] else s.ts) p.1, false, s.ins⟩
  | .sh => ⟨if s.fr then s.ws ++ [[]] else s.ws, app1 (if s.fr then s.ts ++ [[]] else s.ts) p.1, false, false⟩
noncomputable def rd (ms : List (Nat × Kd)) : Rs := ms.foldl rstep ⟨[], [], true, false⟩
inductive Wm | S | B | Q (q : Nat) | E
/-- the marks that join writes -/
def WF : Wm → List (Nat × Kd) → Prop
  | _, [] => True
  | .S, (c, k) :: r => match k with
    | .ba => c ∈ safeL ∧ WF .B r
    | .op => (c = 39 ∨ c = 34) ∧ WF (.Q c) r
    | _ => False
  | .B, (c, k) :: r => match k with
    | .bt => c = 32 ∧ WF .S r
    | .ba => c ∈ safeL ∧ WF .B r
    | _ => False
  | .Q q, (c, k) :: r => match k with
    | .inn => (c ≠ q ∧ (q = 34 → c ≠ 92)) ∧ WF (.Q q) r
    | .sh => c = q ∧ WF .E r
    | _ => False
  | .E, (c, k) :: r => match k with
    | .bt => c = 32 ∧ WF .S r
    | .op => (c = 39 ∨ c = 34) ∧ WF (.Q c) r
    | _ => False
theorem WF.take : ∀ (ms : List (Nat × Kd)) (m : Wm) (n : Nat), WF m ms → WF m (ms.take n) := by
  intro ms
  induction ms with
  | nil => intro m n h; simp [WF]
  | cons ck r ih =>
    obtain ⟨c, k⟩ := ck
    intro m n h
    cases n with
    | zero => cases m <;> simp [WF]
    | succ n =>
      rw [List.take_succ_cons]
      cases m <;> cases k <;> simp only [WF] at h ⊢ <;> first
        | exact h
        | exact ⟨h.1, ih _ n h.2⟩
theorem wf_bare {r : List (Nat × Kd)} : ∀ (w : List Nat), (∀ c ∈ w, c ∈ safeL) → WF .B r → WF .B (w.map (·, .ba) ++ r) := by
  intro w
  induction w with
  | nil => intro _ h; exact h
  | cons c w ih =>
    intro hs h
    exact ⟨hs c (.head _), ih (fun c hc => hs c (.tail _ hc)) h⟩
theorem wf_quoted {r : List (Nat × Kd)} : ∀ (w : List Nat), WF .E r → WF (.Q 39) (w.flatMap qm ++ (39, .sh) :: r) := by
  intro w
  induction w with
  | nil => intro h; exact ⟨rfl, h⟩
  | cons c w ih =>
    intro h
    rw [List.flatMap_cons, List.append_assoc]
    unfold qm
    split
    · exact ⟨rfl, .inr rfl, ⟨by decide, fun _ => by decide⟩, rfl, .inl rfl, ih h⟩
    · rename_i hc
      exact ⟨⟨hc, fun h => by cases h⟩, ih h⟩
theorem wf_word {r : List (Nat × Kd)} (w : List Nat) (h1 : WF .B r) (h2 : WF .E r) : WF .S (wm w ++ r) := by
  unfold wm
  split
  · rename_i hb
    cases w with
    | nil => simp [bare] at hb
    | cons c w =>
      have hs : ∀ x ∈ c :: w, x ∈ safeL := by
        simp only [bare, Bool.and_eq_true, List.all_eq_true, decide_eq_true_eq] at hb
        exact hb.2
      exact ⟨hs c (.head _), wf_bare w (fun x hx => hs x (.tail _ hx)) h1⟩
  · refine ⟨.inl rfl, ?_⟩
    show WF (.Q 39) ((w.flatMap qm ++ [(39, .sh)]) ++ r)
    rw [List.append_assoc]
    exact wf_quoted w h2
theorem wf_rest : ∀ (ws : List (List Nat)), WF .B (mkR ws) ∧ WF .E (mkR ws) := by
  intro ws
  induction ws with
  | nil => exact ⟨trivial, trivial⟩
  | cons w r ih =>
    have : WF .S (wm w ++ mkR r) := wf_word w ih.1 ih.2
    exact ⟨⟨rfl, this⟩, ⟨rfl, this⟩⟩
theorem wf_mk (ws : List (List Nat)) : WF .S (mk ws) := by
  cases ws with
  | nil => trivial
  | cons w r => exact wf_word w (wf_rest r).1 (wf_rest r).2
noncomputable def mdOf (px : Bool) : Wm → Md
  | .S => .S
  | .B => .A
  | .Q q => .Q q
  | .E => if px then .A else .S
theorem WF.good (px : Bool) : ∀ (ms : List (Nat × Kd)) (m : Wm), WF m ms → Good px (mdOf px m) ms := by
  intro ms
  induction ms with
  | nil => intro m _; cases m <;> cases px <;> simp [Good, mdOf]
  | cons ck r ih =>
    obtain ⟨c, k⟩ := ck
    intro m h
    cases m with
    | S => cases k <;> simp only [WF] at h <;> first | exact h.elim | exact ⟨h.1, ih _ h.2⟩
    | B => cases k <;> simp only [WF] at h <;> first | exact h.elim | exact ⟨h.1, ih _ h.2⟩
    | Q q =>
      cases k <;> simp only [WF] at h <;> first
        | exact h.elim
        | exact ⟨h.1, ih _ h.2⟩
    | E =>
      cases k <;> simp only [WF] at h <;> first
        | exact h.elim
        | (cases px
           · exact ⟨h.1, ih _ h.2⟩
           · first | exact ⟨h.1, ih _ h.2⟩ | exact ⟨⟨rfl, h.1⟩, ih _ h.2⟩)
/-- what one token's reading comes to, and what is behind it -/
def Lexing (px : Bool) (rt : Rt) (r : Option (List (List Nat))) : Prop := match rt with
  | .bad => r = none
  | .got m' qd tk ms' => (stops px qd tk = true ∧ r = some []) ∨ (stops px qd tk = false ∧ ∃ r', Lexed px m' ms' r' ∧ r = r'.map (tk :: ·))
theorem Lexing.lexed {px : Bool} {ms : List (Nat × Kd)} {r : Option (List (List Nat))} (h : Lexing px (run px .S false [] ms) r) : Lexed px (some .S) ms r := by
  have e : runO px (some .S) ms = run px .S false [] ms := rfl
  cases hr : run px .S false [] ms with
  | bad =>
    rw [hr] at h
    have h : r = none := h
    subst h
    exact .bad (e.trans hr)
  | got m' qd tk ms' =>
    rw [hr] at h
    rcases h with ⟨h1, rfl⟩ | ⟨h1, r', h2, rfl⟩
    · exact .stop (e.trans hr) h1
    · exact .more (e.trans hr) h1 h2
theorem lexed_end (px : Bool) : Lexed px none [] (some []) := .stop (m' := none) (qd := false) (tk := []) (ms' := []) rfl (by simp [stops])
/-- the reader and the lexer agree so far: the words done, the one at work -/
def ConsT (m : Wm) (st : Rs) (dn : List (List Nat)) (tk : List Nat) (qd : Bool) : Prop := match m with
  | .S => st.fr = true ∧ st.ins = false ∧ st.ws = dn ∧ tk = [] ∧ qd = false
  | .B => st.fr = false ∧ st.ins = false ∧ st.ws = dn ++ [tk] ∧ tk ≠ []
  | .Q _ => st.fr = false ∧ st.ins = true ∧ st.ws = dn ++ [tk]
  | .E => st.fr = false ∧ st.ins = false ∧ st.ws = dn ++ [tk] ∧ qd = true
theorem lexT : ∀ (ms : List (Nat × Kd)) (m : Wm) (st : Rs) (dn : List (List Nat)) (tk : List Nat) (qd : Bool), WF m ms → ConsT m st dn tk qd →
    ∃ r, Lexing true (run true (mdOf true m) qd tk ms) r ∧ r.map (dn ++ ·) = if (ms.foldl rstep st).ins then none else some (ms.foldl rstep st).ws := by
  intro ms
  induction ms with
  | nil =>
    intro m st dn tk qd _ hc
    cases m with
    | S =>
      obtain ⟨h1, h2, h3, rfl, rfl⟩ := hc
      exact ⟨some [], .inl ⟨rfl, rfl⟩, by simp [h2, h3]⟩
    | B =>
      obtain ⟨h1, h2, h3, h4⟩ := hc
      refine ⟨some [tk], .inr ⟨by simp [stops, h4], _, lexed_end true, rfl⟩, by simp [h2, h3]⟩
    | Q q =>
      obtain ⟨h1, h2, h3⟩ := hc
      exact ⟨none, rfl, by simp [h2]⟩
    | E =>
      obtain ⟨h1, h2, h3, rfl⟩ := hc
      refine ⟨some [tk], .inr ⟨by simp [stops], _, lexed_end true, rfl⟩, by simp [h2, h3]⟩
  | cons ck r ih =>
    obtain ⟨c, k⟩ := ck
    intro m st dn tk qd hw hc
    rw [List.foldl_cons]
    have emit : ∀ (st' : Rs), stops true qd tk = false → WF .S r → ConsT .S st' (dn ++ [tk]) [] false →
        ∃ x, Lexing true (.got (some .S) qd tk r) x ∧ x.map (dn ++ ·) = if (r.foldl rstep st').ins then none else some (r.foldl rstep st').ws := fun st' h0 h1 h2 => by
      obtain ⟨x, hx1, hx2⟩ := ih .S st' (dn ++ [tk]) [] false h1 h2
      refine ⟨x.map (tk :: ·), .inr ⟨h0, x, hx1.lexed, rfl⟩, ?_⟩
      rw [← hx2]
      cases x <;> simp
    cases m with
    | S =>
      obtain ⟨h1, h2, h3, rfl, rfl⟩ := hc
      cases k <;> simp only [WF] at hw
      · exact ih .B (rstep st (c, .ba)) dn [c] false hw.2 ⟨rfl, h2, by simp [rstep, h1, h3, app1_snoc], by simp⟩
      · exact ih (.Q c) (rstep st (c, .op)) dn [] false hw.2 ⟨rfl, rfl, by simp [rstep, h1, h3]⟩
    | B =>
      obtain ⟨h1, h2, h3, h4⟩ := hc
      cases k <;> simp only [WF] at hw
      · exact emit _ (by simp [stops, h4]) hw.2 ⟨rfl, h2, h3, rfl, rfl⟩
      · exact ih .B (rstep st (c, .ba)) dn (tk ++ [c]) qd hw.2 ⟨rfl, h2, by simp [rstep, h1, h3, app1_snoc], by simp⟩
    | Q q =>
      obtain ⟨h1, h2, h3⟩ := hc
      cases k <;> simp only [WF] at hw
      · exact ih (.Q q) (rstep st (c, .inn)) dn (tk ++ [c]) true hw.2 ⟨rfl, h2, by simp [rstep, h1, h3, app1_snoc]⟩
      · exact ih .E (rstep st (c, .sh)) dn tk true hw.2 ⟨rfl, rfl, by simp [rstep, h1, h3], rfl⟩
    | E =>
      obtain ⟨h1, h2, h3, rfl⟩ := hc
      cases k <;> simp only [WF] at hw
      · exact emit _ (by simp [stops]) hw.2 ⟨rfl, h2, h3, rfl, rfl⟩
      · exact ih (.Q c) (rstep st (c, .op)) dn tk true hw.2 ⟨rfl, rfl, by simp [rstep, h1, h3]⟩
def ConsF (m : Wm) (st : Rs) (dn : List (List Nat)) (tk : List Nat) (qd : Bool) : Prop := match m with
  | .S => st.fr = true ∧ st.ins = false ∧ st.ts = dn ∧ tk = [] ∧ qd = false
  | .B => st.fr = false ∧ st.ins = false ∧ st.ts = dn ++ [tk] ∧ tk ≠ []
  | .Q _ => st.fr = false ∧ st.ins = true ∧ st.ts = dn ++ [tk] ∧ tk ≠ []
  | .E => st.fr = false ∧ st.ins = false ∧ st.ts = dn ∧ tk = [] ∧ qd = false
theorem lexF : ∀ (ms : List (Nat × Kd)) (m : Wm) (st : Rs) (dn : List (List Nat)) (tk : List Nat) (qd : Bool), WF m ms → ConsF m st dn tk qd →
    ∃ r, Lexing false (run false (mdOf false m) qd tk ms) r ∧ r.map (dn ++ ·) = if (ms.foldl rstep st).ins then none else some (ms.foldl rstep st).ts := by
  intro ms
  induction ms with
  | nil =>
    intro m st dn tk qd _ hc
    cases m with
    | S =>
      obtain ⟨h1, h2, h3, rfl, rfl⟩ := hc
      exact ⟨some [], .inl ⟨rfl, rfl⟩, by simp [h2, h3]⟩
    | B =>
      obtain ⟨h1, h2, h3, h4⟩ := hc
      refine ⟨some [tk], .inr ⟨by simp [stops, h4], _, lexed_end false, rfl⟩, by simp [h2, h3]⟩
    | Q q =>
      obtain ⟨h1, h2, h3, h4⟩ := hc
      exact ⟨none, rfl, by simp [h2]⟩
    | E =>
      obtain ⟨h1, h2, h3, rfl, rfl⟩ := hc
      exact ⟨some [], .inl ⟨rfl, rfl⟩, by simp [h2, h3]⟩
  | cons ck r ih =>
    obtain ⟨c, k⟩ := ck
    intro m st dn tk qd hw hc
    rw [List.foldl_cons]
    have emit : ∀ (m' : Wm) (st' : Rs) (tk' : List Nat) (qd' : Bool), stops false qd' tk' = false → mdOf false m' = .S → WF m' r → ConsF m' st' (dn ++ [tk']) [] false →
        ∃ x, Lexing false (.got (some .S) qd' tk' r) x ∧ x.map (dn ++ ·) = if (r.foldl rstep st').ins then none else some (r.foldl rstep st').ts := fun m' st' tk' qd' h0 hm h1 h2 => by
      obtain ⟨x, hx1, hx2⟩ := ih m' st' (dn ++ [tk']) [] false h1 h2
      rw [hm] at hx1
      refine ⟨x.map (tk' :: ·), .inr ⟨h0, x, hx1.lexed, rfl⟩, ?_⟩
      rw [← hx2]
      cases x <;> simp
    cases m with
    | S =>
      obtain ⟨h1, h2, h3, rfl, rfl⟩ := hc
      cases k <;> simp only [WF] at hw
      · exact ih .B (rstep st (c, .ba)) dn [c] false hw.2 ⟨rfl, h2, by simp [rstep, h1, h3, app1_snoc], by simp⟩
      · exact ih (.Q c) (rstep st (c, .op)) dn [c] false hw.2 ⟨rfl, rfl, by simp [rstep, h3, app1_snoc], by simp⟩
    | B =>
      obtain ⟨h1, h2, h3, h4⟩ := hc
      cases k <;> simp only [WF] at hw
      · exact emit .S _ tk qd (by simp [stops, h4]) rfl hw.2 ⟨rfl, h2, h3, rfl, rfl⟩
      · exact ih .B (rstep st (c, .ba)) dn (tk ++ [c]) qd hw.2 ⟨rfl, h2, by simp [rstep, h1, h3, app1_snoc], by simp⟩
    | Q q =>
      obtain ⟨h1, h2, h3, h4⟩ := hc
      cases k <;> simp only [WF] at hw
      · exact ih (.Q q) (rstep st (c, .inn)) dn (tk ++ [c]) true hw.2 ⟨rfl, h2, by simp [rstep, h1, h3, app1_snoc], by simp⟩
      · exact emit .E _ (tk ++ [c]) true (by simp [stops]) rfl hw.2 ⟨rfl, rfl, by simp [rstep, h1, h3, app1_snoc], rfl, rfl⟩
    | E =>
      obtain ⟨h1, h2, h3, rfl, rfl⟩ := hc
      cases k <;> simp only [WF] at hw
      · exact ih .S (rstep st (c, .bt)) dn [] false hw.2 ⟨rfl, h2, h3, rfl, rfl⟩
      · exact ih (.Q c) (rstep st (c, .op)) dn [c] false hw.2 ⟨rfl, rfl, by simp [rstep, h3, app1_snoc], by simp⟩
/-- THE PLAIN LAW -/
theorem lex_read (px : Bool) (ws : List (List Nat)) (n : Nat) : Good px .S ((mk ws).take n) ∧
    Lexed px (some .S) ((mk ws).take n) (if (rd ((mk ws).take n)).ins then none else some (if px then (rd ((mk ws).take n)).ws else (rd ((mk ws).take n)).ts)) := by
  have hw : WF .S ((mk ws).take n) := WF.take _ _ n (wf_mk ws)
  refine ⟨WF.good px _ _ hw, ?_⟩
  cases px with
  | true =>
    obtain ⟨r, h1, h2⟩ := lexT _ .S ⟨[], [], true, false⟩ [] [] false hw ⟨rfl, rfl, rfl, rfl, rfl⟩
    have e : r = if (rd ((mk ws).take n)).ins then none else some (rd ((mk ws).take n)).ws := by
      unfold rd; rw [← h2]; cases r <;> simp
    have := Lexing.lexed h1
    rw [e] at this
    simpa using this
  | false =>
    obtain ⟨r, h1, h2⟩ := lexF _ .S ⟨[], [], true, false⟩ [] [] false hw ⟨rfl, rfl, rfl, rfl, rfl⟩
    have e : r = if (rd ((mk ws).take n)).ins then none else some (rd ((mk ws).take n)).ts := by
      unfold rd; rw [← h2]; cases r <;> simp
    have := Lexing.lexed h1
    rw [e] at this
    simpa using this

end
section
theorem wm_bare {l : List Nat} (h0 : l ≠ []) (hs : ∀ c ∈ l, c ∈ safeL) : (wm l).map (·.1) = l := by
  have hb : bare l = true := by
    simp only [bare, Bool.and_eq_true, List.all_eq_true, decide_eq_true_eq]
    exact ⟨by cases l with | nil => exact absurd rfl h0 | cons c l => rfl, hs⟩
  rw [wm, if_pos hb, List.map_map]
  exact List.map_id _
theorem qm_map (l : List Nat) : (l.flatMap qm).map (·.1) = rep l := by
  unfold rep
  rw [List.map_flatMap]
  congr 1
  funext c
  unfold qm
  split <;> rfl
theorem quoted_eq {l : List Nat} (hs : ¬ ∀ c ∈ l, c ∈ safeL) : Str.ofString "'" ++ Txt.replace (tx l) "'" "'\"'\"'" ++ Str.ofString "'" = tx ((wm l).map (·.1)) := by
  have hb : ¬ bare l = true := fun h => by
    simp only [bare, Bool.and_eq_true, List.all_eq_true, decide_eq_true_eq] at h
    exact hs h.2
  rw [rep_eq, show Str.ofString "'" = tx [39] by decide +kernel, tx_append, tx_append, wm, if_neg hb, List.map_cons, List.map_append, qm_map]
  rfl
section
variable {w : World} {A : Around} {env : Env} {outer : List Env} {A₀ : Around} {base h₀ : Heap} {L : Addr} {m : Str → Option Value} {mean : ExcName → Option Value} {mg mb : Str → Option Value} {s : Shared} {Q E : Value → Shared → Prop} {rest : List (Addr × Obj)}
local macro_rules | `(tactic| walk_at "m_enterE") => `(tactic| 
  (refine' code_def ?k1 ?k2 ?k3 ?k4 ?k5 ?kA ?kF ?kK ?k6 ?k7 ?k8 ?k9 ?kB ?_ ?c2 ?c3 ?c4 ?c5; (case kA => exact rfl); (case kF => assumption); (case kK => assumption); (case k1 => k_asm); (case k2 => k_asm); (case k3 => k_asm); (case k4 => k_asm); (case k5 => k_asm); (case k6 => k_is); (case k7 => k_is); (case k8 => exact Nat.lt_of_succ_le (Nat.le_of_ble_eq_true rfl)); (case k9 => exact BindsTo.of_eq rfl); (case c5 => decide); (case kB => exact locs rfl); (case c2 => exact rfl); (case c3 => exact rfl); (case c4 => exact rfl); k_whole; intro g' L' h' FG' F' N' B' X' T'; (try dsimp only); (try k_fold)))
local macro_rules | `(tactic| walk_at "call ref") => `(tactic| ((with_reducible show wpAny _ _ (call (Value.ref 752) _) _ _ _); refine halt_ ?_))
theorem c_quote {l : List Nat} {t : Tok} (B : Below A₀ base outer h₀) (F : Fr h₀ L s.heap m) (K : (HK w.params).In h₀) (T : Top VW LS mean mg mb h₀) (hf : env.frame = some L) (hk : env.scope.kind = .function)
    (hA : A.frames = some (env :: outer)) (hh : A.handled = none) (hd : A.depth ≤ 800) (hu : A.units ≤ 800)
    (N : News h₀ L s.heap rest) (hl : l.length < 1000)
    (post : ∀ t' h' k, Fr h₀ L h' m → News h₀ L h' rest → Q (.str (tx ((wm l).map (·.1))) t') { s with heap := h', toks := k }) :
    wpAny (model PG w) A (call (.ref 759) [.str (tx l) t]) Q E s := by
  refine wpAny_weak (A' := { handled := none, depth := 800, frames := some (env :: outer), guards := none, units := 800 }) ?_ hh hd hA rfl hu
  have hlen : (tx l).length = l.length := tx_length l
  w_on
  refine wpAny_call ?_
  k_dflt (walk_at "m_enterE")
  k_steps
  · refine callWith_752 ?_
    k_steps
    unfold Halt
    refine' call_752 ?k1 ?k2 ?k3 ?k4 ?k5 ?p0 ?p1
    case k1 => k_asm
    case k2 => k_asm
    case k3 => k_asm
    case k4 => intro h; subst h; simp at hlen; omega
    case k5 => omega
    case p0 =>
      intro hs
      k_steps
      have e := wm_bare (l := l) (by intro h; subst h; simp at hlen; omega) hs
      rw [← congrArg tx e]
      exact post _ _ _ (by k_asm) (by k_asm)
    case p1 =>
      intro hs x h9 F9 N9
      have hr : (Txt.replace (tx l) "'" "'\"'\"'").length ≤ 5000 := by rw [rep_eq, tx_length]; have := rep_len l; omega
      k_steps
      rw [quoted_eq hs]
      exact post _ _ _ (by k_asm) (by k_asm)
  · have e : l = [] := List.eq_nil_of_length_eq_zero (by omega)
    subst e
    rw [show Str.ofString "''" = tx ((wm []).map (·.1)) by decide +kernel]
    exact post _ _ _ (by k_asm) (by k_asm)
end

end
section
section
variable {prog : Program} {w : World} {A : Around}
/-- the element of a generator expression whose turn calls: asked in the very place where it runs -/
def EltC (prog : Program) (w : World) (A : Around) (c : Code) (cenv : Env) (x : Str) (elt : Expr) (fp wr : List Addr) (P : Nat → Value → Prop) (F : Nat → Value → Prop) (href : Heap) : Prop :=
  ∀ E' i v (s₂ : Shared) m₂, P i v → s₂.heap.Ns cenv.locals m₂ → m₂ x = some v → (∀ b ∈ fp, b ∉ wr → ∀ o, href.get? b = some o → s₂.heap.get? b = some o) →
    wpAny (model prog w) (A.over c []) (eval elt cenv) (fun y s₃ => F i y ∧ ∃ h' tk, s₃ = { s₂ with heap := h', toks := tk } ∧ (∀ b o, b ≠ cenv.locals → s₂.heap.get? b = some o → h'.get? b = some o) ∧ h'.Ns cenv.locals m₂) E' s₂
abbrev yes1 : Nat → Bool := fun _ => true
theorem seg_genLoopC {elt iter : Expr} {x : Str} {px : Pos} {scope : Scope} {pos : Pos} {I : Addr} {fp wr : List Addr} {n₀ : Nat} {P : Nat → Value → Prop} {St₀ : Nat → Heap → Prop} {cenv : Env}
    (hh : A.handled = none) (W₀ : ∀ A' : Around, A'.handled = none → Walks prog w A' I fp wr n₀ P St₀) (F : Nat → Value → Prop) (href : Heap)
    (hx : cenv.kindOf x = some .local) (hp : (cenv.scope.kind == .class || (cenv.scope.kind == .module && cenv.locals != cenv.globals)) = false)
    (hco : cenv.scope.isCoroutine = false) (hCf : cenv.locals ∉ fp) (hq : EltC prog w A (.compLoop (.GeneratorExp elt [⟨.Name x px, iter, [], 0⟩] scope pos) 0 (.ref I) .none cenv) cenv x elt fp wr P F href) :
    ∀ (k i : Nat) (s₀ s : Shared) (m : Str → Option Value), n₀ - i = k → i ≤ n₀ → St₀ i s.heap → s.heap.Ns cenv.locals m → GenSince cenv.locals wr s₀ s →
      (∀ b ∈ fp, b ∉ wr → ∀ o, href.get? b = some o → s.heap.get? b = some o) →
      Seg (model prog w) A (fun n s₀ r s₁ => r = .ok .next ∧ (n = 0 ∧ GenSince cenv.locals wr s₀ s₁)) (genProto cenv.locals fp wr yes1 n₀ F) (passing yes1 n₀ i).length s₀
        (.compLoop (.GeneratorExp elt [⟨.Name x px, iter, [], 0⟩] scope pos) 0 (.ref I) .none cenv)
        ((model prog w).den (.compLoop (.GeneratorExp elt [⟨.Name x px, iter, [], 0⟩] scope pos) 0 (.ref I) .none cenv)) [] s := by
  have hh' : (A.over (.compLoop (.GeneratorExp elt [⟨.Name x px, iter, [], 0⟩] scope pos) 0 (.ref I) .none cenv) []).handled = none := hh
  have hCw : cenv.locals ∉ wr := fun h => hCf ((W₀ A hh).sub _ h)
  intro k
  induction k with
  | zero =>
    intro i s₀ s m hk hi hst hn hsince hkp
    have hin : i = n₀ := by omega
    subst hin
    show Seg _ A _ _ _ s₀ _ ((compTurn (.GeneratorExp elt [⟨.Name x px, iter, [], 0⟩] scope pos) 0 (.ref I) .none cenv).onRaise (leaving cenv)) [] s
    rw [compTurn_gen, Sem.onRaise_eq_wrap]
    refine seg_bind_wrap (wpAny_standAt (seg_bind_wrap ((W₀ _ hh').done s _ _ hst fun h' tk hk' => ?_)))
    exact seg_end (.ok .next) ⟨rfl, by rw [passing_end]; rfl, hsince.step fun b o _ hw e => hk' b o hw e⟩
  | succ k ih =>
    intro i s₀ s m hk hi hst hn hsince hkp
    have hlt : i < n₀ := by omega
    show Seg _ A _ _ _ s₀ _ ((compTurn (.GeneratorExp elt [⟨.Name x px, iter, [], 0⟩] scope pos) 0 (.ref I) .none cenv).onRaise (leaving cenv)) [] s
    rw [compTurn_gen, Sem.onRaise_eq_wrap]
    refine seg_bind_wrap (wpAny_standAt (seg_bind_wrap ((W₀ _ hh').item i s _ _ hlt hst fun v h₁ tk₁ hPv hst₁ hk₁ => ?_)))
    refine seg_bind_wrap (wpAny_of_eq (rfl : letOwnedTupleGo (.Name x px) (.ref I) v = pure ()) ?_)
    refine seg_bind_wrap (wpAny_assign_Name (wpAny_storeName_local hx (hn.at' fun o e => hk₁ _ o hCw e) (fun h₂ hn₂ hs₂ => ?_) hp))
    have up₂ : ∀ b o, b ≠ cenv.locals → b ∉ wr → s.heap.get? b = some o → h₂.get? b = some o := fun b o hbC hbw e => hs₂.extBut b o hbC (hk₁ b o hbw e)
    have hst₂ : St₀ (i + 1) h₂ := (W₀ A hh).frame _ _ _ hst₁ fun b hb o e => hs₂.extBut b o (fun h => hCf (h ▸ hb)) e
    have hkp₂ : ∀ b ∈ fp, b ∉ wr → ∀ o, href.get? b = some o → h₂.get? b = some o := fun b hb hbw o e => up₂ b o (fun h => hCf (h ▸ hb)) hbw (hkp b hb hbw o e)
    refine seg_bind_wrap (wpAny_pure (a := true) ?_)
    have hy : ∀ v, yieldOut cenv v = yieldValue v := fun v => by simp only [yieldOut, hco, Bool.false_eq_true, if_false]
    rw [passing_true hlt rfl, List.length_cons]
    simp only [if_true, hy]
    rw [Sem.bind_eq_wrap', Sem.bind_eq_wrap', Sem.wrap_wrap, Sem.wrap_wrap]
    refine seg_wrap (wpAny_mono (hq _ i v _ _ hPv hn₂ (by simp) hkp₂) (fun y s₄ h₄ => ?_) fun _ _ e => e)
    obtain ⟨hFy, h₄, tk₄, rfl, hk₄, hn₄⟩ := h₄
    refine seg_at (seg_yield rfl rfl rfl ⟨⟨i, passing_here hlt rfl, hFy⟩, hsince.step fun b o hbC hbw e => hk₄ b o hbC (up₂ b o hbC hbw e), fun s'' hal => ?_⟩)
    refine seg_again rfl (ih (i + 1) s'' s'' _ (by omega) hlt ((W₀ A hh).frame _ _ _ hst₂ fun b hb o e => hal b (List.mem_cons_of_mem _ hb) o (hk₄ b o (fun h => hCf (h ▸ hb)) e))
      (hn₄.at' fun o e => hal _ (List.mem_cons_self ..) o e) (GenSince.refl _ _ _) fun b hb hbw o e => hal b (List.mem_cons_of_mem _ hb) o (hk₄ b o (fun h => hCf (h ▸ hb)) (hkp₂ b hb hbw o e)))
theorem seg_genStartC {elt iter : Expr} {x : Str} {px : Pos} {scope : Scope} {pos : Pos} {I : Addr} {fp wr : List Addr} {n₀ : Nat} {P : Nat → Value → Prop} {St₀ : Nat → Heap → Prop} {cenv : Env}
    (hh : A.handled = none) (W₀ : ∀ A' : Around, A'.handled = none → Walks prog w A' I fp wr n₀ P St₀) (F : Nat → Value → Prop) (href : Heap)
    (hx : cenv.kindOf x = some .local) (hp : (cenv.scope.kind == .class || (cenv.scope.kind == .module && cenv.locals != cenv.globals)) = false)
    (hco : cenv.scope.isCoroutine = false) (hCf : cenv.locals ∉ fp) (hq : EltC prog w A (.compLoop (.GeneratorExp elt [⟨.Name x px, iter, [], 0⟩] scope pos) 0 (.ref I) .none cenv) cenv x elt fp wr P F href)
    (s₀ s : Shared) (m : Str → Option Value) (hst : St₀ 0 s.heap) (hn : s.heap.Ns cenv.locals m) (hsince : GenSince cenv.locals wr s₀ s)
    (hkp : ∀ b ∈ fp, b ∉ wr → ∀ o, href.get? b = some o → s.heap.get? b = some o) :
    Seg (model prog w) A (fun n s₀ r s₁ => r = .ok .next ∧ (n = 0 ∧ GenSince cenv.locals wr s₀ s₁)) (genProto cenv.locals fp wr yes1 n₀ F) (passing yes1 n₀ 0).length s₀
      (.compStart (.GeneratorExp elt [⟨.Name x px, iter, [], 0⟩] scope pos) 0 (.ref I) .none cenv)
      ((model prog w).den (.compStart (.GeneratorExp elt [⟨.Name x px, iter, [], 0⟩] scope pos) 0 (.ref I) .none cenv)) [] s := by
  have hh' : (A.over (.compStart (.GeneratorExp elt [⟨.Name x px, iter, [], 0⟩] scope pos) 0 (.ref I) .none cenv) []).handled = none := hh
  have loop := seg_genLoopC (iter := iter) (px := px) (scope := scope) (pos := pos) hh W₀ F href hx hp hco hCf hq n₀ 0 s₀ s m (Nat.sub_zero _) (Nat.zero_le _) hst hn hsince hkp
  show Seg _ A _ _ _ s₀ _ ((compStart (.GeneratorExp elt [⟨.Name x px, iter, [], 0⟩] scope pos) 0 (.ref I) .none cenv).onRaise (leaving cenv)) [] s
  unfold compStart
  rw [Sem.onRaise_eq_wrap]
  show Seg _ A _ _ _ s₀ _ ((ask >>= _).wrap _ _ _ _) [] s
  refine seg_bind_wrap (wpAny_askSetting ?_)
  split
  · exact seg_again rfl loop
  · first
      | exact seg_bind_wrap (wpAny_rule (seg_bind_wrap (wpAny_standAt (seg_bind_wrap ((W₀ _ hh').self 0 s _ _ hst (seg_again rfl loop))))))
      | (refine seg_bind_wrap (wpAny_rule ?_); show Seg _ A _ _ _ s₀ _ ((standAt iter.pos >>= _).wrap _ _ _ _) [] s; exact seg_bind_wrap (wpAny_standAt (seg_bind_wrap ((W₀ _ hh').self 0 s _ _ hst (seg_again rfl loop)))))
end
section
variable {prog : Program} {w : World} {A : Around} {E : Value → Shared → Prop} {s : Shared}
theorem genexp_C {env : Env} {elt iter : Expr} {x : Str} {px : Pos} {scope : Scope} {cl : List (Str × Addr)} {pos : Pos} {Q : Value → Shared → Prop}
    (hh : A.handled = none) (hco : scope.isCoroutine = false) (hclos : closureFor scope env = pure cl) (hcell : ∀ y ∈ scope.names, y.2 ≠ .cell) (h0 : scope.names.lookup (".0" : Str) = some NameKind.local)
    (hx : scope.names.lookup x = some .local) (hkind : scope.kind = .function) (hroom : A.depth < recursionLimit)
    (h : wpAny (model prog w) A (eval iter env) (fun xv s₁ => wpAny (model prog w) A (pyIter xv) (fun it s₂ => s₂.heap.NoLimit ∧
      wpAny (model prog w) A (genexprCode env pos (env.qual ++ "<genexpr>") scope) (fun code s₃ => wpAny (model prog w) A (builtinsFor env.globals env.builtins) (fun bi s₄ =>
        ∃ I fp wr n₀ P St₀ F, it = .ref I ∧ (∀ A' : Around, A'.handled = none → Walks prog w A' I fp wr n₀ P St₀) ∧ St₀ 0 s₄.heap ∧ (∀ b ∈ fp, b < s₄.heap.objs.size) ∧ s₄.heap.NoLimit ∧ cStatics ∉ wr ∧
          (∀ href : Heap, (∀ b o, s₄.heap.get? b = some o → href.get? b = some o) →
            EltC prog w A.in4.in1 (.compLoop (.GeneratorExp elt [⟨.Name x px, iter, [], 0⟩] scope pos) 0 (.ref I) .none (genEnv scope cl s₄.heap.objs.size code bi env)) (genEnv scope cl s₄.heap.objs.size code bi env) x elt (List.range s₄.heap.objs.size) wr P F href) ∧
          (∀ a h₅ tk gs, gs.bare = true → s₄.heap.objs.size < a → h₅.objs.size = a + 1 → (∀ b o, s₄.heap.get? b = some o → h₅.get? b = some o) →
            WalksS prog w A.in4 a (a :: s₄.heap.objs.size :: List.range s₄.heap.objs.size) (s₄.heap.objs.size :: wr) (GenOnlyQ s₄.gens.size) (passing yes1 n₀ 0).length
              (fun j y => ∃ i, (passing yes1 n₀ 0)[j]? = some i ∧ F i y) (GenAt prog w A.in4 a s₄.gens.size s₄.heap.objs.size (List.range s₄.heap.objs.size) wr yes1 n₀ F) →
            GenAt prog w A.in4 a s₄.gens.size s₄.heap.objs.size (List.range s₄.heap.objs.size) wr yes1 n₀ F 0 { s₄ with gens := s₄.gens.push gs, toks := tk, heap := h₅ } →
            Q (.ref a) { s₄ with gens := s₄.gens.push gs, toks := tk, heap := h₅ })) E s₃) E s₂) E s₁) E s)
    (hs : ∀ x, genFold iter env x = pure x) :
    wpAny (model prog w) A (eval (.GeneratorExp elt [⟨.Name x px, iter, [], 0⟩] scope pos) env) Q E s := by
  refine wpAny_GeneratorExp_make hco hclos hcell h0 hkind hroom (wpAny_mono h (fun xv s₁ h₁ => wpAny_mono h₁ (fun it s₂ h₂ => ⟨h₂.1, wpAny_mono h₂.2 (fun code s₃ h₃ => wpAny_mono h₃ (fun bi s₄ h₄ => ?_)
    fun _ _ e => e) fun _ _ e => e⟩) fun _ _ e => e) fun _ _ e => e) hs
  obtain ⟨I, fp, wr, n₀, P, St₀, F, rfl, W₀, hst, hfp, hl₄, hcw, hq, hQ⟩ := h₄
  have hclt : cStatics < s₄.heap.objs.size := let ⟨_, hn, _⟩ := hl₄; hn.lt
  intro h' hn' hs'
  have hsz : h'.objs.size = s₄.heap.objs.size + 1 := by rw [hs'.1, Heap.size_push]
  have keep' : ∀ b o, s₄.heap.get? b = some o → h'.get? b = some o := fun b o e => hs'.extBut b o (Nat.ne_of_lt (Heap.lt_size e)) (Heap.get?_push_of_some _ e)
  have hsub : ∀ b ∈ wr, b ∈ List.range s₄.heap.objs.size := fun b hb => List.mem_range.mpr (hfp b ((W₀ A hh).sub b hb))
  have haC : h'.objs.size ≠ s₄.heap.objs.size := by rw [hsz]; exact Nat.succ_ne_self _
  have haf : h'.objs.size ∉ List.range s₄.heap.objs.size := fun hm => by have := List.mem_range.mp hm; omega
  have keep₅ : ∀ o' : Obj, ∀ b o, s₄.heap.get? b = some o → (h'.push o').get? b = some o := fun o' b o e => Heap.get?_push_of_some _ (keep' b o e)
  refine hQ _ _ _ _ rfl (by omega) (by rw [Heap.size_push]) (keep₅ _) (WalksS.genexpQ (A := A.in4) hh _ _ _ _ wr yes1 n₀ F haC haf hsub hroom (List.mem_range.mpr hclt) (Nat.ne_of_lt hclt) hcw) ?_
  have W₁ : ∀ A' : Around, A'.handled = none → Walks prog w A' I (List.range s₄.heap.objs.size) wr n₀ P St₀ := fun A' hA => (W₀ A' hA).mono_fp fun b hb => List.mem_range.mpr (hfp b hb)
  refine ⟨⟨_, _, _, Heap.get?_push_size _ rfl, rfl, rfl, rfl⟩, hl₄.keeps (keep₅ _), _, Array.getElem?_push_size .., fun s'' hal => ⟨rfl, ?_⟩⟩
  refine seg_genStartC (A := A.in4.in1) (cenv := genEnv scope cl s₄.heap.objs.size code bi env) hh W₁ F s₄.heap hx (by simp [genEnv, hkind]) hco (fun hm => Nat.lt_irrefl _ (List.mem_range.mp hm)) (hq _ fun _ _ e => e) s'' s''
    (fun y => if y = ".0" then some (.ref I) else none) ((W₁ A hh).frame _ _ _ ((W₁ A hh).frame _ _ _ hst fun b _ o e => keep₅ _ b o e) fun b hb o e => hal b (List.mem_cons_of_mem _ hb) o e) ((hn'.push _).at' fun o e => hal _ (List.mem_cons_self ..) o e) (GenSince.refl _ _ _)
    fun b hb _ o e => hal b (List.mem_cons_of_mem _ hb) o (keep₅ _ b o e)
end

end
section
section
variable {w : World} {A : Around} {env : Env} {outer : List Env} {A₀ : Around} {base h₀ : Heap} {L : Addr} {m : Str → Option Value} {mean : ExcName → Option Value} {mg mb : Str → Option Value} {s : Shared} {E : Value → Shared → Prop}
/-- all that a heap holds beside h₀ and one address -/
noncomputable def others (h₀ h : Heap) (C : Addr) : List (Addr × Obj) := (List.range h.objs.size).filterMap fun b => match h.get? b with
  | some o => if b ≠ C ∧ h₀.get? b = none then some (b, o) else none
  | none => none
theorem others_mem {h₀ h : Heap} {C b : Addr} {o : Obj} : (b, o) ∈ others h₀ h C ↔ h.get? b = some o ∧ b ≠ C ∧ h₀.get? b = none := by
  unfold others
  rw [List.mem_filterMap]
  constructor
  · rintro ⟨x, hx, e⟩
    cases hg : h.get? x with
    | none => rw [hg] at e; cases e
    | some o' =>
      rw [hg] at e
      dsimp only at e
      split at e
      · rename_i hc
        cases e
        exact ⟨hg, hc⟩
      · cases e
  · rintro ⟨h1, h2⟩
    refine ⟨b, List.mem_range.mpr (Heap.lt_size h1), ?_⟩
    rw [h1]
    dsimp only
    rw [if_pos h2]
theorem others_news {h₀ h : Heap} {C : Addr} : News h₀ C h (others h₀ h C) := fun p hp => by
  obtain ⟨h1, h2, h3⟩ := others_mem.mp hp
  exact ⟨h1, h2, h3⟩
/-- the element quote(arg) -/
theorem elt_quote {l : List Nat} {t : Tok} {np ap pos : Pos} (B : Below A₀ base outer h₀) (F : Fr h₀ L s.heap m) (K : (HK w.params).In h₀) (T : Top VW LS mean mg mb h₀) (hf : env.frame = some L) (hlo : env.locals = L) (hk : env.scope.kind = .function) (hgl : env.globals = mainGlobals)
    (hx : env.kindOf "quote" = some .globalImplicit) (hx2 : env.kindOf "arg" = some .local)
    (hA : A.frames = some (env :: outer)) (hh : A.handled = none) (hd : A.depth ≤ 800) (hu : A.units ≤ 800) (hv : m "arg" = some (.str (tx l) t)) (hl : l.length < 1000) :
    wpAny (model PG w) A (eval (.Call (.Name "quote" np) [.Name "arg" ap] [] pos) env) (fun y s₃ => (∃ t', y = .str (tx ((wm l).map (·.1))) t') ∧ ∃ h' tk, s₃ = { s with heap := h', toks := tk } ∧ (∀ b o, b ≠ L → s.heap.get? b = some o → h'.get? b = some o) ∧ h'.Ns L m) E s := by
  refine wpAny_Call_NameR ?_
  refine Name_function_global hk hx (loadGlobal_global (hgl ▸ (T.g.keeps F.keep)) (mg_of K T.g (v := .ref 759) (by kernel_rfl)) ?_) (by decide)
  refine callWith_K (K := HK w.params) K (by k_is) ?_
  refine spliced_more (wpAny_Name (wpAny_loadName_local hk hx2 (hlo.symm ▸ F.ns) hv (spliced_none ?_)) (by decide))
  refine ⟨K.keeps F.keep, ?_⟩
  refine c_quote B F K T hf hk hA hh hd hu others_news hl fun t' h' k F' N' => ?_
  refine ⟨⟨t', rfl⟩, h', k, rfl, fun b o hb e => ?_, F'.ns⟩
  cases hg : h₀.get? b with
  | some o' =>
    have := F.keep b o' hg
    rw [e] at this
    cases this
    exact F'.keep b o hg
  | none => exact N'.get (others_mem.mpr ⟨e, hb, hg⟩)
end
noncomputable abbrev jRet : Expr := by
  refine (fun (b : Expr) (_ : (match b_join with | [.Return (some e) _] => e | _ => .Constant .none 0 ⟨0, 0, 0, 0⟩) = b) => b) ?b ?h
  case h => (conv => lhs; whnf)
noncomputable abbrev geJ : Expr := by
  refine (fun (b : Expr) (_ : (match jRet with | .Call _ [e] _ _ => e | _ => .Constant .none 0 ⟨0, 0, 0, 0⟩) = b) => b) ?b ?h
  case h => (conv => lhs; whnf)
noncomputable abbrev jenv (L : Addr) : Env := envOf "join" s_join L 751 (.ref 750)
theorem over_ge {A : Around} {l : List Env} {elt : Expr} {gs : List Comprehension} {scope : Scope} {pos : Pos} {it acc : Value} {env : Env} (h : A.frames = some l) :
    (A.over (.compLoop (.GeneratorExp elt gs scope pos) 0 it acc env) []).frames = some (env :: l) ∧ (A.over (.compLoop (.GeneratorExp elt gs scope pos) 0 it acc env) []).depth = A.depth + 1 ∧
      (A.over (.compLoop (.GeneratorExp elt gs scope pos) 0 it acc env) []).units = A.units + 3 := by
  unfold Around.over
  refine ⟨?_, rfl, rfl⟩
  dsimp only
  rw [h]
  rfl
/-- the table record of join's code -/
def TabO (op : Obj) : Prop := ∃ ps, op = tabObj ps ∧ TriplesOk ps.toList
theorem genCodeT {M : Model} {A : Around} {E : Value → Shared → Prop} {s : Shared} {env : Env} {c P : Addr} {ps : Array Value} {pos : Pos} {qualname : Str} {scope : Scope} {Q : Value → Shared → Prop} (hc : env.code = .ref c) (hok : s.heap.IsCode c P ps) (htab : s.heap.TableAt c P ps)
    (hQ : ∀ code h' tk ps', Heap.ExtBut P s.heap h' → h'.IsCode c P ps' → h'.TableAt c P ps' → Q code { s with heap := h', toks := tk }) : wpAny M A (genexprCode env pos qualname scope) Q E s := by
  cases hnf : codeAmong pos ps.toList with
  | some cv => exact wpAny_genexprCode_hit hc hok hnf (hQ cv s.heap s.toks ps (Heap.ExtBut.refl _ _) hok htab)
  | none => exact wpAny_genexprCodeX hc hok htab hnf fun c' h' tk e1 _ _ e2 _ e3 _ => hQ _ _ _ _ e1 e2 e3
/-- a generator over the words at W stands at a -/
def JGen (w : World) (A : Around) (g : Heap) (L : Addr) (m : Str → Option Value) (nW : List (Addr × Obj)) (rest : List (Addr × Obj)) (ws : List (List Nat)) (s : Shared) (a : Addr) (s₅ : Shared) : Prop :=
  ∃ C I gi fp op', WalksS PG w A.in4 a (a :: C :: fp) (C :: [I]) (GenOnlyQ gi) (passing yes1 ws.length 0).length (fun j y => ∃ i, (passing yes1 ws.length 0)[j]? = some i ∧ ∃ l t', ws[i]? = some l ∧ y = .str (tx ((wm l).map (·.1))) t')
      (GenAt PG w A.in4 a gi C fp [I] yes1 ws.length (fun i y => ∃ l t', ws[i]? = some l ∧ y = .str (tx ((wm l).map (·.1))) t')) ∧
    GenAt PG w A.in4 a gi C fp [I] yes1 ws.length (fun i y => ∃ l t', ws[i]? = some l ∧ y = .str (tx ((wm l).map (·.1))) t') 0 s₅ ∧
    Fr g L s₅.heap m ∧ News g L s₅.heap (nW ++ (746, op') :: rest) ∧ TabO op' ∧ AllBare s₅.gens ∧ s₅.drawn = s.drawn ∧ s₅.os = s.os ∧
    (∀ b ∈ a :: C :: fp, b < s₅.heap.objs.size) ∧ s.heap.objs.size ≤ C ∧ s.heap.objs.size ≤ I
section
variable {w : World} {A : Around} {outer : List Env} {A₀ : Around} {base g : Heap} {L : Addr} {m : Str → Option Value} {mean : ExcName → Option Value} {mg mb : Str → Option Value} {s : Shared} {Q E : Value → Shared → Prop} {rest : List (Addr × Obj)}
theorem join_gen {W : Addr} {vs : List Value} {c : Nat} {op : Obj} {ws : List (List Nat)} (B : Below A₀ base outer g) (F : Fr g L s.heap m) (K : (HK w.params).In g) (T : Top VW LS mean mg mb g)
    (hA : A.frames = some (jenv L :: outer)) (hh : A.handled = none) (hd : A.depth ≤ 750) (hu : A.units ≤ 750)
    (N : News g L s.heap ((W, lo vs c) :: (746, op) :: rest)) (hW : m "split_command" = some (.ref W)) (htab : TabO op) (hT : Texts vs ws) (hlen : ∀ l ∈ ws, l.length < 1000)
    (hne : W ≠ 746) (hr : ∀ q ∈ rest, q.1 ≠ 746)
    (G : AllBare s.gens) (post : ∀ a s₅, JGen w A g L m [(W, lo vs c)] rest ws s a s₅ → Q (.ref a) s₅) :
    wpAny (model PG w) A (eval geJ (jenv L)) Q E s := by
  obtain ⟨ps, rfl, htr⟩ := htab
  have st : g.StaysIn (hideAll s.heap [746]) := fun b o e => hideAll_get _ (F.keep b o e) (by
    intro h
    rw [List.mem_singleton.mp h] at e
    rw [(N (746, tabObj ps) (.tail _ (.head _))).2.2] at e
    cases e)
  have hL : L ≠ 746 := fun h => (N (746, tabObj ps) (.tail _ (.head _))).2.1 h.symm
  refine genexp_C (cl := []) hh rfl rfl (by decide) (by decide) (by decide) rfl (Nat.lt_of_le_of_lt hd (by decide)) ?_ (fun _ => rfl)
  refine wpAny_Name (wpAny_loadName_local rfl rfl F.ns hW ?_) (by decide)
  have hlist : s.heap.IsList W vs.toArray := ⟨_, N.get (.head _), rfl, _, rfl⟩
  refine wpAny_pyIter_list hlist ?_
  refine ⟨(T.nolimit.keeps F.keep).keeps fun b o e => Heap.get?_push_of_some _ e, ?_⟩
  have hok : (s.heap.push { cls := .type "list_iterator", data := .fields #[.ref W, .int 0 0] }).IsCode 750 746 ps :=
    ⟨o750 w.params, _, "/claim/cut.py", 1243, 3, 0, true, 318, 0, tabObj ps, Heap.get?_push_of_some _ (K.keeps F.keep 750 _ (by kernel_rfl)), rfl, rfl, rfl, rfl, rfl, rfl, Heap.get?_push_of_some _ (N.get (.tail _ (.head _))), rfl, htr, by decide⟩
  have htabA : (s.heap.push { cls := .type "list_iterator", data := .fields #[.ref W, .int 0 0] }).TableAt 750 746 ps :=
    ⟨⟨o750 w.params, _, Heap.get?_push_of_some _ (K.keeps F.keep 750 _ (by kernel_rfl)), rfl, rfl, rfl⟩, Heap.get?_push_of_some _ (N.get (.tail _ (.head _)))⟩
  refine genCodeT rfl hok htabA fun code h2 tk2 ps2 ext hok2 htab2 => ?_
  have sk : ∀ b o, b ≠ 746 → s.heap.get? b = some o → h2.get? b = some o := fun b o hb e => ext b o hb (Heap.get?_push_of_some _ e)
  have gk : ∀ b o, g.get? b = some o → h2.get? b = some o := fun b o e => sk b o (fun h => by
    rw [h, (N (746, tabObj ps) (.tail _ (.head _))).2.2] at e
    cases e) (F.keep b o e)
  obtain ⟨bm, ob, e1, e2, e3, e4, e5, e6⟩ := T.bmain
  refine wpAny_builtinsFor (T.g.keeps gk) e1 e2 (gk _ _ e3) e4 e5 e6 ?_
  have hlt : W < s.heap.objs.size := Heap.lt_size (N.get (.head _))
  have hI2 : h2.get? s.heap.objs.size = some { cls := .type "list_iterator", data := .fields #[.ref W, .int 0 0] } := ext _ _ (Nat.ne_of_gt (Heap.lt_size (N.get (.tail _ (.head _))))) (Heap.get?_push_size _ rfl)
  have hW2 : h2.get? W = some (lo vs c) := sk _ _ hne (N.get (.head _))
  have hlt2 : s.heap.objs.size < h2.objs.size := Heap.lt_size hI2
  refine ⟨s.heap.objs.size, [s.heap.objs.size, W], [s.heap.objs.size], vs.toArray.size, fun i v => vs.toArray[i]? = some v, fun i h => h.IsListIter s.heap.objs.size W i ∧ h.IsList W vs.toArray, fun i y => ∃ l t', ws[i]? = some l ∧ y = .str (tx ((wm l).map (·.1))) t', rfl,
    fun A' hA' => Walks.list hA' _ W (Nat.ne_of_lt hlt) vs.toArray, ⟨⟨_, hI2, rfl, rfl⟩, ⟨_, hW2, rfl, _, rfl⟩⟩, ?_, T.nolimit.keeps gk, ?_, ?_, ?_⟩
  · intro b hb
    rcases List.mem_cons.mp hb with rfl | hb
    · exact hlt2
    · rw [List.mem_singleton.mp hb]; exact Nat.lt_trans hlt hlt2
  · intro hm
    obtain ⟨mc, hn, _⟩ := T.nolimit.keeps F.keep
    have := hn.lt
    rw [List.mem_singleton.mp hm] at this
    exact Nat.lt_irrefl _ this
  · intro href hsub E' i v s₂ m₂ hP hn hm hkp
    obtain ⟨us, hu1, rfl⟩ := hT
    have hP' : ((ws.zip us).map fun p => Value.str (tx p.1) p.2)[i]? = some v := by simpa using hP
    rw [List.getElem?_map] at hP'
    obtain ⟨⟨l, t⟩, hz, rfl⟩ := Option.map_eq_some_iff.mp hP'
    have hl : ws[i]? = some l := (List.getElem?_zip_eq_some.mp hz).1
    have keep : ∀ b o, (hideAll s.heap [746]).get? b = some o → s₂.heap.get? b = some o := fun b o e => by
      have e1 := of_hideAll _ e
      have hb : b ≠ 746 := fun h => by rw [h, hideAll_none _ (.head _)] at e; cases e
      have hlb := Heap.lt_size e1
      exact hkp b (List.mem_range.mpr (Nat.lt_trans hlb hlt2)) (fun h => Nat.lt_irrefl _ ((List.mem_singleton.mp h) ▸ hlb)) o (hsub b o (sk b o hb e1))
    obtain ⟨oL, es, ep, hLo, hLd, hLr⟩ := F.ns
    have nb : base.get? L = none := by
      cases q : base.get? L with
      | none => rfl
      | some o => exact absurd (Nat.lt_of_lt_of_le (Heap.lt_size (B.stays L o q)) F.above) (Nat.lt_irrefl _)
    have Bq : Below A base (jenv L :: outer) (hideAll s.heap [746]) := ⟨hA, fun b o e => st b o (B.stays b o e), (by show ScopeKind.function ≠ .module; decide), ⟨L, oL, rfl, nb, hideAll_get _ hLo (fun h => hL (List.mem_singleton.mp h)), fun vs q => by rw [hLd] at q; cases q⟩, B.frames.of_keeps fun b o e _ => ⟨o, st b o e, rfl⟩⟩
    have Fq : Fr (hideAll s.heap [746]) h2.objs.size s₂.heap m₂ := ⟨hn, keep, by rw [hideAll_size]; exact Nat.le_of_lt hlt2⟩
    refine wpAny_mono (elt_quote (l := l) (t := t) Bq Fq (K.keeps st) (T.keeps st) rfl rfl rfl rfl rfl rfl ?_ hh ?_ ?_ hm (hlen l (List.mem_of_getElem? hl))) (fun y s₃ h => ?_) fun _ _ e => e
    · exact (over_ge (A := A.in4.in1) hA).1
    · rw [(over_ge (A := A.in4.in1) hA).2.1]
      show A.depth + 1 ≤ 800
      omega
    · rw [(over_ge (A := A.in4.in1) hA).2.2]
      show A.units + 1 + 1 + 1 + 1 + 1 + 3 ≤ 800
      omega
    · obtain ⟨⟨t', rfl⟩, h⟩ := h
      exact ⟨⟨l, t', hl, rfl⟩, h⟩
  · intro a h₅ tk gs hb hlt5 hsz hk W₅ G₅
    have hn : vs.toArray.size = ws.length := by rw [List.size_toArray]; exact hT.length
    rw [hn] at W₅ G₅
    obtain ⟨_, _, _, _, _, _, _, _, _, op2, _, _, _, _, _, _, _, _, _, htr2, _⟩ := hok2
    have hop2 := htab2.2
    have F5 : Fr g L h₅ m := by
      obtain ⟨oL, es, ep, hLo, hLr⟩ := F.ns
      exact ⟨⟨oL, es, ep, hk _ _ (sk _ _ hL hLo), hLr⟩, fun b o e => hk b o (gk b o e), F.above⟩
    refine post a _ ⟨h2.objs.size, s.heap.objs.size, s.gens.size, List.range h2.objs.size, tabObj ps2, W₅, G₅, F5, ?_, ⟨ps2, rfl, htr2⟩, G.push hb, rfl, rfl, ?_, Nat.le_of_lt hlt2, Nat.le_refl _⟩
    · intro p hp
      rcases List.mem_cons.mp hp with rfl | hp
      · exact ⟨hk _ _ hW2, (N (W, lo vs c) (.head _)).2⟩
      · rcases List.mem_cons.mp hp with rfl | hp
        · exact ⟨hk _ _ hop2, (N (746, tabObj ps) (.tail _ (.head _))).2⟩
        · have := N p (.tail _ (.tail _ hp))
          exact ⟨hk _ _ (sk _ _ (hr p hp) this.1), this.2⟩
    · intro b hb
      show b < h₅.objs.size
      rw [hsz]
      rcases List.mem_cons.mp hb with rfl | hb
      · exact Nat.lt_succ_self _
      · rcases List.mem_cons.mp hb with rfl | hb
        · exact Nat.lt_succ_of_lt hlt5
        · exact Nat.lt_succ_of_lt (Nat.lt_trans (List.mem_range.mp hb) hlt5)
end

end
section
theorem passing_yes (n : Nat) : passing yes1 n 0 = List.range n := by simp [passing, yes1]
theorem join_marks : ∀ ws : List (List Nat), Txt.join " " (ws.map fun l => tx ((wm l).map (·.1))) = tx ((mk ws).map (·.1)) := by
  have hr : ∀ (ws : List (List Nat)) (x : List Nat), Str.join " " (tx x :: ws.map fun l => tx ((wm l).map (·.1))) = tx (x ++ (mkR ws).map (·.1)) := by
    intro ws
    induction ws with
    | nil => intro x; simp [mkR]; rfl
    | cons l ws ih =>
      intro x
      show tx x ++ Str.ofString " " ++ Str.join " " (tx _ :: _) = _
      rw [ih, show Str.ofString " " = tx [32] by decide +kernel, tx_append, tx_append]
      simp [mkR]
  intro ws
  show Builtin.Str.glued _ _ = _
  rw [StrLaws.glued_eq_join]
  cases ws with
  | nil => rfl
  | cons l ws => rw [List.map_cons, hr]; simp [mk]
theorem wm_len (l : List Nat) : ((wm l).map (·.1)).length ≤ 5 * l.length + 2 := by
  unfold wm
  split
  · simp; omega
  · rw [List.map_cons, List.map_append, qm_map]
    have := rep_len l
    simp
    omega
theorem fold_bound (sep : Str) (M : Nat) : ∀ (l : List Str) (a : Nat), (∀ x ∈ l, x.length ≤ M) → l.foldl (fun r x => r + x.length + sep.length) a ≤ a + l.length * (M + sep.length) := by
  intro l
  induction l with
  | nil => intro a _; simp
  | cons x l ih =>
    intro a h
    have h1 := ih (a + x.length + sep.length) fun y hy => h y (.tail _ hy)
    have h2 := h x (.head _)
    rw [List.foldl_cons, List.length_cons, Nat.succ_mul]
    omega
theorem join_ok (ws : List (List Nat)) (hws : ws.length < 1000) (hlen : ∀ l ∈ ws, l.length < 1000) : JoinOk " " (ws.map fun l => tx ((wm l).map (·.1))) = true := by
  have h1 : ∀ x ∈ ws.map (fun l => tx ((wm l).map (·.1))), x.length ≤ 5000 := fun x hx => by
    obtain ⟨l, hl, rfl⟩ := List.mem_map.mp hx
    rw [tx_length]
    have := wm_len l
    have := hlen l hl
    omega
  have h2 := fold_bound " " 5000 _ 0 h1
  have h3 : (Str.ofString " ").length = 1 := by decide +kernel
  rw [List.length_map] at h2
  unfold JoinOk
  rw [List.foldl_toArray]
  have h4 : ws.length * (5000 + 1) ≤ 1000 * 5001 := Nat.mul_le_mul (by omega) (by omega)
  have h5 : sizeLine = 16777216 := sizeLine_eq
  rw [show (5000 + (Str.ofString " ").length) = 5001 by rw [h3]] at h2
  show (!decide (_ > sizeLine)) = true
  rw [decide_eq_false]
  · rfl
  · show ¬ (List.foldl (fun r x => r + Str.length x + Str.length (Str.ofString " ")) 0 _ > sizeLine)
    omega
section
variable {w : World} {A : Around} {g : Heap} {L : Addr} {m : Str → Option Value} {s s₅ : Shared} {Q E : Value → Shared → Prop} {rest nW : List (Addr × Obj)}
theorem join_call {a : Addr} {ws : List (List Nat)} {t : Tok} (hh : A.handled = none) (J : JGen w A g L m nW rest ws s a s₅) (hF : Fr g L s.heap m) (hN : ∀ p ∈ nW ++ rest, p.1 < s.heap.objs.size) (h746 : 746 < s.heap.objs.size)
    (hws : ws.length < 1000) (hlen : ∀ l ∈ ws, l.length < 1000)
    (post : ∀ t' op' h' k gens', Fr g L h' m → News g L h' (nW ++ (746, op') :: rest) → TabO op' → AllBare gens' → Q (.str (tx ((mk ws).map (·.1))) t') { s with heap := h', toks := k, gens := gens' }) :
    wpAny (model PG w) A (call (.builtin "str.join") [.str " " t, .ref a]) Q E s₅ := by
  obtain ⟨C, I, gi, fp, op', W, G, F, N, htab, hb, hdr, hos, hfp, hC, hI⟩ := J
  refine SC.joinGen W.in4_2 (fun i s st => ?_) G hfp (.head _) (fun i v hv => ?_) (fun s' lt hm hacc => ?_) ?_
  · exact st.1.typeIs
  · obtain ⟨_, _, l, t', _, rfl⟩ := hv
    exact ⟨_, _, rfl⟩
  · rw [passing_yes] at hacc
    have hsz : lt.length = ws.length := by simpa [strValues] using hacc.1
    have hl : lt.map (·.1) = ws.map fun l => tx ((wm l).map (·.1)) := by
      apply List.ext_getElem?
      intro j
      by_cases hj : j < lt.length
      · obtain ⟨i, hi, l, t', h1, h2⟩ := hacc.2 j (.str lt[j].1 lt[j].2) (by simp [strValues, List.getElem?_eq_getElem hj])
        rw [List.getElem?_range (by omega)] at hi
        obtain rfl := Option.some.inj hi
        injection h2 with h3 _
        rw [List.getElem?_map, List.getElem?_map, h1, List.getElem?_eq_getElem hj, Option.map_some, Option.map_some, h3]
      · rw [List.getElem?_eq_none (by simpa using Nat.le_of_not_lt hj), List.getElem?_eq_none (by simp; omega)]
    rw [hl, join_marks]
    have off : ∀ b, b < s.heap.objs.size → b ∉ C :: [I] := fun b hb hm => by
      rcases List.mem_cons.mp hm with rfl | hm
      · exact Nat.lt_irrefl _ (Nat.lt_of_lt_of_le hb hC)
      · rw [List.mem_singleton.mp hm] at hb
        exact Nat.lt_irrefl _ (Nat.lt_of_lt_of_le hb hI)
    refine ⟨join_ok ws hws hlen, fun t' k => ?_⟩
    have e : ({ s' with toks := k } : Shared) = { s with heap := s'.heap, toks := k, gens := s'.gens } := by
      have h1 := hm.drawn.trans hdr
      have h2 := hm.os.trans hos
      obtain ⟨a1, a2, a3, a4, a5⟩ := s'
      dsimp only at h1 h2 ⊢
      rw [h1, h2]
    rw [e]
    obtain ⟨oL, es, ep, hLo, hLr⟩ := F.ns
    refine post t' op' s'.heap k s'.gens ⟨⟨oL, es, ep, hm.heap _ _ (off L hF.ns.lt) hLo, hLr⟩, fun b o e => hm.heap b o (off b (Nat.lt_of_lt_of_le (Nat.lt_of_lt_of_le (Heap.lt_size e) F.above) (Nat.le_of_lt hF.ns.lt))) (F.keep b o e), F.above⟩ (fun p hp => ?_) htab (hm.gens.bare hb)
    have hlt : p.1 < s.heap.objs.size := by
      rcases List.mem_append.mp hp with h | h
      · exact hN p (List.mem_append_left _ h)
      · rcases List.mem_cons.mp h with rfl | h
        · exact h746
        · exact hN p (List.mem_append_right _ h)
    exact ⟨hm.heap _ _ (off _ hlt) (N p hp).1, (N p hp).2⟩
  · rw [passing_yes, List.length_range, sizeLine_eq]; omega
end

end
section
section
variable {w : World} {A : Around} {cn : Str} {cs : Scope} {a : Addr} {ccd : Value} {cl : List (Str × Addr)} {outer : List Env} {A₀ : Around} {base h₀ : Heap} {L : Addr} {m : Str → Option Value} {mean : ExcName → Option Value} {mg mb : Str → Option Value} {s : Shared} {Q E : Value → Shared → Prop} {rest : List (Addr × Obj)}
local macro_rules | `(tactic| walk_at "eval GeneratorExp") => `(tactic| (refine halt_ ?_))
theorem c_join {W : Addr} {vs : List Value} {c : Nat} {op : Obj} {ws : List (List Nat)} (B : Below A₀ base outer h₀) (F : Fr h₀ L s.heap m) (K : (HK w.params).In h₀) (T : Top VW LS mean mg mb h₀) (hk : cs.kind = .function)
    (hA : A.frames = some (envX cn cs L a ccd cl :: outer)) (hh : A.handled = none) (hd : A.depth ≤ 700) (hu : A.units ≤ 700)
    (N : News h₀ L s.heap ((W, lo vs c) :: (746, op) :: rest)) (hT : Texts vs ws) (htab : TabO op) (hws : ws.length < 1000) (hlen : ∀ l ∈ ws, l.length < 1000) (hne : W ≠ 746) (hr : ∀ q ∈ rest, q.1 ≠ 746) (G : AllBare s.gens)
    (post : ∀ t' op' h' k gens', Fr h₀ L h' m → News h₀ L h' ((W, lo vs c) :: (746, op') :: rest) → TabO op' → AllBare gens' → Q (.str (tx ((mk ws).map (·.1))) t') { s with heap := h', toks := k, gens := gens' }) :
    wpAny (model PG w) A (call (.ref 751) [.ref W]) Q E s := by
  refine wpAny_weak (A' := ktrTop 700 700 none cn cs L a ccd cl outer) ?_ hh hd hA rfl hu
  w_on
  refine wpAny_call ?_
  k_dflt (walk_at "m_enter")
  k_steps
  unfold Halt
  rename_i g' L' h' FG' F' N' B' X' T'
  refine join_gen (outer := envX cn cs L a ccd cl :: outer) B' F' X' T' rfl rfl (Nat.le_of_ble_eq_true rfl) (Nat.le_of_ble_eq_true rfl) N' rfl htab hT hlen hne hr G fun b s5 J => ?_
  refine spliced_none ?_
  refine join_call rfl J F' (fun p hp => ?_) (Heap.lt_size (N'.get (.tail _ (.head _)))) hws hlen fun t' op' h2 k2 gens' F2 N2 ht2 G2 => ?_
  · rcases List.mem_cons.mp hp with rfl | hp
    · exact Heap.lt_size (N'.get (.head _))
    · exact Heap.lt_size (N'.get (.tail _ (.tail _ hp)))
  · exact leaveK_ F2 N2 fun F3 N3 => post t' op' h2 k2 gens' F3 N3 ht2 G2
end

end
section
/- loops whose turns change a ledger -/
def Hlt (P : Prop) : Prop := P
theorem hlt_ {P : Prop} (h : Hlt P) : P := h
/-- these are lists and tuples -/
def LT (n : List (Addr × Obj)) : Prop := ∀ q ∈ n, q.2.cls = .type "list" ∨ q.2.cls = .type "tuple"
theorem LT.nil : LT [] := fun _ hq => nomatch hq
theorem LT.list {a : Addr} {vs : List Value} {c : Nat} {n : List (Addr × Obj)} (h : LT n) : LT ((a, lo vs c) :: n) := List.forall_mem_cons.mpr ⟨.inl rfl, h⟩
theorem LT.tup {a : Addr} {d : Option Addr} {o : Data} {sl : Array (Option Value)} {n : List (Addr × Obj)} (h : LT n) : LT ((a, ⟨.type "tuple", d, o, sl⟩) :: n) := List.forall_mem_cons.mpr ⟨.inr rfl, h⟩
theorem LT.append {n k : List (Addr × Obj)} (h : LT n) (h2 : LT k) : LT (n ++ k) := fun q hq => (List.mem_append.mp hq).elim (h q) (h2 q)
/-- how a turn ends -/
def TurnEnd (h₀ : Heap) (L : Addr) (Q : Flow → Shared → Prop) (J : (Str → Option Value) → List (Addr × Obj) → Prop) (rest' : List (Addr × Obj)) (s : Shared) (f : Flow) (s' : Shared) : Prop :=
  match f with
  | .ret v => Q (.ret v) s'
  | .brk => Q .next s'
  | _ => ∃ h' tk m' nx, s' = { s with heap := h', toks := tk } ∧ Fr h₀ L h' m' ∧ News h₀ L h' (nx ++ rest') ∧ LT nx ∧ J m' nx
theorem TurnEnd.next {h₀ : Heap} {L : Addr} {Q : Flow → Shared → Prop} {J : (Str → Option Value) → List (Addr × Obj) → Prop} {rest' nx : List (Addr × Obj)} {s : Shared} {h' : Heap} {tk : Nat} {m' : Str → Option Value}
    (F : Fr h₀ L h' m') (N : News h₀ L h' (nx ++ rest')) (lt : LT nx) (j : J m' nx) : TurnEnd h₀ L Q J rest' s .next { s with heap := h', toks := tk } := ⟨h', tk, m', nx, rfl, F, N, lt, j⟩
theorem TurnEnd.next1 {h₀ : Heap} {L : Addr} {Q : Flow → Shared → Prop} {J : (Str → Option Value) → List (Addr × Obj) → Prop} {rest' : List (Addr × Obj)} {a : Addr} {vs : List Value} {c : Nat} {s : Shared} {h' : Heap} {tk : Nat} {m m' : Str → Option Value}
    (F : Fr h₀ L h' m) (N : News h₀ L h' ((a, lo vs c) :: rest')) (e : m = m') (j : J m' [(a, lo vs c)]) : TurnEnd h₀ L Q J rest' s .next { s with heap := h', toks := tk } := ⟨h', tk, m', _, rfl, e ▸ F, N, LT.nil.list, j⟩
theorem news_sub {h₀ h : Heap} {L : Addr} {n n' : List (Addr × Obj)} (N : News h₀ L h n) (k : ∀ q ∈ n', q ∈ n) : News h₀ L h n' := fun p hp => N p (k p hp)
/-- two of the ledger of two classes lie apart -/
theorem news_cls {h₀ h : Heap} {L a b : Addr} {o o' : Obj} {n : List (Addr × Obj)} (N : News h₀ L h n) (h1 : (a, o) ∈ n) (h2 : (b, o') ∈ n) (hc : o.cls ≠ o'.cls) : a ≠ b := fun e => by
  have e1 := (N _ h1).1
  have e2 := (N _ h2).1
  dsimp only at e1 e2
  rw [e, e2] at e1
  exact hc (congrArg Obj.cls (Option.some.inj e1.symm))
section
variable {w : World} {A : Around} {E : Value → Shared → Prop} {s : Shared} {env : Env} {h₀ : Heap} {x : Str} {body : List Stmt} {Q : Flow → Shared → Prop} {rest led₀ : List (Addr × Obj)} {m₀ : Str → Option Value}
theorem step_of {I : Addr} {own : List (Addr × Obj)} {J : (Str → Option Value) → List (Addr × Obj) → Prop} {h₁ : Heap} {tk : Nat} {f : Flow} {s₂ : Shared} {oI : Obj}
    (hrI : ∀ q ∈ rest, q.1 ≠ I) (hoI : (I, oI) ∈ own) (hcl : oI.cls ≠ .type "list" ∧ oI.cls ≠ .type "tuple")
    (p : TurnEnd h₀ env.locals Q J (rest ++ own) s f s₂) :
    LoopStepV h₀ env.locals [I] own (fun m n => ∃ led, n = led ++ rest ∧ J m led) { s with heap := h₁, toks := tk } (fun v s' => Q (.ret v) s') (fun s' => Q .next s') f s₂ := by
  have fin : (∃ h' tk m' nx, s₂ = { s with heap := h', toks := tk } ∧ Fr h₀ env.locals h' m' ∧ News h₀ env.locals h' (nx ++ (rest ++ own)) ∧ LT nx ∧ J m' nx) →
      LoopStepU h₀ env.locals [I] own (fun m n => ∃ led, n = led ++ rest ∧ J m led) { s with heap := h₁, toks := tk } .next s₂ := by
    rintro ⟨h', tk', m', nx, e, F', N', lt, hj⟩
    refine ⟨rfl, h', tk', m', nx ++ rest, e, F', fun p hp => N' p ?_, fun p hp hI => ?_, nx, rfl, hj⟩
    · simp only [List.mem_append] at hp ⊢
      rcases hp with h | h | h <;> simp [h]
    · have hI := List.mem_singleton.mp hI
      rcases List.mem_append.mp hp with h | h
      · refine news_cls (a := p.1) (o := p.2) (b := I) (o' := oI) N' (List.mem_append_left _ h) (List.mem_append_right _ (List.mem_append_right _ hoI)) (fun q => ?_) hI
        rcases lt p h with k | k
        · exact hcl.1 (q ▸ k)
        · exact hcl.2 (q ▸ k)
      · exact hrI p h hI
  cases f with
  | ret v => exact .ret p
  | brk => exact .brk p
  | next => exact .next (fin p)
  | cont => exact .cont (fin p)
theorem loop_w {I : Addr} {fp : List Addr} {n : Nat} {P : Nat → Value → Prop} {St : Nat → Heap → Prop} (adr : List Addr) (J : Nat → (Str → Option Value) → List (Addr × Obj) → Prop)
    (W : Walks PG w A I fp [I] n P St) (hst : St 0 s.heap) (hcls : ∀ i h, St i h → ∃ o, h.get? I = some o ∧ o.cls ≠ .type "list" ∧ o.cls ≠ .type "tuple") (hL : env.locals ∉ fp) (hI : h₀.get? I = none)
    (F : Fr h₀ env.locals s.heap m₀) (N : News h₀ env.locals s.heap (led₀ ++ rest)) (hrI : ∀ q ∈ led₀ ++ rest, q.1 ≠ I) (hra : ∀ q ∈ rest, q.1 ∉ adr) (hfa : ∀ b ∈ fp, b ∉ adr) (h0 : J 0 m₀ led₀)
    (turn : ∀ i v m₁ led h tk rest', i < n → P i v → J i m₁ led → (∀ q ∈ rest', q.1 ∉ adr) → (∀ q ∈ rest, q ∈ rest') → Fr h₀ env.locals h (fun y => if y = x then some v else m₁ y) → News h₀ env.locals h (led ++ rest') →
      wpAny (model PG w) A (execs body env) (TurnEnd h₀ env.locals Q (J (i + 1)) rest' s) E { s with heap := h, toks := tk })
    (done : ∀ m₁ led h tk, J n m₁ led → Fr h₀ env.locals h m₁ → News h₀ env.locals h (led ++ rest) → Q .next { s with heap := h, toks := tk }) :
    LoopAtV PG w A h₀ env x body Q E (.ref I) s := by
  refine ⟨I, fp, [I], n, P, St, m₀, led₀ ++ rest, fun i m nw => ∃ led, nw = led ++ rest ∧ J i m led, rfl, W, hL, fun b hb => by rw [List.mem_singleton.mp hb]; exact hI, fun p hp q => hrI p hp (List.mem_singleton.mp q), hst, F, N, ⟨led₀, rfl, h0⟩, ?_, ?_⟩
  · rintro i v m₁ news₁ s₁ own ⟨h₁, tk, rfl⟩ hin hP ⟨led, rfl, hJ⟩ hoff hown _ hall hst' F₁ N₁
    obtain ⟨oI, hoI, hcl⟩ := hcls _ _ hst'
    have hmI : (I, oI) ∈ own := hall I (W.sub I (.head _)) hI oI hoI
    refine wpAny_mono (turn i v m₁ led h₁ tk (rest ++ own) hin hP hJ (fun q hq => ?_) (fun q hq => List.mem_append_left _ hq) F₁ (news_sub N₁ fun q hq => ?_)) (fun f s₂ p => step_of (fun q hq => hrI q (List.mem_append_right _ hq)) hmI hcl p) fun _ _ e => e
    · rcases List.mem_append.mp hq with h | h
      · exact hra q h
      · exact hfa _ (hown q h)
    · simp only [List.mem_append] at hq ⊢
      rcases hq with h | h | h <;> simp [h]
  · rintro h' tk m' news' F' N' _ ⟨led, rfl, hJ⟩
    exact done m' led h' tk hJ F' N'
theorem iter_lst {l : Addr} {vs : List Value} {c : Nat} (adr : List Addr) (J : Nat → (Str → Option Value) → List (Addr × Obj) → Prop) (hh : A.handled = none) (F : Fr h₀ env.locals s.heap m₀) (N : News h₀ env.locals s.heap (led₀ ++ rest)) (hl : (l, lo vs c) ∈ rest)
    (hra : ∀ q ∈ rest, q.1 ∉ adr) (hlt : ∀ b ∈ adr, b < s.heap.objs.size) (h0 : J 0 m₀ led₀)
    (turn : ∀ i v m₁ led h tk rest', vs[i]? = some v → J i m₁ led → (∀ q ∈ rest', q.1 ∉ adr) → (∀ q ∈ rest, q ∈ rest') → Fr h₀ env.locals h (fun y => if y = x then some v else m₁ y) → News h₀ env.locals h (led ++ rest') →
      wpAny (model PG w) A (execs body env) (TurnEnd h₀ env.locals Q (J (i + 1)) rest' s) E { s with heap := h, toks := tk })
    (done : ∀ m₁ led h tk, J vs.length m₁ led → Fr h₀ env.locals h m₁ → News h₀ env.locals h (led ++ rest) → Q .next { s with heap := h, toks := tk }) :
    wpAny (model PG w) A (pyIter (.ref l)) (fun it s₂ => LoopAtV PG w A h₀ env x body Q E it s₂) E s := by
  have hlm := N (l, lo vs c) (List.mem_append_right _ hl)
  have hls : s.heap.IsList l vs.toArray := ⟨_, hlm.1, rfl, _, rfl⟩
  have hlt' : l < s.heap.objs.size := Heap.lt_size hlm.1
  refine wpAny_pyIter_list hls ?_
  have W := Walks.list (prog := PG) (w := w) hh s.heap.objs.size l (Nat.ne_of_lt hlt') vs.toArray
  rw [List.size_toArray] at W
  refine loop_w (s := { s with heap := s.heap.push _ }) adr J W ⟨⟨_, Heap.get?_push_size _ rfl, rfl, rfl⟩, hls.at fun o e => Heap.get?_push_of_some _ e⟩ ?_ ?_ (next_is_new F) (F.push _) (fun p hp => ⟨Heap.get?_push_of_some _ (N p hp).1, (N p hp).2⟩) (fun q hq => Nat.ne_of_lt (Heap.lt_size (N q hq).1)) hra ?_ h0 ?_ ?_
  · rintro i h ⟨⟨o, ho, hc, _⟩, _⟩
    exact ⟨o, ho, by rw [hc]; decide, by rw [hc]; decide⟩
  · intro hm
    rcases List.mem_cons.mp hm with e | hm
    · exact absurd F.ns.lt (e ▸ Nat.lt_irrefl _)
    · exact hlm.2.1 (List.mem_singleton.mp hm).symm
  · intro b hb
    rcases List.mem_cons.mp hb with rfl | hb
    · exact fun h => Nat.lt_irrefl _ (hlt _ h)
    · rw [List.mem_singleton.mp hb]; exact hra _ hl
  · intro i v m₁ led h tk rest' _ hP hJ h1 h2 F₁ N₁
    exact turn i v m₁ led h tk rest' (by simpa using hP) hJ h1 h2 F₁ N₁
  · exact done
theorem iter_range {a c : Int} {n : Nat} (adr : List Addr) (J : Nat → (Str → Option Value) → List (Addr × Obj) → Prop) (hh : A.handled = none) {I : Addr} (F : Fr h₀ env.locals s.heap m₀) (N : News h₀ env.locals s.heap (led₀ ++ rest)) (hst : IsRangeIter s.heap I (a + ((0 : Nat) : Int) * c) ((n : Int) - ((0 : Nat) : Int)) c)
    (hIL : I ≠ env.locals) (hI : h₀.get? I = none) (hrI : ∀ q ∈ led₀ ++ rest, q.1 ≠ I) (hra : ∀ q ∈ rest, q.1 ∉ adr) (hIa : I ∉ adr) (h0 : J 0 m₀ led₀)
    (turn : ∀ i t m₁ led h tk rest', i < n → J i m₁ led → (∀ q ∈ rest', q.1 ∉ adr) → (∀ q ∈ rest, q ∈ rest') → Fr h₀ env.locals h (fun y => if y = x then some (.int (a + i * c) t) else m₁ y) → News h₀ env.locals h (led ++ rest') →
      wpAny (model PG w) A (execs body env) (TurnEnd h₀ env.locals Q (J (i + 1)) rest' s) E { s with heap := h, toks := tk })
    (done : ∀ m₁ led h tk, J n m₁ led → Fr h₀ env.locals h m₁ → News h₀ env.locals h (led ++ rest) → Q .next { s with heap := h, toks := tk }) :
    LoopAtV PG w A h₀ env x body Q E (.ref I) s := by
  refine loop_w adr J (Walks.range (prog := PG) (w := w) hh I a c n) hst ?_ (fun h => hIL (List.mem_singleton.mp h).symm) hI F N hrI hra (fun b hb => by rw [List.mem_singleton.mp hb]; exact hIa) h0 ?_ done
  · intro i h st
    exact ⟨_, st, (by show Value.type "range_iterator" ≠ _; decide), (by show Value.type "range_iterator" ≠ _; decide)⟩
  · rintro i v m₁ led h tk rest' hi ⟨t, rfl⟩ hJ h1 h2 F₁ N₁
    exact turn i t m₁ led h tk rest' hi hJ h1 h2 F₁ N₁
theorem iter_rng {r : Addr} {n : Nat} {t u v : Tok} (adr : List Addr) (J : Nat → (Str → Option Value) → List (Addr × Obj) → Prop) (hh : A.handled = none) (F : Fr h₀ env.locals s.heap m₀) (N : News h₀ env.locals s.heap (led₀ ++ rest)) (hr : IsRange s.heap r 0 (n : Int) 1 t u v) (hn : n ≤ 100000)
    (hra : ∀ q ∈ rest, q.1 ∉ adr) (hlt : ∀ b ∈ adr, b < s.heap.objs.size) (h0 : J 0 m₀ led₀)
    (turn : ∀ (i : Nat) t m₁ led h tk rest', i < n → J i m₁ led → (∀ q ∈ rest', q.1 ∉ adr) → (∀ q ∈ rest, q ∈ rest') → Fr h₀ env.locals h (fun y => if y = x then some (.int (i : Int) t) else m₁ y) → News h₀ env.locals h (led ++ rest') →
      wpAny (model PG w) A (execs body env) (TurnEnd h₀ env.locals Q (J (i + 1)) rest' s) E { s with heap := h, toks := tk })
    (done : ∀ m₁ led h tk, J n m₁ led → Fr h₀ env.locals h m₁ → News h₀ env.locals h (led ++ rest) → Q .next { s with heap := h, toks := tk }) :
    wpAny (model PG w) A (pyIter (.ref r)) (fun it s₂ => LoopAtV PG w A h₀ env x body Q E it s₂) E s := by
  refine wpAny_pyIter_range hr (small_one (by omega) (by omega) (by omega) (by omega)) ?_
  have hsz : Builtin.Range.rangeSize 0 (n : Int) 1 = (n : Int) := by
    unfold Builtin.Range.rangeSize
    rw [if_pos (by decide)]
    split
    · rw [Int.ediv_one]; omega
    · omega
  refine iter_range (s := { s with heap := s.heap.push _ }) (a := 0) (c := 1) (n := n) adr J hh (F.push _) (fun p hp => ⟨Heap.get?_push_of_some _ (N p hp).1, (N p hp).2⟩) ?_ ?_ (next_is_new F) (fun q hq => Nat.ne_of_lt (Heap.lt_size (N q hq).1)) hra ?_ h0 ?_ done
  · rw [hsz]
    simpa using Heap.get?_push_size _ rfl
  · exact (Nat.ne_of_lt F.ns.lt).symm
  · exact fun h => Nat.lt_irrefl _ (hlt _ h)
  · intro i t m₁ led h tk rest' hi hJ h1 h2 F₁ N₁
    rw [show (0 : Int) + (i : Int) * 1 = (i : Int) by omega] at F₁
    exact turn i t m₁ led h tk rest' hi hJ h1 h2 F₁ N₁
theorem iter_str {l : List Nat} {t : Tok} (adr : List Addr) (J : Nat → (Str → Option Value) → List (Addr × Obj) → Prop) (hh : A.handled = none) (F : Fr h₀ env.locals s.heap m₀) (N : News h₀ env.locals s.heap (led₀ ++ rest))
    (hra : ∀ q ∈ rest, q.1 ∉ adr) (hlt : ∀ b ∈ adr, b < s.heap.objs.size) (h0 : J 0 m₀ led₀)
    (turn : ∀ i c u m₁ led h tk rest', l[i]? = some c → J i m₁ led → (∀ q ∈ rest', q.1 ∉ adr) → (∀ q ∈ rest, q ∈ rest') → Fr h₀ env.locals h (fun y => if y = x then some (.str (tx [c]) u) else m₁ y) → News h₀ env.locals h (led ++ rest') →
      wpAny (model PG w) A (execs body env) (TurnEnd h₀ env.locals Q (J (i + 1)) rest' s) E { s with heap := h, toks := tk })
    (done : ∀ m₁ led h tk, J l.length m₁ led → Fr h₀ env.locals h m₁ → News h₀ env.locals h (led ++ rest) → Q .next { s with heap := h, toks := tk }) :
    wpAny (model PG w) A (pyIter (.str (tx l) t)) (fun it s₂ => LoopAtV PG w A h₀ env x body Q E it s₂) E s := by
  have key : ∀ (o : Obj) (St : Nat → Heap → Prop), Walks PG w A s.heap.objs.size [s.heap.objs.size] [s.heap.objs.size] (tx l).cps.size (SignAt (tx l)) St → St 0 (s.heap.push o) → (∀ i h, St i h → ∃ o, h.get? s.heap.objs.size = some o ∧ o.cls ≠ .type "list" ∧ o.cls ≠ .type "tuple") →
      LoopAtV PG w A h₀ env x body Q E (.ref s.heap.objs.size) { s with heap := s.heap.push o } := by
    intro o St W hst hc
    have hsz : (tx l).cps.size = l.length := by simp [tx]
    rw [hsz] at W
    refine loop_w (s := { s with heap := s.heap.push o }) adr J W hst hc ?_ (next_is_new F) (F.push _) (fun p hp => ⟨Heap.get?_push_of_some _ (N p hp).1, (N p hp).2⟩) (fun q hq => Nat.ne_of_lt (Heap.lt_size (N q hq).1)) hra ?_ h0 ?_ ?_
    · intro hm
      exact absurd F.ns.lt ((List.mem_singleton.mp hm) ▸ Nat.lt_irrefl _)
    · intro b hb h
      rw [List.mem_singleton.mp hb] at h
      exact Nat.lt_irrefl _ (hlt _ h)
    · rintro i v m₁ led h tk rest' _ ⟨c, u, hc', rfl⟩ hJ h1 h2 F₁ N₁
      exact turn i c u m₁ led h tk rest' (by simpa [tx] using hc') hJ h1 h2 F₁ N₁
    · exact done
  cases ha : (tx l).cps.all (· < 128)
  · refine wpAny_pyIter_wide ha (key _ _ (Walks.strWide hh _ (tx l) t) ⟨_, Heap.get?_push_size _ rfl, rfl, rfl⟩ ?_)
    rintro i h ⟨o, ho, hc, _⟩
    exact ⟨o, ho, by rw [hc]; decide, by rw [hc]; decide⟩
  · refine wpAny_pyIter_ascii ha (key _ _ (Walks.strAscii hh _ (tx l) t) ⟨_, Heap.get?_push_size _ rfl, rfl, rfl⟩ ?_)
    rintro i h ⟨o, ho, hc, _⟩
    exact ⟨o, ho, by rw [hc]; decide, by rw [hc]; decide⟩
end
theorem allLt_mem {d : Nat} {l : List (Addr × Obj)} (h : AllLt d l) : ∀ p ∈ l, p.1 < d := by
  induction l with
  | nil => intro p hp; cases hp
  | cons q r ih =>
    have h : @_root_.LT.lt Nat _ q.1 d ∧ AllLt d r := h
    intro p hp
    rcases List.mem_cons.mp hp with e | hp
    · rw [e]; exact h.1
    · exact ih h.2 p hp
/-- a frame's names -/
def mp : List (Str × Option Value) → Str → Option Value
  | [], _ => none
  | (k, v) :: r, y => if y = k then v else mp r y
def AllK : List Str → (Str → Prop) → Prop
  | [], _ => True
  | k :: r, P => P k ∧ AllK r P
theorem AllK.mem {P : Str → Prop} : ∀ {ks : List Str}, AllK ks P → ∀ k ∈ ks, P k
  | _ :: _, h, _, .head _ => h.1
  | _ :: _, h, k, .tail _ hk => AllK.mem h.2 k hk
theorem fun_on (ks : List Str) {m m' : Str → Option Value} (off : ∀ y, y ∉ ks → m y = m' y) (on : AllK ks fun k => m k = m' k) : m = m' := funext fun y => by
  by_cases h : y ∈ ks
  · exact on.mem y h
  · exact off y h
theorem str_inj (a b : String) : (Str.ofString a = Str.ofString b) = (a = b) := propext ⟨fun h => by
  rw [Str.ofString_eq_toList, Str.ofString_eq_toList] at h
  injection h with h
  have h2 : a.toList.map Char.toNat = b.toList.map Char.toNat := by simpa using congrArg Array.toList h
  have h3 : a.toList = b.toList := by
    have inj : ∀ x y : Char, x.toNat = y.toNat → x = y := fun x y e => Char.ext (UInt32.toNat_inj.mp e)
    generalize a.toList = la at h2 ⊢
    generalize b.toList = lb at h2 ⊢
    induction la generalizing lb with
    | nil => cases lb with | nil => rfl | cons _ _ => cases h2
    | cons x la ih =>
      cases lb with
      | nil => cases h2
      | cons y lb =>
        simp only [List.map_cons, List.cons.injEq] at h2
        rw [inj x y h2.1, ih lb h2.2]
  exact String.toList_inj.mp h3, fun h => by rw [h]⟩
theorem lkp1 (y k : Str) (v : Value) : List.lookup y [(k, v)] = if y = k then some v else none := by
  by_cases h : y = k
  · subst h; simp [List.lookup]
  · have : (y == k) = false := beq_false_of_ne h
    simp [List.lookup, this, h]
theorem lkpN {y k : Str} {v : Value} (h : ¬ y = k) : List.lookup y [(k, v)] = none := by
  rw [lkp1, if_neg h]
theorem frM {h₀ h : Heap} {L : Addr} {m m' : Str → Option Value} (F : Fr h₀ L h m) (e : m = m') : Fr h₀ L h m' := e ▸ F
theorem whl_split {b : Bool} {T F : Prop} (t : b = true → T) (f : b = false → F) : WhlIf b T F := by
  cases b
  · exact WhlIf.no rfl (f rfl)
  · exact WhlIf.yes rfl (t rfl)
theorem append_L {w : World} {A : Around} {E : Value → Shared → Prop} {s : Shared} {h₀ : Heap} {L D : Addr} {m : Str → Option Value} {news news' : List (Addr × Obj)} {vs : List Value} {c : Nat} {x : Value} {Q : Value → Shared → Prop} (F : Fr h₀ L s.heap m) (N : News h₀ L s.heap news)
    (U : Upd D (lo vs c) (lo (vs ++ [x]) (c + 1)) news news') (hsz : vs.length ≤ 100000) (h : ∀ h', Fr h₀ L h' m → News h₀ L h' news' → Q .none { s with heap := h' }) : wpAny (model PG w) A (call (.builtin "list.append") [.ref D, x]) Q E s := by
  have e : lo (vs ++ [x]) (c + 1) = W.listOf (vs.toArray.push x) (c + 1) := by simp [lo, W.listOf]
  rw [e] at U
  exact append_K (its := vs.toArray) F N U h (by rw [sizeLine_eq, List.size_toArray]; omega)
theorem extend_L {w : World} {A : Around} {E : Value → Shared → Prop} {s : Shared} {h₀ : Heap} {L D b : Addr} {m : Str → Option Value} {news news' : List (Addr × Obj)} {vs ys : List Value} {c k : Nat} {Q : Value → Shared → Prop} (F : Fr h₀ L s.heap m) (N : News h₀ L s.heap news) (hb : (b, lo ys k) ∈ news)
    (U : Upd D (lo vs c) (lo (vs ++ ys) (c + 1)) news news') (hne : ys.length ≠ 0) (hsz : vs.length ≤ 100000) (hsy : ys.length ≤ 1000) (h : ∀ h', Fr h₀ L h' m → News h₀ L h' news' → Q .none { s with heap := h' }) : wpAny (model PG w) A (call (.builtin "list.extend") [.ref D, .ref b]) Q E s := by
  refine kl_extend (its := vs.toArray) (its2 := ys.toArray) (l := vs ++ ys) F N hb rfl hne U ?_ ?_ ?_ h
  · intro hc
    simp only [Bool.and_eq_true] at hc
    have := hc.2
    unfold Builtin.List.listTooLong at this
    simp only [List.size_toArray, decide_eq_true_eq] at this
    have h9 : sizeLine = 16777216 := sizeLine_eq
    omega
  · rw [sizeLine_eq]; show vs.length ≤ _; omega
  · rw [sizeLine_eq]; simp only [List.size_toArray]; omega
theorem get_at {w : World} {A : Around} {E : Value → Shared → Prop} {s : Shared} {h₀ : Heap} {L D : Addr} {news : List (Addr × Obj)} {vs : List Value} {c i : Nat} {x : Value} {u : Tok} {value slice : PySem.Expr} {Q : Value → Shared → Prop} (N : News h₀ L s.heap news) (hm : (D, lo vs c) ∈ news) (hx : vs[i]? = some x) (hi : i ≤ 100000) (h : Q x s)
    (hs : subscripted slice false (.ref D) (.int (i : Int) u) = operate [.ref D, .int (i : Int) u] (getItem (.ref D) (.int (i : Int) u)) := by with_unfolding_all rfl) :
    wpAny (model PG w) A (subscriptTail value slice (.ref D) (.int (i : Int) u)) Q E s := by
  have hl : s.heap.IsList D vs.toArray := ⟨_, N.get hm, rfl, _, rfl⟩
  exact tail_any hl.typeIs slot_list_getitem.lookup (wpAny_getItem_list hl (by omega) (by omega) (by simpa using hx) h) hs

end
section
section
variable {w : World} {A : Around} {cn : Str} {cs : Scope} {a : Addr} {ccd : Value} {cl : List (Str × Addr)} {outer : List Env} {A₀ : Around} {base h₀ : Heap} {L : Addr} {m : Str → Option Value} {mean : ExcName → Option Value} {mg mb : Str → Option Value} {s : Shared} {Q E : Value → Shared → Prop} {rest : List (Addr × Obj)}
/-- a code point that is no surrogate -/
def CpOk (c : Nat) : Prop := c < 55296 ∨ (57344 ≤ c ∧ c < 1114112)
theorem sign_item {d : Int} (h0 : 0 < d) (h1 : d < 16) : ∃ c, CpOk c ∧ Txt.item (Str.ofString "aZ9_'\"\\ \t\n#$@-é") (d - 1) = tx [c] := by
  have h : d = 1 ∨ d = 2 ∨ d = 3 ∨ d = 4 ∨ d = 5 ∨ d = 6 ∨ d = 7 ∨ d = 8 ∨ d = 9 ∨ d = 10 ∨ d = 11 ∨ d = 12 ∨ d = 13 ∨ d = 14 ∨ d = 15 := by omega
  rcases h with rfl | rfl | rfl | rfl | rfl | rfl | rfl | rfl | rfl | rfl | rfl | rfl | rfl | rfl | rfl
  · exact ⟨97, .inl (by decide), by decide +kernel⟩
  · exact ⟨90, .inl (by decide), by decide +kernel⟩
  · exact ⟨57, .inl (by decide), by decide +kernel⟩
  · exact ⟨95, .inl (by decide), by decide +kernel⟩
  · exact ⟨39, .inl (by decide), by decide +kernel⟩
  · exact ⟨34, .inl (by decide), by decide +kernel⟩
  · exact ⟨92, .inl (by decide), by decide +kernel⟩
  · exact ⟨32, .inl (by decide), by decide +kernel⟩
  · exact ⟨9, .inl (by decide), by decide +kernel⟩
  · exact ⟨10, .inl (by decide), by decide +kernel⟩
  · exact ⟨35, .inl (by decide), by decide +kernel⟩
  · exact ⟨36, .inl (by decide), by decide +kernel⟩
  · exact ⟨64, .inl (by decide), by decide +kernel⟩
  · exact ⟨45, .inl (by decide), by decide +kernel⟩
  · exact ⟨233, .inl (by decide), by decide +kernel⟩
theorem c_sign {d : Int} {t : Tok} (B : Below A₀ base outer h₀) (F : Fr h₀ L s.heap m) (X : (HK w.params).In h₀) (T : Top VW LS mean mg mb h₀) (hk : cs.kind = .function)
    (hA : A.frames = some (envX cn cs L a ccd cl :: outer)) (hh : A.handled = none) (hd : A.depth ≤ 800) (hu : A.units ≤ 800)
    (N : News h₀ L s.heap rest) (h0 : 0 < d) (h1 : d < 1112080)
    (post : ∀ c t' h' k, CpOk c → Fr h₀ L h' m → News h₀ L h' rest → Q (.str (tx [c]) t') { s with heap := h', toks := k }) :
    wpAny (model PG w) A (call (.ref 773) [.int d t]) Q E s := by
  refine wpAny_weak (A' := ktrTop 800 800 none cn cs L a ccd cl outer) ?_ hh hd hA rfl hu
  w_on
  refine wpAny_call ?_
  k_dflt (walk_at "m_enter")
  k_steps
  · obtain ⟨c, hc, e⟩ := sign_item h0 (by assumption)
    rw [e]
    exact post c _ _ _ hc (by k_asm) (by k_asm)
  · exact post _ _ _ _ (.inr (by omega)) (by k_asm) (by k_asm)
  · exact post _ _ _ _ (.inl (by omega)) (by k_asm) (by k_asm)
end

end
section
/-- the digits so far, at most k -/
structure DgOk (ds : List Value) (ms : List Int) (k : Nat) : Prop where
  nums : IntsAre ds ms
  ok : ∀ d ∈ ms, 0 ≤ d ∧ d < 1112080
  len : ms.length ≤ k
theorem DgOk.snoc {ds : List Value} {ms : List Int} {k : Nat} {x : Int} {t : Tok} (h : DgOk ds ms k) : DgOk (ds ++ [.int (x.fmod 1112080) t]) (ms ++ [x.fmod 1112080]) (k + 1) := by
  refine ⟨h.nums.append (.cons _ _ .nil), fun d hd => ?_, ?_⟩
  · rcases List.mem_append.mp hd with hd | hd
    · exact h.ok d hd
    · rw [List.mem_singleton.mp hd, Int.fmod_eq_emod_of_nonneg _ (by decide)]
      omega
  · have := h.len
    simp
    omega
theorem DgOk.mono {ds : List Value} {ms : List Int} {k k' : Nat} (h : DgOk ds ms k) (hk : k ≤ k') : DgOk ds ms k' := ⟨h.nums, h.ok, Nat.le_trans h.len hk⟩
section
variable {w : World} {A : Around} {cn : Str} {cs : Scope} {a : Addr} {ccd : Value} {cl : List (Str × Addr)} {outer : List Env} {A₀ : Around} {base h₀ : Heap} {L : Addr} {m : Str → Option Value} {mean : ExcName → Option Value} {mg mb : Str → Option Value} {s : Shared} {Q E : Value → Shared → Prop} {rest : List (Addr × Obj)}
local macro_rules | `(tactic| walk_at "pyIter ref") => `(tactic| (refine hlt_ ?_))
local macro_rules | `(tactic| walk_at "exec For Name Subscript cons nil") => `(tactic| (k_here; (rename Fr _ _ _ _ => lF'); (with_unfolding_all refine' For_invVF lF' ?k1 ?k2 ?_; (case k1 => exact rfl); (case k2 => exact rfl); k_whole)))
local macro_rules | `(tactic| walk_at "exec While Compare cons nil") => `(tactic| (k_here; k_dflt (refine whl_start 4 ?_)))
local macro_rules | `(tactic| walk_at "WhlIf") => `(tactic| (first | (refine WhlIf.no (by (simp only [decide_eq_false_iff_not, Int.fdiv_eq_ediv_of_nonneg _ (show (0 : Int) ≤ 1112080 by decide)]; omega)) ?_) | (refine whl_split (fun hw => ?_) (fun hw => ?_))))
local macro_rules | `(tactic| walk_at "m_map") => `(tactic| (refine fun_on ["script", "digits", "x"] (fun y hy => by (simp only [List.mem_cons, List.not_mem_nil, or_false, not_or] at hy; simp only [mp, hy, if_false]; try ((with_unfolding_all refine lkpN ?_); simp only [hy, not_false_eq_true]))) ?_; (repeat' (first | exact True.intro | (refine And.intro (by with_unfolding_all rfl) ?_)))))
local macro_rules | `(tactic| walk_at "call builtin:list.append") => `(tactic| (k_here; k_dflt (refine' append_L ?k1 ?k2 ?k3 ?z ?_; (case k1 => k_asm); (case k2 => k_asm); (case k3 => k_upd); (case z => ((try simp only [List.length_append, List.length_cons, List.length_nil]); omega)); k_whole); intro h' F' N'; (try k_sweep)))
theorem c_digits {S : Addr} {vs : List Value} {ns : List Int} (B : Below A₀ base outer h₀) (F : Fr h₀ L s.heap m) (X : (HK w.params).In h₀) (T : Top VW LS mean mg mb h₀) (hk : cs.kind = .function)
    (hA : A.frames = some (envX cn cs L a ccd cl :: outer)) (hh : A.handled = none) (hd : A.depth ≤ 700) (hu : A.units ≤ 700)
    (N : News h₀ L s.heap rest) (hl : h₀.IsList S vs.toArray) (hi : IntsAre vs ns) (hlen : ns.length ≤ 63)
    (post : ∀ D ds c' ms h' k, (∀ q ∈ rest, q.1 < D) → IntsAre ds ms → (∀ d ∈ ms, 0 ≤ d ∧ d < 1112080) → ms.length ≤ 60 → Fr h₀ L h' m → News h₀ L h' ((D, lo ds c') :: rest) → Q (.ref D) { s with heap := h', toks := k }) :
    wpAny (model PG w) A (call (.ref 766) [.ref S]) Q E s := by
  refine wpAny_weak (A' := ktrTop 700 700 none cn cs L a ccd cl outer) ?_ hh hd hA rfl hu
  w_on
  refine wpAny_call ?_
  k_dflt (walk_at "m_enter")
  rename_i g' L' h' FG' F' N' B' X' T'
  have hl' : g'.IsList S vs.toArray := hl.at fun o e => FG'.keep _ _ e
  clear hl F N
  k_steps
  unfold Hlt
  rename_i l0 ha l1 hb D9 ws9 h9 F9 N9 hI' hC' hL' l9
  refine iter_lst (led₀ := [(l0, lo [] 0)]) (rest := (D9, lo ws9 0) :: rest) [l0] (fun i m₁ led => ∃ xo ds c ms, m₁ = mp [("x", xo), ("digits", some (.ref l0)), ("script", some (.ref S))] ∧ led = [(l0, lo ds c)] ∧ DgOk ds ms (3 * i))
    rfl (frM F9 (by walk_at "m_map")) ?_ (.head _) ?_ ?_ ⟨none, [], 0, [], rfl, rfl, .nil, (fun d hd => nomatch hd), Nat.le_refl _⟩ ?_ ?_
  · exact news_sub N9 fun q hq => by
      simp only [List.cons_append, List.nil_append, List.mem_cons] at hq ⊢
      rcases hq with h | h | h <;> simp [h]
  · intro q hq hm
    rw [List.mem_singleton] at hm
    rcases List.mem_cons.mp hq with rfl | hq
    · exact absurd l9.1 (by rw [show D9 = l0 from hm]; exact Nat.lt_irrefl _)
    · exact absurd (l1 q hq) (by rw [hm]; exact Nat.lt_irrefl _)
  · intro b hb
    rw [List.mem_singleton.mp hb]
    exact Heap.lt_size (N9.get (.tail _ (.head _)))
  · rintro i v m₁ led h tk rest' hv ⟨xo, ds, c, ms, rfl, rfl, hD⟩ hr1 hr2 F₁ N₁
    obtain ⟨n, t, rfl, hn⟩ := hI'.at i v hv
    have hr : ∀ q ∈ rest', q.1 ≠ l0 := fun q hq e => hr1 q hq (by rw [e]; exact .head _)
    have hi20 : i < 20 := by
      have := (List.getElem?_eq_some_iff.mp hn).1
      rw [List.length_take] at this
      omega
    have hdl := hD.nums.length
    have hln := hD.len
    dsimp only [List.cons_append, List.nil_append] at N₁
    clear F9 N9 hI' hC' hL' l9 l1 hr1 hr2 hi hl'
    have hM : ((1112080 : Int) ^ Int.toNat 3) = 1375333719910912000 := by decide
    have hX0 : 0 ≤ n.fmod (1112080 ^ Int.toNat 3) := by rw [hM, Int.fmod_eq_emod_of_nonneg _ (by decide)]; omega
    have hX1 : n.fmod (1112080 ^ Int.toNat 3) < 1375333719910912000 := by rw [hM, Int.fmod_eq_emod_of_nonneg _ (by decide)]; omega
    k_steps
    · exact .next1 (by k_asm) (by k_asm) (by walk_at "m_map") ⟨_, _, _, _, rfl, rfl, hD.snoc.snoc.snoc⟩
    · exact .next1 (by k_asm) (by k_asm) (by walk_at "m_map") ⟨_, _, _, _, rfl, rfl, hD.snoc.snoc.mono (by omega)⟩
    · exact .next1 (by k_asm) (by k_asm) (by walk_at "m_map") ⟨_, _, _, _, rfl, rfl, hD.snoc.mono (by omega)⟩
  · rintro m₁ led h tk ⟨xo, ds, c, ms, rfl, rfl, hD⟩ F₁ N₁
    have hwl := hI'.length
    have hdl := hD.len
    dsimp only [List.cons_append, List.nil_append] at N₁
    clear F9 N9
    k_steps
    rename_i kF kN kT kX
    refine post l0 ds c ms _ _ l1 hD.nums hD.ok ?_ kF (news_sub kN fun q hq => ?_)
    · rw [hC'] at hwl
      omega
    · rcases List.mem_cons.mp hq with rfl | hq
      · exact .head _
      · exact .tail _ (.tail _ hq)
end

end
section
section
variable {w : World} {A : Around} {E : Value → Shared → Prop} {s : Shared} {h₀ : Heap} {L D a b : Addr} {m : Str → Option Value} {news news' : List (Addr × Obj)} {vs : List Value} {c k : Nat} {x v : Value} {u : Tok}
theorem ki_last (vs : List Value) (x v : Value) : ki_setL (vs ++ [x]) vs.length v = some (vs ++ [v]) := by
  induction vs with
  | nil => rfl
  | cons y vs ih =>
    show (match ki_setL (vs ++ [x]) vs.length v with | some q => some (y :: q) | none => none) = _
    rw [ih]; rfl
theorem get_last {value slice : PySem.Expr} {Q : Value → Shared → Prop} (N : News h₀ L s.heap news) (hm : (D, lo (vs ++ [x]) c) ∈ news) (h : Q x s)
    (hs : subscripted slice false (.ref D) (.int (-1) u) = operate [.ref D, .int (-1) u] (getItem (.ref D) (.int (-1) u)) := by with_unfolding_all rfl) :
    wpAny (model PG w) A (subscriptTail value slice (.ref D) (.int (-1) u)) Q E s := by
  have hl : s.heap.IsList D (vs ++ [x]).toArray := ⟨_, N.get hm, rfl, _, rfl⟩
  refine tail_any hl.typeIs slot_list_getitem.lookup (wpAny_getItem_list_neg hl (by decide) ?_ (by decide) ?_ h) hs
  · simp; omega
  · have : ((-1 : Int) + ((vs ++ [x]).toArray.size : Int)).toNat = vs.length := by simp; omega
    rw [this]; simp
theorem set_last {Q : Unit → Shared → Prop} (F : Fr h₀ L s.heap m) (N : News h₀ L s.heap news) (U : Upd D (lo (vs ++ [x]) c) (lo (vs ++ [v]) c) news news') (h : ∀ h', Fr h₀ L h' m → News h₀ L h' news' → Q () { s with heap := h' }) :
    wpAny (model PG w) A (setItem (.ref D) (.int (-1) u) v) Q E s :=
  ki_setNeg (its := (vs ++ [x]).toArray) (j := vs.length) (q := vs ++ [v]) F N (by decide) (by decide) (by
    rw [seqIndex_neg (by decide) (by simp; omega)]
    simp; omega) (by simpa using ki_last vs x v) U h
theorem str_ok {l : List Nat} (h : ∀ c ∈ l, CpOk c) : PyData.strOk (tx l) = true := by
  unfold PyData.strOk tx
  simp only [List.all_toArray, List.all_eq_true, decide_eq_true_eq]
  intro c hc
  rcases h c hc with h | h <;> omega
theorem Texts.dat {ws : List (List Nat)} (h : Texts vs ws) : DatAll news vs (ws.map fun l => .str (tx l)) := by
  obtain ⟨us, hu, rfl⟩ := h
  induction ws generalizing us with
  | nil => exact .nil
  | cons l ws ih =>
    cases us with
    | nil => cases hu
    | cons u us => exact .cons (.str _ _) (ih us (by simpa using hu))
theorem texts_ok {ws : List (List Nat)} (h : ∀ l ∈ ws, ∀ c ∈ l, CpOk c) : ∀ d ∈ ws.map (fun l => Dat.str (tx l)), kqdOk 8 d = true := fun d hd => by
  obtain ⟨l, hl, rfl⟩ := List.mem_map.mp hd
  exact str_ok (h l hl)
theorem eq_nil_yes {Q : Value → Shared → Prop} (N : News h₀ L s.heap news) (ma : (a, lo [] c) ∈ news) (mb : (b, lo [] k) ∈ news) (hu : A.units + 64 < cLine) (h : Q (.bool true) s) : wpAny (model PG w) A (compareOp .Eq (.ref a) (.ref b)) Q E s :=
  kqd_eq N ma rfl rfl (.nil (news := [])) (fun _ h => nomatch h) mb rfl rfl (.nil (news := [])) (fun _ h => nomatch h) (fun _ h => nomatch h) (fun _ h => nomatch h) hu (by rw [decide_eq_true rfl]; exact h)
theorem eq_nil_no {ws : List (List Nat)} {Q : Value → Shared → Prop} (N : News h₀ L s.heap news) (ma : (a, lo (vs ++ [x]) c) ∈ news) (hT : Texts (vs ++ [x]) ws) (hok : ∀ l ∈ ws, ∀ c ∈ l, CpOk c) (mb : (b, lo [] k) ∈ news) (hu : A.units + 64 < cLine) (h : Q (.bool false) s) :
    wpAny (model PG w) A (compareOp .Eq (.ref a) (.ref b)) Q E s :=
  kqd_eq N ma rfl rfl (hT.dat (news := [])) (fun _ h => nomatch h) mb rfl rfl (.nil (news := [])) (fun _ h => nomatch h) (texts_ok hok) (fun _ h => nomatch h) hu (by
    rw [decide_eq_false]
    · exact h
    · intro e
      have := hT.length
      rw [List.map_eq_nil_iff.mp e] at this
      simp at this)
theorem eq_nil_any {ws : List (List Nat)} {Q : Value → Shared → Prop} (N : News h₀ L s.heap news) (ma : (a, lo vs c) ∈ news) (hT : Texts vs ws) (hok : ∀ l ∈ ws, ∀ c ∈ l, CpOk c) (mb : (b, lo [] k) ∈ news) (hu : A.units + 64 < cLine) (h : Q (.bool ws.isEmpty) s) :
    wpAny (model PG w) A (compareOp .Eq (.ref a) (.ref b)) Q E s :=
  kqd_eq N ma rfl rfl (hT.dat (news := [])) (fun _ h => nomatch h) mb rfl rfl (.nil (news := [])) (fun _ h => nomatch h) (texts_ok hok) (fun _ h => nomatch h) hu (by
    have e : ∀ (p : Decidable (ws.map (fun l => Dat.str (tx l)) = [])), @decide _ p = ws.isEmpty := fun p => by
      cases ws with
      | nil => exact decide_eq_true rfl
      | cons l ws => exact decide_eq_false (by simp)
    rw [e]
    exact h)
theorem Texts.last {vs : List Value} {ws : List (List Nat)} {l : List Nat} (h : Texts vs (ws ++ [l])) : ∃ vs' u, vs = vs' ++ [.str (tx l) u] ∧ Texts vs' ws := by
  obtain ⟨us, hu, rfl⟩ := h
  have hn : us ≠ [] := fun e => by subst e; simp at hu
  obtain ⟨us', u, rfl⟩ : ∃ us' u, us = us' ++ [u] := ⟨us.dropLast, us.getLast hn, (List.dropLast_concat_getLast hn).symm⟩
  have hl : ws.length = us'.length := by simpa using hu.symm
  exact ⟨(ws.zip us').map fun p => .str (tx p.1) p.2, u, by rw [List.zip_append hl, List.map_append]; rfl, us', hl.symm, rfl⟩
theorem Texts.nil_inv {vs : List Value} (h : Texts vs []) : vs = [] := List.length_eq_zero_iff.mp h.length
end
/-- the words so far: of at most k signs -/
def WsOk (ws : List (List Nat)) (k : Nat) : Prop := ws.length ≤ k ∧ ∀ l ∈ ws, l.length ≤ k ∧ ∀ c ∈ l, CpOk c
theorem WsOk.new {ws : List (List Nat)} {k : Nat} (h : WsOk ws k) : WsOk (ws ++ [[]]) (k + 1) := by
  refine ⟨by simpa using h.1, fun l hl => ?_⟩
  rcases List.mem_append.mp hl with hl | hl
  · exact ⟨Nat.le_succ_of_le (h.2 l hl).1, (h.2 l hl).2⟩
  · rw [List.mem_singleton.mp hl]
    exact ⟨Nat.zero_le _, fun c hc => nomatch hc⟩
theorem WsOk.one {c k : Nat} (hc : CpOk c) : WsOk [[c]] (k + 1) := by
  refine ⟨by simp, fun l hl => ?_⟩
  rw [List.mem_singleton.mp hl]
  exact ⟨by simp, fun x hx => (List.mem_singleton.mp hx) ▸ hc⟩
theorem WsOk.more {ws : List (List Nat)} {l : List Nat} {c k : Nat} (h : WsOk (ws ++ [l]) k) (hc : CpOk c) : WsOk (ws ++ [l ++ [c]]) (k + 1) := by
  refine ⟨by have := h.1; simp at this ⊢; omega, fun l' hl => ?_⟩
  rcases List.mem_append.mp hl with hl | hl
  · have := h.2 l' (List.mem_append_left _ hl)
    exact ⟨Nat.le_succ_of_le this.1, this.2⟩
  · rw [List.mem_singleton.mp hl]
    have := h.2 l (List.mem_append_right _ (.head _))
    refine ⟨by simpa using this.1, fun c' hc' => ?_⟩
    rcases List.mem_append.mp hc' with h1 | h1
    · exact this.2 c' h1
    · rw [List.mem_singleton.mp h1]; exact hc
section
variable {w : World} {A : Around} {cn : Str} {cs : Scope} {a : Addr} {ccd : Value} {cl : List (Str × Addr)} {outer : List Env} {A₀ : Around} {base h₀ : Heap} {L : Addr} {m : Str → Option Value} {mean : ExcName → Option Value} {mg mb : Str → Option Value} {s : Shared} {Q E : Value → Shared → Prop} {rest : List (Addr × Obj)}
local macro_rules | `(tactic| walk_at "pyIter ref") => `(tactic| (refine hlt_ ?_))
local macro_rules | `(tactic| walk_at "exec For Name Name cons nil") => `(tactic| (k_here; (rename Fr _ _ _ _ => lF'); (with_unfolding_all refine' For_invVF lF' ?k1 ?k2 ?_; (case k1 => exact rfl); (case k2 => exact rfl); k_whole)))
local macro_rules | `(tactic| walk_at "call ref") => `(tactic| (refine hlt_ ?_))
local macro_rules | `(tactic| walk_at "compareOp Eq ref ref") => `(tactic| (k_here; k_dflt (first
  | (refine' eq_nil_yes ?N ?a ?b ?u ?_; (case N => k_asm); (case a => k_mem); (case b => k_mem); (case u => ke_room); k_whole)
  | (refine' eq_nil_no ?N ?a ?t ?o ?b ?u ?_; (case N => k_asm); (case a => k_mem); (case t => assumption); (case o => assumption); (case b => k_mem); (case u => ke_room); k_whole))))
local macro_rules | `(tactic| walk_at "subscriptTail") => `(tactic| (k_here; k_dflt (refine' get_last ?k1 ?k2 ?_ ?k3; (case k1 => k_asm); (case k2 => k_mem); (case k3 => with_unfolding_all rfl); k_whole)))
local macro_rules | `(tactic| walk_at "setItem ref int") => `(tactic| (k_here; k_dflt (refine' set_last ?k1 ?k2 ?k3 ?_; (case k1 => k_asm); (case k2 => k_asm); (case k3 => k_upd); k_whole); intro h' F' N'; (try k_sweep)))
local macro_rules | `(tactic| walk_at "m_map") => `(tactic| (refine fun_on ["digits", "words", "d"] (fun y hy => by (simp only [List.mem_cons, List.not_mem_nil, or_false, not_or] at hy; simp only [mp, hy, if_false]; try ((with_unfolding_all refine lkpN ?_); simp only [hy, not_false_eq_true]))) ?_; (repeat' (first | exact True.intro | (refine And.intro (by with_unfolding_all rfl) ?_)))))
local macro_rules | `(tactic| walk_at "call builtin:list.append") => `(tactic| (k_here; k_dflt (refine' append_L ?k1 ?k2 ?k3 ?z ?_; (case k1 => k_asm); (case k2 => k_asm); (case k3 => k_upd); (case z => ((try simp only [List.length_append, List.length_cons, List.length_nil]); omega)); k_whole); intro h' F' N'; (try k_sweep)))
theorem c_words {D : Addr} {ds : List Value} {c : Nat} {ns : List Int} (B : Below A₀ base outer h₀) (F : Fr h₀ L s.heap m) (X : (HK w.params).In h₀) (T : Top VW LS mean mg mb h₀) (hk : cs.kind = .function)
    (hA : A.frames = some (envX cn cs L a ccd cl :: outer)) (hh : A.handled = none) (hd : A.depth ≤ 700) (hu : A.units ≤ 700)
    (N : News h₀ L s.heap ((D, lo ds c) :: rest)) (hi : IntsAre ds ns) (hn : ∀ d ∈ ns, 0 ≤ d ∧ d < 1112080) (hlen : ns.length ≤ 60)
    (post : ∀ W vs c' ws h' k, (∀ q ∈ (D, lo ds c) :: rest, q.1 < W) → Texts vs ws → WsOk ws 60 → Fr h₀ L h' m → News h₀ L h' ((W, lo vs c') :: (D, lo ds c) :: rest) → Q (.ref W) { s with heap := h', toks := k }) :
    wpAny (model PG w) A (call (.ref 780) [.ref D]) Q E s := by
  refine wpAny_weak (A' := ktrTop 700 700 none cn cs L a ccd cl outer) ?_ hh hd hA rfl hu
  w_on
  refine wpAny_call ?_
  k_dflt (walk_at "m_enter")
  rename_i g' L' h' FG' F' N' B' X' T'
  clear F N
  k_steps
  unfold Hlt
  rename_i l0 ha l1 h9 F9 N9
  refine iter_lst (led₀ := [(l0, lo [] 0)]) (rest := (D, lo ds c) :: rest) [l0] (fun i m₁ led => ∃ xo vs c ws, m₁ = mp [("d", xo), ("words", some (.ref l0)), ("digits", some (.ref D))] ∧ led = [(l0, lo vs c)] ∧ Texts vs ws ∧ WsOk ws i)
    rfl (frM F9 (by walk_at "m_map")) N9 (.head _) ?_ ?_ ⟨none, [], 0, [], rfl, rfl, .nil, Nat.le_refl _, (fun d hd => nomatch hd)⟩ ?_ ?_
  · intro q hq hm
    rw [List.mem_singleton] at hm
    rcases List.mem_cons.mp hq with rfl | hq
    · exact absurd l1.1 (by rw [show D = l0 from hm]; exact Nat.lt_irrefl _)
    · exact absurd (allLt_mem l1.2 q hq) (by rw [hm]; exact Nat.lt_irrefl _)
  · intro b hb
    rw [List.mem_singleton.mp hb]
    exact Heap.lt_size (N9.get (.head _))
  · rintro i v m₁ led h tk rest' hv ⟨xo, vs, c, ws, rfl, rfl, hT, hW⟩ hr1 hr2 F₁ N₁
    obtain ⟨n, t, rfl, hn'⟩ := hi.at i v hv
    have hr : ∀ q ∈ rest', q.1 ≠ l0 := fun q hq e => hr1 q hq (by rw [e]; exact .head _)
    have hi60 : i < 60 := by
      have := (List.getElem?_eq_some_iff.mp hn').1
      omega
    have hnb := hn n (List.mem_of_getElem? hn')
    have hvl := hT.length
    have hwl := hW.1
    dsimp only [List.cons_append, List.nil_append] at N₁
    clear F9 N9 l1 hr1 hr2 hi hn
    by_cases h0 : n = 0
    · subst h0
      k_steps
      exact .next1 (by k_asm) (by k_asm) (by walk_at "m_map") ⟨_, _, _, _, rfl, rfl, hT.snoc, hW.new⟩
    · have hpos : 0 < n := by omega
      rcases List.eq_nil_or_concat ws with rfl | ⟨ws', l, rfl⟩
      · obtain rfl := hT.nil_inv
        k_steps
        · exact absurd ‹n = 0› h0
        unfold Hlt
        refine' c_sign ?k1 ?k2 ?k3 ?k4 ?k5 ?k6 ?k7 ?k8 ?k9 ?k10 hpos hnb.2 ?post; (case k6 => exact rfl); (case k2 => k_asm); (case k1 => k_asm); (case k3 => k_asm); (case k4 => k_asm); (case k5 => exact rfl); (case k7 => exact rfl); (case k8 => exact Nat.le_of_ble_eq_true rfl); (case k9 => exact Nat.le_of_ble_eq_true rfl); (case k10 => k_asm)
        case post =>
          intro cc tc hh9 kk9 hcc FF9 NN9
          k_steps
          refine .next1 (by k_asm) (news_sub (by assumption) fun q hq => .tail _ hq) (by walk_at "m_map") ⟨_, _, _, [[cc]], rfl, rfl, ?_, .one hcc⟩
          have e : Str.ofString "" ++ tx [cc] = tx [cc] := by
            rw [show Str.ofString "" = tx [] by decide +kernel, tx_append]; rfl
          rw [e]
          exact Texts.nil.snoc
      · rw [List.concat_eq_append] at hT hW
        obtain ⟨vs', u, rfl, hT'⟩ := hT.last
        have htl : (tx l).length ≤ 100 := by
          rw [tx_length]
          have := (hW.2 l (List.mem_append_right _ (.head _))).1
          omega
        have hok : ∀ l' ∈ ws' ++ [l], ∀ c ∈ l', CpOk c := fun l' hl' => (hW.2 l' hl').2
        k_steps
        · exact absurd ‹n = 0› h0
        unfold Hlt
        refine' c_sign ?k1 ?k2 ?k3 ?k4 ?k5 ?k6 ?k7 ?k8 ?k9 ?k10 hpos hnb.2 ?post; (case k6 => exact rfl); (case k2 => k_asm); (case k1 => k_asm); (case k3 => k_asm); (case k4 => k_asm); (case k5 => exact rfl); (case k7 => exact rfl); (case k8 => exact Nat.le_of_ble_eq_true rfl); (case k9 => exact Nat.le_of_ble_eq_true rfl); (case k10 => k_asm)
        case post =>
          intro cc tc hh9 kk9 hcc FF9 NN9
          k_steps
          refine .next1 (by k_asm) (news_sub (by assumption) fun q hq => .tail _ hq) (by walk_at "m_map") ⟨_, _, _, ws' ++ [l ++ [cc]], rfl, rfl, ?_, hW.more hcc⟩
          rw [tx_append]
          exact hT'.snoc
  · rintro m₁ led h tk ⟨xo, vs, c, ws, rfl, rfl, hT, hW⟩ F₁ N₁
    dsimp only [List.cons_append, List.nil_append] at N₁
    clear F9 N9
    k_steps
    rename_i kF kN kT kX
    refine post l0 vs c ws _ _ (fun q hq => ?_) hT ?_ kF kN
    · rcases List.mem_cons.mp hq with rfl | hq
      · exact l1.1
      · exact allLt_mem l1.2 q hq
    · rw [hi.length] at hW
      exact ⟨Nat.le_trans hW.1 hlen, fun l hl => ⟨Nat.le_trans (hW.2 l hl).1 hlen, (hW.2 l hl).2⟩⟩
end

end
section
open LCg LCt in
theorem comp_str {w : World} {A : Around} {E : Value → Shared → Prop} {s : Shared} {h₀ : Heap} {L : Addr} {m : Str → Option Value} {env : Env} {ct elt iter : Expr} {x : Str} {px : Pos} {scope : Scope} {cl : List (Str × Addr)} {pos : Pos} {Q : Value → Shared → Prop} {l : List Nat} {t : Tok} {news : List (Addr × Obj)}
    (hh : A.handled = none) (F : Fr h₀ L s.heap m) (N : News h₀ L s.heap news) (hlen : l.length ≤ 100000)
    (hclos : closureFor scope env = pure cl) (hcell : ∀ y ∈ scope.names, y.2 ≠ .cell) (hkind : scope.kind = .function) (hnames : ∀ y ∈ scope.names, y.2 = .local → scope.names.lookup y.1 = some .local) (hx : scope.names.lookup x = some .local)
    (h : wpAny (model PG w) A (eval iter env) (fun xv s₁ => xv = .str (tx l) t ∧ s₁ = s) E s)
    (R : ∀ g, CompRestT PG w A h₀ L m env ct elt x scope cl { s with heap := g } (fun _ => True) (SignAt (tx l)) (FinE h₀ L m { s with heap := g } Q) l.length 0 [] news)
    (hs : ∀ x, foldedSetIterable iter env x = pure x := by intro _; rfl) :
    wpAny (model PG w) A (eval (.ListComp elt [⟨.Name x px, iter, [ct], 0⟩] scope pos) env) Q E s := by
  rw [eval_ListComp]
  refine wpAny_comprehension_free (use := none) rfl hs hclos hkind hnames (wpAny_mono h (fun xv s₁ h₁ => ?_) fun _ _ e => e)
  obtain ⟨rfl, rfl⟩ := h₁
  have hsz : (tx l).cps.size = l.length := by simp [tx]
  cases ha : (tx l).cps.all (· < 128)
  · refine wpAny_pyIter_wide ha ?_
    have W := Walks.strWide (prog := PG) (w := w) hh s₁.heap.objs.size (tx l) t
    rw [hsz] at W
    refine block_T (S := fun _ => True) W (by rw [sizeLine_eq]; omega) (fun i h st => by obtain ⟨o, e, _⟩ := st; exact ⟨o, e⟩) (fun i h h' o' nw st e1 e2 _ _ _ => by
        obtain ⟨o, e, r⟩ := st
        rw [e1] at e; cases e
        exact ⟨_, e2, r⟩) hcell hkind hx ⟨_, Heap.get?_push_size _ rfl, rfl, rfl⟩ (fun b hb => by rw [List.mem_singleton.mp hb]; show _ < (s₁.heap.push _).objs.size; rw [Heap.size_push]; exact Nat.lt_succ_self _)
      (F.push _) (fun p hp => ⟨Heap.get?_push_of_some _ (N p hp).1, (N p hp).2⟩) (Nat.ne_of_lt F.ns.lt) (next_is_new F) (fun p hp => Nat.ne_of_lt (Heap.lt_size (N p hp).1)) trivial (R _) ?_
    intro D C h tk m' ys news' F' N' o1 hn hC₀ hD₀ hCL hDL hCD offC fin
    refine ⟨m', hn, fun h'' hs'' => fin D h'' tk (F'.change hs'' hCL hC₀) (fun p hp => ⟨hs''.extBut _ _ ?_ (N' p hp).1, (N' p hp).2⟩) o1⟩
    rcases List.mem_cons.mp hp with rfl | hp
    · exact Ne.symm hCD
    · exact offC p hp
  · refine wpAny_pyIter_ascii ha ?_
    have W := Walks.strAscii (prog := PG) (w := w) hh s₁.heap.objs.size (tx l) t
    rw [hsz] at W
    refine block_T (S := fun _ => True) W (by rw [sizeLine_eq]; omega) (fun i h st => by obtain ⟨o, e, _⟩ := st; exact ⟨o, e⟩) (fun i h h' o' nw st e1 e2 _ _ _ => by
        obtain ⟨o, e, r⟩ := st
        rw [e1] at e; cases e
        exact ⟨_, e2, r⟩) hcell hkind hx ⟨_, Heap.get?_push_size _ rfl, rfl, rfl⟩ (fun b hb => by rw [List.mem_singleton.mp hb]; show _ < (s₁.heap.push _).objs.size; rw [Heap.size_push]; exact Nat.lt_succ_self _)
      (F.push _) (fun p hp => ⟨Heap.get?_push_of_some _ (N p hp).1, (N p hp).2⟩) (Nat.ne_of_lt F.ns.lt) (next_is_new F) (fun p hp => Nat.ne_of_lt (Heap.lt_size (N p hp).1)) trivial (R _) ?_
    intro D C h tk m' ys news' F' N' o1 hn hC₀ hD₀ hCL hDL hCD offC fin
    refine ⟨m', hn, fun h'' hs'' => fin D h'' tk (F'.change hs'' hCL hC₀) (fun p hp => ⟨hs''.extBut _ _ ?_ (N' p hp).1, (N' p hp).2⟩) o1⟩
    rcases List.mem_cons.mp hp with rfl | hp
    · exact Ne.symm hCD
    · exact offC p hp
open LCg LCt in
theorem compT_ind {prog : Program} {w : World} {A : Around} {h₀ : Heap} {L : Addr} {m : Str → Option Value} {env : Env} {ct elt : Expr} {x : Str} {scope : Scope} {cl : List (Str × Addr)} {s : Shared} {S : List (Addr × Obj) → Prop} {P : Nat → Value → Prop} {Fin : List Value → List (Addr × Obj) → Prop} {n : Nat} {news : List (Addr × Obj)} (J : Nat → List Value → Prop) (h0 : J 0 [])
    (step : ∀ i ys, i < n → J i ys → ∀ v I oI C oC D m₂ h tk (E' : Value → Shared → Prop), P i v → NsObj oC m₂ → m₂ x = some v → Fr h₀ L h m → News h₀ L h ((I, oI) :: (C, oC) :: (D, lst ys) :: news) → Off3 I C D news → ((@Ne Nat I C) ∧ (@Ne Nat I D) ∧ (@Ne Nat C D)) →
      wpAny (model prog w) A (isTrue ct (compEnvC scope cl C env) (eval ct (compEnvC scope cl C env))) (fun ok s' => if ok = true then
        wpAny (model prog w) A (eval elt (compEnvC scope cl C env)) (CompEnd h₀ L m { s with heap := h, toks := tk } I oI C oC D (lst ys) S (fun y news' => news' = news ∧ J (i + 1) (ys ++ [y]))) E' s'
        else CompEnd h₀ L m { s with heap := h, toks := tk } I oI C oC D (lst ys) S (fun _ news' => news' = news ∧ J (i + 1) ys) Value.none s') E' { s with heap := h, toks := tk })
    (fin : ∀ ys, J n ys → Fin ys news) : CompRestT prog w A h₀ L m env ct elt x scope cl s S P Fin n 0 [] news := by
  have go : ∀ k i ys, i + k = n → J i ys → CompRestT prog w A h₀ L m env ct elt x scope cl s S P Fin k i ys news := by
    intro k
    induction k with
    | zero =>
      intro i ys hi hJ
      have : i = n := by omega
      subst this
      exact .zero (fin ys hJ)
    | succ k ih =>
      intro i ys hi hJ
      refine .succ ?_
      intro v I oI C oC D m₂ h tk E' hv hC hx F N off ne
      refine wpAny_mono (step i ys (by omega) hJ v I oI C oC D m₂ h tk E' hv hC hx F N off ne) (fun ok s' hok => ?_) fun _ _ e => e
      split
      · rename_i h1
        rw [if_pos h1] at hok
        refine wpAny_mono hok (fun y s'' hy => ?_) fun _ _ e => e
        obtain ⟨h', tk', news', e, F', N', o', hS, rfl, hj⟩ := hy
        exact ⟨h', tk', news', e, F', N', o', hS, ih (i + 1) _ (by omega) hj⟩
      · rename_i h1
        rw [if_neg h1] at hok
        obtain ⟨h', tk', news', e, F', N', o', hS, rfl, hj⟩ := hok
        exact ⟨h', tk', news', e, F', N', o', hS, ih (i + 1) _ (by omega) hj⟩
  exact go n 0 [] (Nat.zero_add _) h0
noncomputable abbrev safeT : Str := Str.ofString "abcdefghijklmnopqrstuvwxyzABCDEFGHIJKLMNOPQRSTUVWXYZ0123456789_@%+=:,./-"
theorem safe_set (c : Nat) : c ∈ safeT.cps.toList ↔ c ∈ safeL := by
  have h1 : safeT.cps.toList.all (fun c => decide (c ∈ safeL)) = true := by decide +kernel
  have h2 : safeL.all (fun c => decide (c ∈ safeT.cps.toList)) = true := by decide +kernel
  exact ⟨fun h => of_decide_eq_true (List.all_eq_true.mp h1 c h), fun h => of_decide_eq_true (List.all_eq_true.mp h2 c h)⟩
noncomputable abbrev unsafeS (l : List Nat) : List (List Nat) := (l.filter fun c => decide (c ∉ safeT.cps.toList)).map fun c => [c]
theorem bare_of {l : List Nat} (h : l ≠ []) : bare l = (unsafeS l).isEmpty := by
  unfold bare
  have e1 : l.isEmpty = false := by cases l with | nil => exact absurd rfl h | cons _ _ => rfl
  rw [e1, Bool.not_false, Bool.true_and, Bool.eq_iff_iff, List.isEmpty_iff, List.map_eq_nil_iff, List.filter_eq_nil_iff, List.all_eq_true]
  constructor
  · intro h c hc
    have := h c hc
    simp only [decide_eq_true_eq, safe_set] at this ⊢
    exact fun k => k this
  · intro h c hc
    have := h c hc
    simp only [decide_eq_true_eq, safe_set, Decidable.not_not] at this ⊢
    exact this
theorem unsafe_snoc {l : List Nat} {i c : Nat} (h : l[i]? = some c) : unsafeS (l.take (i + 1)) = unsafeS (l.take i) ++ (if c ∈ safeT.cps.toList then [] else [[c]]) := by
  unfold unsafeS
  rw [List.take_add_one, h, List.filter_append, List.map_append]
  congr 1
  by_cases hc : c ∈ safeT.cps.toList
  · rw [if_pos hc]
    have e : decide (c ∉ safeT.cps.toList) = false := decide_eq_false fun k => k hc
    show (List.filter _ [c]).map _ = []
    rw [List.filter_cons, e]
    rfl
  · rw [if_neg hc]
    have e : decide (c ∉ safeT.cps.toList) = true := decide_eq_true hc
    show (List.filter _ [c]).map _ = [[c]]
    rw [List.filter_cons, e]
    rfl
theorem lt_ne1 {rest : List (Addr × Obj)} {d : Nat} (h : ∀ p ∈ rest, p.1 < d) : ∀ q ∈ rest, q.1 ≠ d + 1 := fun q hq e => by
  have := h q hq
  rw [e] at this
  exact absurd this (Nat.not_lt.mpr (Nat.le_succ d))
section
variable {w : World} {A : Around} {cn : Str} {cs : Scope} {a : Addr} {ccd : Value} {cl : List (Str × Addr)} {outer : List Env} {A₀ : Around} {base h₀ : Heap} {L : Addr} {m : Str → Option Value} {mean : ExcName → Option Value} {mg mb : Str → Option Value} {s : Shared} {Q E : Value → Shared → Prop} {rest : List (Addr × Obj)}
local macro_rules | `(tactic| walk_at "eval ListComp") => `(tactic| (refine hlt_ ?_))
local macro_rules | `(tactic| walk_at "compareOp Eq ref ref") => `(tactic| (k_here; k_dflt (refine' eq_nil_any ?N ?a ?t ?o ?b ?u ?_; (case t => assumption); (case N => k_asm); (case a => k_mem); (case o => assumption); (case b => k_mem); (case u => ke_room); k_whole)))
theorem c_isbare {l : List Nat} {t : Tok} (B : Below A₀ base outer h₀) (F : Fr h₀ L s.heap m) (X : (HK w.params).In h₀) (T : Top VW LS mean mg mb h₀) (hk : cs.kind = .function)
    (hA : A.frames = some (envX cn cs L a ccd cl :: outer)) (hh : A.handled = none) (hd : A.depth ≤ 600) (hu : A.units ≤ 600)
    (N : News h₀ L s.heap rest) (hl : l.length ≤ 1000) (hcp : ∀ c ∈ l, CpOk c)
    (post : ∀ h' k, Fr h₀ L h' m → News h₀ L h' rest → Q (.bool (bare l)) { s with heap := h', toks := k }) :
    wpAny (model PG w) A (call (.ref 785) [.str (tx l) t]) Q E s := by
  refine wpAny_weak (A' := ktrTop 600 600 none cn cs L a ccd cl outer) ?_ hh hd hA rfl hu
  w_on
  refine wpAny_call ?_
  k_dflt (walk_at "m_enter")
  have hr9 := lt_ne1 (rest := rest) (by assumption)
  k_steps
  · unfold Hlt
    rename_i g' L' h1 tk' FG' B' X' T' l1 oa d1 hc oo F9 N9 d9 ha
    refine comp_str (l := l) (t := t) rfl (by k_asm) (by k_asm) (by omega) (by with_unfolding_all rfl) (by decide) (by rfl) (by decide) (by rfl) ?_ ?_
    · exact wpAny_Name (wpAny_loadName_local rfl rfl F9.ns (by with_unfolding_all rfl) ⟨rfl, rfl⟩) (by decide)
    · intro g
      refine compT_ind (fun i ys => Texts ys (unsafeS (l.take i))) Texts.nil ?_ ?_
      · intro i ys hi hT v I oI C oC D m₂ h tk E' hv hC hx F' N' off ne
        obtain ⟨c, u, hc', rfl⟩ := hv
        have hc2 : l[i]? = some c := by simpa [tx] using hc'
        clear F N
        k_steps
        · rename_i ha2
          have hno : c ∉ safeT.cps.toList := fun hs => by
            have h3 : (Builtin.Str.occurrences safeT (tx [c]) 0 safeT.length 1).isEmpty = true := ha2
            have h4 : (Builtin.Str.occurrences safeT (tx [c]) 0 safeT.length 1).isEmpty = false := inn_one hs
            rw [h3] at h4
            cases h4
          refine ⟨_, _, _, rfl, F', N', off, trivial, rfl, ?_⟩
          rw [unsafe_snoc hc2, if_neg hno]
          exact hT.snoc
        · rename_i ha2
          have hin : c ∈ safeT.cps.toList := of_inn (show Inn safeT (tx [c]) from ha2)
          refine ⟨_, _, _, rfl, F', N', off, trivial, rfl, ?_⟩
          rw [unsafe_snoc hc2, if_pos hin, List.append_nil]
          exact hT
      · intro ys hT D h tk F' N' off
        rw [List.take_length] at hT
        have hok : ∀ l' ∈ unsafeS l, ∀ c ∈ l', CpOk c := fun l' hl' c hc => by
          obtain ⟨x, hx, rfl⟩ := List.mem_map.mp hl'
          rw [List.mem_singleton.mp hc]
          exact hcp x ((List.mem_filter.mp hx).1)
        clear F N F9 N9
        k_steps
        rename_i kF kN kT kX
        have hne : l ≠ [] := fun e => by
          subst e
          have : (tx [] != Str.ofString "") = false := by decide +kernel
          rw [this] at ha
          cases ha
        rw [← bare_of hne]
        exact post _ _ kF (news_sub kN fun q hq => .tail _ (.tail _ (.tail _ hq)))
  · rename_i ha kF kN kT kX
    have hne : l = [] := by
      have h1 : (tx l != Str.ofString "") = false := ha
      rw [bne_eq_false_iff_eq, show Str.ofString "" = tx [] by decide +kernel, tx_inj] at h1
      exact h1
    rw [ha, show false = bare l by rw [hne]; rfl]
    exact post _ _ kF (news_sub kN fun q hq => .tail _ hq)
end

end
section
/-- how a kind is written -/
noncomputable def kdS : Kd → Str
  | .bt => "between" | .ba => "bare" | .op => "opens" | .inn => "in" | .sh => "shut"
noncomputable def mkD (p : Nat × Kd) : Dat := .tuple [.str (tx [p.1]), .str (kdS p.2)]
/-- a list of marks at M, its tuples behind it -/
def MkI (M : Addr) (led : List (Addr × Obj)) (ms : List (Nat × Kd)) : Prop := ∃ vs c tups, led = (M, lo vs c) :: tups ∧ (∀ q ∈ tups, q.2.cls = .type "tuple") ∧ DatAll tups vs (ms.map mkD)
theorem MkI.lt {M : Addr} {led : List (Addr × Obj)} {ms : List (Nat × Kd)} (h : MkI M led ms) : LT led := by
  obtain ⟨vs, c, tups, rfl, ht, _⟩ := h
  exact LT.list fun q hq => .inr (ht q hq)
theorem MkI.nil {M : Addr} {c : Nat} : MkI M [(M, lo [] c)] [] := ⟨[], c, [], rfl, (fun q hq => nomatch hq), .nil⟩
/-- the marks in the heap, R behind them -/
def MkS (M : Addr) (g : Heap) (L : Addr) (R : List (Addr × Obj)) (h : Heap) (ms : List (Nat × Kd)) : Prop := ∃ led, MkI M led ms ∧ News g L h (led ++ R)
noncomputable abbrev tupO (x y : Value) : Obj := { cls := .type "tuple", data := .seq #[x, y] }
theorem MkS.open {M L : Addr} {g h : Heap} {R : List (Addr × Obj)} {ms : List (Nat × Kd)} (S : MkS M g L R h ms) (hR : ∀ q ∈ R, q.1 ≠ M) :
    ∃ vs c tups, News g L h ((M, lo vs c) :: (tups ++ R)) ∧ (∀ q ∈ tups, q.2.cls = .type "tuple") ∧ DatAll tups vs (ms.map mkD) ∧ vs.length = ms.length ∧ ∀ q ∈ tups ++ R, q.1 ≠ M := by
  obtain ⟨led, ⟨vs, c, tups, rfl, ht, hD⟩, N⟩ := S
  have N : News g L h ((M, lo vs c) :: (tups ++ R)) := N
  refine ⟨vs, c, tups, N, ht, hD, by simpa using hD.length, fun q hq e => ?_⟩
  rcases List.mem_append.mp hq with h1 | h1
  · exact news_cls (a := q.1) (b := M) (o := q.2) (o' := lo vs c) N (.tail _ (List.mem_append_left _ h1)) (.head _) (by rw [ht q h1]; show Value.type "tuple" ≠ Value.type "list"; decide) e
  · exact hR q h1 e
theorem dat_mk {n : List (Addr × Obj)} {T : Addr} {c : Nat} {k : Kd} {u v : Tok} {x y : Str} (hx : x = tx [c]) (hy : y = kdS k) (h : (T, tupO (.str x u) (.str y v)) ∈ n) : DatIn n (.ref T) (mkD (c, k)) := by
  subst hx; subst hy
  exact .tuple (vs := [_, _]) h (.cons (.str _ _) (.cons (.str _ _) .nil))
theorem MkS.push {M L T : Addr} {g h : Heap} {R tups : List (Addr × Obj)} {ms : List (Nat × Kd)} {vs : List Value} {cc : Nat} {c : Nat} {k : Kd} {u v : Tok} {x y : Str} (ht : ∀ q ∈ tups, q.2.cls = .type "tuple") (hD : DatAll tups vs (ms.map mkD)) (hx : x = tx [c]) (hy : y = kdS k)
    (N : News g L h ((T, tupO (.str x u) (.str y v)) :: (M, lo (vs ++ [.ref T]) cc) :: (tups ++ R))) : MkS M g L R h (ms ++ [(c, k)]) := by
  refine ⟨(M, lo (vs ++ [.ref T]) cc) :: (T, tupO (.str x u) (.str y v)) :: tups, ⟨_, _, (T, tupO (.str x u) (.str y v)) :: tups, rfl, List.forall_mem_cons.mpr ⟨rfl, ht⟩, ?_⟩, news_sub N fun q hq => ?_⟩
  · rw [List.map_append]
    exact (hD.mono fun q hq => .tail _ hq).append (.one (dat_mk hx hy (.head _)))
  · simp only [List.cons_append, List.mem_cons] at hq ⊢
    rcases hq with h | h | h <;> simp [h]
theorem MkS.push5 {M L Ls T1 T2 T3 T4 T5 : Addr} {g h : Heap} {R tups : List (Addr × Obj)} {ms : List (Nat × Kd)} {vs : List Value} {cc ck : Nat} {u1 v1 u2 v2 u3 v3 u4 v4 u5 v5 : Tok} (ht : ∀ q ∈ tups, q.2.cls = .type "tuple") (hD : DatAll tups vs (ms.map mkD))
    (N : News g L h ((Ls, lo [.ref T1, .ref T2, .ref T3, .ref T4, .ref T5] ck) :: (T5, tupO (.str (Str.ofString "'") u5) (.str (Str.ofString "opens") v5)) :: (T4, tupO (.str (Str.ofString "\"") u4) (.str (Str.ofString "shut") v4)) :: (T3, tupO (.str (Str.ofString "'") u3) (.str (Str.ofString "in") v3)) :: (T2, tupO (.str (Str.ofString "\"") u2) (.str (Str.ofString "opens") v2)) :: (T1, tupO (.str (Str.ofString "'") u1) (.str (Str.ofString "shut") v1)) :: (M, lo (vs ++ [.ref T1, .ref T2, .ref T3, .ref T4, .ref T5]) cc) :: (tups ++ R))) : MkS M g L R h (ms ++ qm 39) := by
  refine ⟨(M, lo (vs ++ [.ref T1, .ref T2, .ref T3, .ref T4, .ref T5]) cc) :: ((T5, tupO (.str (Str.ofString "'") u5) (.str (Str.ofString "opens") v5)) :: (T4, tupO (.str (Str.ofString "\"") u4) (.str (Str.ofString "shut") v4)) :: (T3, tupO (.str (Str.ofString "'") u3) (.str (Str.ofString "in") v3)) :: (T2, tupO (.str (Str.ofString "\"") u2) (.str (Str.ofString "opens") v2)) :: (T1, tupO (.str (Str.ofString "'") u1) (.str (Str.ofString "shut") v1)) :: tups), ⟨_, _, _, rfl, ?_, ?_⟩, news_sub N fun q hq => ?_⟩
  · refine List.forall_mem_cons.mpr ⟨rfl, List.forall_mem_cons.mpr ⟨rfl, List.forall_mem_cons.mpr ⟨rfl, List.forall_mem_cons.mpr ⟨rfl, List.forall_mem_cons.mpr ⟨rfl, ht⟩⟩⟩⟩⟩
  · rw [List.map_append]
    refine (hD.mono fun q hq => .tail _ (.tail _ (.tail _ (.tail _ (.tail _ hq))))).append ?_
    have e1 : Str.ofString "'" = tx [39] := by decide +kernel
    have e2 : Str.ofString "\"" = tx [34] := by decide +kernel
    show DatAll _ [.ref T1, .ref T2, .ref T3, .ref T4, .ref T5] [mkD (39, .sh), mkD (34, .op), mkD (39, .inn), mkD (34, .sh), mkD (39, .op)]
    exact .cons (dat_mk e1 rfl (.tail _ (.tail _ (.tail _ (.tail _ (.head _)))))) (.cons (dat_mk e2 rfl (.tail _ (.tail _ (.tail _ (.head _))))) (.cons (dat_mk e1 rfl (.tail _ (.tail _ (.head _)))) (.cons (dat_mk e2 rfl (.tail _ (.head _))) (.cons (dat_mk e1 rfl (.head _)) .nil))))
  · simp only [List.cons_append, List.mem_cons] at hq ⊢
    rcases hq with h | h | h | h | h | h | h <;> simp [h]
noncomputable abbrev mkFor : Stmt := by
  refine (fun (b : Stmt) (_ : b_marks.getD 1 (.Pass ⟨0, 0, 0, 0⟩) = b) => b) ?b ?h
  case h => (conv => lhs; whnf)
noncomputable def forBody (s : Stmt) : List Stmt := match s with | .For _ _ b _ _ => b | _ => []
noncomputable abbrev mkIf1 : Stmt := by
  refine (fun (b : Stmt) (_ : (forBody mkFor).getD 0 (.Pass ⟨0, 0, 0, 0⟩) = b) => b) ?b ?h
  case h => (conv => lhs; whnf)
noncomputable abbrev mkIf2 : Stmt := by
  refine (fun (b : Stmt) (_ : (forBody mkFor).getD 1 (.Pass ⟨0, 0, 0, 0⟩) = b) => b) ?b ?h
  case h => (conv => lhs; whnf)
noncomputable abbrev mkEnv (L : Addr) : Env := envOf "_law_marks" s_marks L 792 (.ref 791)
noncomputable abbrev mkA (L : Addr) (outer : List Env) : Around := ktrTop 580 580 none "_law_marks" s_marks L 792 (.ref 791) [] outer
noncomputable abbrev mkM (ko so : Option Value) (M W : Addr) : Str → Option Value := mp [("k", ko), ("sign", so), ("marks", some (.ref M)), ("words", some (.ref W))]
section
variable {w : World} {outer : List Env} {A₀ : Around} {base g : Heap} {L M W : Addr} {mean : ExcName → Option Value} {mg mb : Str → Option Value} {s : Shared} {Q : Flow → Shared → Prop} {R : List (Addr × Obj)} {bg : List Stmt} {ms : List (Nat × Kd)} {i : Nat} {t : Tok} {so : Option Value} {vs : List Value} {c : Nat}
local macro_rules | `(tactic| walk_at "subscriptTail") => `(tactic| (k_here; k_dflt (refine' get_at ?k1 ?k2 ?k4 ?k5 ?_ ?k3; (case k1 => k_asm); (case k2 => (first | assumption | k_mem | (refine List.Mem.tail _ ?_; assumption) | (refine List.Mem.tail _ (List.Mem.tail _ ?_); assumption))); (case k4 => assumption); (case k5 => omega); (case k3 => with_unfolding_all rfl); k_whole)))
local macro_rules | `(tactic| walk_at "call builtin:list.append") => `(tactic| (k_here; k_dflt (refine' append_L ?k1 ?k2 ?k3 ?z ?_; (case k1 => k_asm); (case k2 => k_asm); (case k3 => k_upd); (case z => ((try simp only [List.length_append, List.length_cons, List.length_nil]); omega)); k_whole); intro h' F' N'; (try k_sweep)))
local macro_rules | `(tactic| walk_at "m_map") => `(tactic| (refine fun_on ["words", "marks", "k", "sign"] (fun y hy => by (simp only [List.mem_cons, List.not_mem_nil, or_false, not_or] at hy; simp only [mp, hy, if_false]; try ((with_unfolding_all refine lkpN ?_); simp only [hy, not_false_eq_true]))) ?_; (repeat' (first | exact True.intro | (refine And.intro (by with_unfolding_all rfl) ?_)))))
theorem marks_pre (B : Below A₀ base outer g) (F : Fr g L s.heap (mkM (some (.int (i : Int) t)) so M W)) (K : (HK w.params).In g) (T : Top VW LS mean mg mb g) (S : MkS M g L R s.heap ms) (hR : ∀ q ∈ R, q.1 ≠ M) (hml : ms.length ≤ 30000) (hi : i ≤ 1000)
    (post : ∀ h' k, Fr g L h' (mkM (some (.int (i : Int) t)) so M W) → MkS M g L R h' (ms ++ if i = 0 then [] else [(32, .bt)]) → wpAny (model PG w) (mkA L outer) (execs bg (mkEnv L)) Q (fun _ _ => False) { s with heap := h', toks := k }) :
    wpAny (model PG w) (mkA L outer) (execs (mkIf1 :: bg) (mkEnv L)) Q (fun _ _ => False) s := by
  rcases Nat.eq_zero_or_pos i with h0 | h0
  · subst h0
    rw [if_pos rfl, List.append_nil] at post
    w_on
    k_steps
    exact post _ _ F S
  · rw [if_neg (Nat.ne_of_gt h0)] at post
    obtain ⟨ms', cm, tups, N, ht, hD, hdl, hr⟩ := S.open hR
    w_on
    k_steps
    exact post _ _ (by k_asm) (MkS.push (R := R) ht hD (show Str.ofString " " = tx [32] by decide +kernel) rfl (by assumption))
noncomputable abbrev mkIfQ : Stmt := by
  refine (fun (b : Stmt) (_ : (forBody ((ifElse mkIf2).getD 1 (.Pass ⟨0, 0, 0, 0⟩))).getD 0 (.Pass ⟨0, 0, 0, 0⟩) = b) => b) ?b ?h
  case h => (conv => lhs; whnf)
local macro_rules | `(tactic| walk_at "call builtin:list.extend") => `(tactic| (k_here; k_dflt (refine' extend_L ?k1 ?k2 ?kb ?k3 ?ne ?z ?z2 ?_; (case k1 => k_asm); (case k2 => k_asm); (case kb => k_mem); (case k3 => k_upd); (case ne => exact Nat.succ_ne_zero _); (case z => omega); (case z2 => exact Nat.le_of_ble_eq_true rfl); k_whole); intro h' F' N'; (try k_sweep)))
local macro_rules | `(tactic| walk_at "getMethod ref") => `(tactic| (k_here; (with_reducible show wpAny _ _ (getMethod (Value.ref _) (PySem.Str.ofString "extend") _) _ _ _); k_dflt (refine' listMethod_K ?N ?m PySem.F.slot_list_extend PySem.F.type_list_extend ?_; (case N => k_asm); (case m => exact List.Mem.head _))))
local macro_rules | `(tactic| walk_at "callWith") => `(tactic| (refine callWith_method1 ?_))
theorem marks_ext {ms2 : List Value} {cm2 : Nat} {tups : List (Addr × Obj)} {ko : Option Value} {u : Tok} (B : Below A₀ base outer g) (F : Fr g L s.heap (mkM ko (some (.str (tx [39]) u)) M W)) (K : (HK w.params).In g) (T : Top VW LS mean mg mb g) (N : News g L s.heap ((M, lo ms2 cm2) :: (tups ++ R))) (hr : ∀ q ∈ tups ++ R, q.1 ≠ M) (hlj : ms2.length ≤ 40000)
    (ht : ∀ q ∈ tups, q.2.cls = .type "tuple") (hD : DatAll tups ms2 (ms.map mkD)) (post : ∀ h' k, Fr g L h' (mkM ko (some (.str (tx [39]) u)) M W) → MkS M g L R h' (ms ++ qm 39) → Q .next { s with heap := h', toks := k }) :
    wpAny (model PG w) (mkA L outer) (execs [mkIfQ] (mkEnv L)) Q (fun _ _ => False) s := by
  have hq : (tx [39] == Str.ofString "'") = true := by decide +kernel
  w_on
  k_steps
  exact post _ _ (by k_asm) (MkS.push5 (R := R) ht hD (by assumption))
end
section
variable {w : World} {outer : List Env} {A₀ : Around} {base g : Heap} {L M W : Addr} {mean : ExcName → Option Value} {mg mb : Str → Option Value} {s : Shared} {Q : Flow → Shared → Prop} {R : List (Addr × Obj)} {bg : List Stmt} {ms : List (Nat × Kd)} {i : Nat} {t : Tok} {so : Option Value} {vs : List Value} {c : Nat}
local macro_rules | `(tactic| walk_at "subscriptTail") => `(tactic| (k_here; k_dflt (refine' get_at ?k1 ?k2 ?k4 ?k5 ?_ ?k3; (case k1 => k_asm); (case k2 => (first | assumption | k_mem | (refine List.Mem.tail _ ?_; assumption) | (refine List.Mem.tail _ (List.Mem.tail _ ?_); assumption))); (case k4 => assumption); (case k5 => omega); (case k3 => with_unfolding_all rfl); k_whole)))
local macro_rules | `(tactic| walk_at "call builtin:list.append") => `(tactic| (k_here; k_dflt (refine' append_L ?k1 ?k2 ?k3 ?z ?_; (case k1 => k_asm); (case k2 => k_asm); (case k3 => k_upd); (case z => ((try simp only [List.length_append, List.length_cons, List.length_nil]); omega)); k_whole); intro h' F' N'; (try k_sweep)))
local macro_rules | `(tactic| walk_at "m_map") => `(tactic| (refine fun_on ["words", "marks", "k", "sign"] (fun y hy => by (simp only [List.mem_cons, List.not_mem_nil, or_false, not_or] at hy; simp only [mp, hy, if_false]; try ((with_unfolding_all refine lkpN ?_); simp only [hy, not_false_eq_true]))) ?_; (repeat' (first | exact True.intro | (refine And.intro (by with_unfolding_all rfl) ?_)))))
local macro_rules | `(tactic| walk_at "pyIter str") => `(tactic| (refine hlt_ ?_))
local macro_rules | `(tactic| walk_at "call ref") => `(tactic| (refine hlt_ ?_))
local macro_rules | `(tactic| walk_at "exec For Name Subscript cons nil") => `(tactic| (k_here; (rename Fr _ _ _ _ => lF'); (with_unfolding_all refine' For_invVF lF' ?k1 ?k2 ?_; (case k1 => exact rfl); (case k2 => exact rfl); k_whole)))
theorem marks_word {l : List Nat} {u : Tok} (B : Below A₀ base outer g) (F : Fr g L s.heap (mkM (some (.int (i : Int) t)) so M W)) (K : (HK w.params).In g) (T : Top VW LS mean mg mb g) (S : MkS M g L R s.heap ms) (hR : ∀ q ∈ R, q.1 ≠ M) (hml : ms.length ≤ 31000) (hi : i ≤ 1000)
    (hWm : (W, lo vs c) ∈ R) (hx : vs[i]? = some (.str (tx l) u)) (hl : l.length ≤ 60) (hcp : ∀ c ∈ l, CpOk c)
    (post : ∀ h' k so', Fr g L h' (mkM (some (.int (i : Int) t)) so' M W) → MkS M g L R h' (ms ++ wm l) → Q .next { s with heap := h', toks := k }) :
    wpAny (model PG w) (mkA L outer) (execs [mkIf2] (mkEnv L)) Q (fun _ _ => False) s := by
  obtain ⟨ms', cm, tups, N, ht, hD, hdl, hr⟩ := S.open hR
  have hWn : (W, lo vs c) ∈ (M, lo ms' cm) :: (tups ++ R) := .tail _ (List.mem_append_right _ hWm)
  have hWr : (W, lo vs c) ∈ tups ++ R := List.mem_append_right _ hWm
  have htl : (tx l).length ≤ 100 := by rw [tx_length]; omega
  w_on
  k_steps
  unfold Hlt
  refine' c_isbare (l := l) ?k1 ?k2 ?k3 ?k4 ?k5 ?k6 ?k7 ?k8 ?k9 ?k10 (by omega) hcp ?post; (case k6 => exact rfl); (case k2 => k_asm); (case k1 => k_asm); (case k3 => k_asm); (case k4 => k_asm); (case k5 => exact rfl); (case k7 => exact rfl); (case k8 => exact Nat.le_of_ble_eq_true rfl); (case k9 => exact Nat.le_of_ble_eq_true rfl); (case k10 => k_asm)
  case post =>
    intro h9 k9 F9 N9
    clear F N
    by_cases hb : bare l = true
    · have hwm : wm l = l.map (·, .ba) := by unfold wm; rw [if_pos hb]
      rw [hb]
      k_steps
      unfold Hlt
      rename Fr g L _ _ => F9
      refine iter_str (l := l) (led₀ := (M, lo ms' cm) :: tups) (rest := R) [M] (fun j m₁ led => ∃ so, m₁ = mkM (some (.int (i : Int) t)) so M W ∧ MkI M led (ms ++ (l.take j).map (·, .ba))) rfl F9 N9
        (fun q hq e => hR q hq (List.mem_singleton.mp e)) (fun b hb => by rw [List.mem_singleton.mp hb]; exact Heap.lt_size (N9.get (.head _))) ⟨so, rfl, ⟨ms', cm, tups, rfl, ht, by simpa using hD⟩⟩ ?_ ?_
      · rintro j c u m₁ led h tk rest' hc ⟨so, rfl, hI⟩ hr1 hr2 F₁ N₁
        obtain ⟨ms2, cm2, tups2, N2, ht2, hD2, hdl2, hr3⟩ := MkS.open ⟨led, hI, N₁⟩ (fun q hq e => hr1 q hq (by rw [e]; exact .head _))
        have hj : j < l.length := (List.getElem?_eq_some_iff.mp hc).1
        have hlj : ms2.length ≤ 40000 := by
          rw [hdl2, List.length_append, List.length_map, List.length_take]
          omega
        clear N₁ N9 F9 hr hWn hWr
        k_steps
        obtain ⟨led', hI', N'⟩ := MkS.push (R := rest') ht2 hD2 (show tx [c] = tx [c] from rfl) (show Str.ofString "bare" = kdS .ba from rfl) (by assumption)
        refine .next (frM (by k_asm) (by walk_at "m_map")) N' hI'.lt ⟨_, rfl, ?_⟩
        rw [List.take_add_one, hc, List.map_append, ← List.append_assoc]
        exact hI'
      · rintro m₁ led h tk ⟨so', rfl, hI⟩ F₁ N₁
        rw [List.take_length, ← hwm] at hI
        clear N9 F9 hr hWn hWr
        k_steps
        exact post _ _ so' F₁ ⟨led, hI, N₁⟩
    · rw [Bool.not_eq_true] at hb
      have hwm : ms ++ wm l = (ms ++ [(39, .op)] ++ l.flatMap qm) ++ [(39, .sh)] := by unfold wm; rw [if_neg (by rw [hb]; decide)]; simp
      rw [hb]
      k_steps
      unfold Hlt
      rename Fr g L _ _ => F9
      rename News g L _ _ => N8
      obtain ⟨led1, hI1, N1⟩ := MkS.push (R := R) ht hD (show Str.ofString "'" = tx [39] by decide +kernel) (show Str.ofString "opens" = kdS .op from rfl) N8
      refine iter_str (l := l) (led₀ := led1) (rest := R) [M] (fun j m₁ led => ∃ so, m₁ = mkM (some (.int (i : Int) t)) so M W ∧ MkI M led (ms ++ [(39, .op)] ++ (l.take j).flatMap qm) ∧ ((l.take j).flatMap qm).length ≤ 5 * j) rfl F9 N1
        (fun q hq e => hR q hq (List.mem_singleton.mp e)) (fun b hb => by rw [List.mem_singleton.mp hb]; exact Heap.lt_size (N8.get (.tail _ (.head _)))) ⟨so, rfl, by simpa using hI1, Nat.le_refl _⟩ ?_ ?_
      · rintro j c u m₁ led h tk rest' hc ⟨so, rfl, hI, hfl⟩ hr1 hr2 F₁ N₁
        obtain ⟨ms2, cm2, tups2, N2, ht2, hD2, hdl2, hr3⟩ := MkS.open ⟨led, hI, N₁⟩ (fun q hq e => hr1 q hq (by rw [e]; exact .head _))
        have hj : j < l.length := (List.getElem?_eq_some_iff.mp hc).1
        have hlj : ms2.length ≤ 40000 := by
          rw [hdl2, List.length_append, List.length_append]
          simp only [List.length_cons, List.length_nil]
          omega
        have hstep : (l.take (j + 1)).flatMap qm = (l.take j).flatMap qm ++ qm c := by
          rw [List.take_add_one, hc, List.flatMap_append]
          simp
        clear N₁ F9 hr hWn hWr N8 N1 hI1 hx hWm hml hD S htl hcp
        by_cases h39 : c = 39
        · subst h39
          refine marks_ext B (frM F₁ (by walk_at "m_map")) K T N2 hr3 hlj ht2 hD2 fun h' k F' S' => ?_
          obtain ⟨led', hI', N'⟩ := S'
          refine .next F' N' hI'.lt ⟨_, rfl, ?_, ?_⟩
          · rw [hstep, ← List.append_assoc]
            exact hI'
          · rw [hstep, List.length_append]
            have : (qm 39).length = 5 := rfl
            omega
        · have hq : (tx [c] == Str.ofString "'") = false := by
            rw [show Str.ofString "'" = tx [39] by decide +kernel, txeq, decide_eq_false h39]
          k_steps
          obtain ⟨led', hI', N'⟩ := MkS.push (R := rest') ht2 hD2 (show tx [c] = tx [c] from rfl) (show Str.ofString "in" = kdS .inn from rfl) (by assumption)
          have hqm : qm c = [(c, .inn)] := by unfold qm; rw [if_neg h39]
          refine .next (frM (by k_asm) (by walk_at "m_map")) N' hI'.lt ⟨_, rfl, ?_, ?_⟩
          · rw [hstep, hqm, ← List.append_assoc]
            exact hI'
          · rw [hstep, hqm, List.length_append, List.length_singleton]
            omega
      · rintro m₁ led h tk ⟨so', rfl, hI, hfl⟩ F₁ N₁
        rw [List.take_length] at hI
        obtain ⟨ms2, cm2, tups2, N2, ht2, hD2, hdl2, hr3⟩ := MkS.open ⟨led, hI, N₁⟩ hR
        have hlj : ms2.length ≤ 40000 := by
          rw [List.take_length] at hfl
          rw [hdl2, List.length_append, List.length_append]
          simp only [List.length_cons, List.length_nil]
          omega
        clear N₁ F9 hr hWn hWr N8 N1 hI1
        k_steps
        refine post _ _ so' (by k_asm) ?_
        rw [hwm]
        exact MkS.push (R := R) ht2 hD2 (show Str.ofString "'" = tx [39] by decide +kernel) (show Str.ofString "shut" = kdS .sh from rfl) (by assumption)
end

end
section
theorem mk_take {ws : List (List Nat)} {i : Nat} {l : List Nat} (h : ws[i]? = some l) : mk (ws.take (i + 1)) = (mk (ws.take i) ++ if i = 0 then [] else [(32, .bt)]) ++ wm l := by
  rw [List.take_add_one, h]
  show mk (ws.take i ++ [l]) = _
  rw [mk_snoc]
  have hi := (List.getElem?_eq_some_iff.mp h).1
  by_cases h0 : i = 0
  · subst h0; simp
  · have : ws.take i ≠ [] := fun e => by
      have := congrArg List.length e
      rw [List.length_take, List.length_nil] at this
      omega
    simp [h0, this]
theorem qm_len (c : Nat) : (qm c).length ≤ 5 := by
  unfold qm
  split <;> simp
theorem wm_len2 (l : List Nat) : (wm l).length ≤ 5 * l.length + 2 := by
  unfold wm
  split
  · simp; omega
  · have : ∀ l : List Nat, (l.flatMap qm).length ≤ 5 * l.length := by
      intro l
      induction l with
      | nil => simp
      | cons c l ih =>
        have := qm_len c
        rw [List.flatMap_cons, List.length_append, List.length_cons]
        omega
    have := this l
    rw [List.length_cons, List.length_append, List.length_singleton]
    omega
theorem WsOk.mkLen {ws : List (List Nat)} (h : WsOk ws 60) (i : Nat) : i ≤ ws.length → (mk (ws.take i)).length ≤ 310 * i := by
  induction i with
  | zero => intro _; simp [mk]
  | succ i ih =>
    intro hi
    have hl : ws[i]? = some ws[i] := List.getElem?_eq_getElem (by omega)
    rw [mk_take hl, List.length_append, List.length_append]
    have h1 := ih (by omega)
    have h2 := wm_len2 ws[i]
    have h3 := (h.2 ws[i] (List.mem_of_getElem? hl)).1
    have h4 : (if i = 0 then [] else [(32, Kd.bt)] : List (Nat × Kd)).length ≤ 1 := by split <;> simp
    omega
section
variable {w : World} {A : Around} {cn : Str} {cs : Scope} {a : Addr} {ccd : Value} {cl : List (Str × Addr)} {outer : List Env} {A₀ : Around} {base h₀ : Heap} {L : Addr} {m : Str → Option Value} {mean : ExcName → Option Value} {mg mb : Str → Option Value} {s : Shared} {Q E : Value → Shared → Prop} {rest : List (Addr × Obj)}
local macro_rules | `(tactic| walk_at "pyIter ref") => `(tactic| (refine hlt_ ?_))
local macro_rules | `(tactic| walk_at "call builtin:len") => `(tactic| (k_here; k_dflt (refine' KM.len_K ?N ?m ?s ?f ?_; (case N => k_asm); (case m => k_mem); (case s => assumption); (case f => omega); k_whole)))
local macro_rules | `(tactic| walk_at "exec For Name Call cons nil") => `(tactic| (k_here; (rename Fr _ _ _ _ => lF'); (with_unfolding_all refine' For_invVF lF' ?k1 ?k2 ?_; (case k1 => exact rfl); (case k2 => exact rfl); k_whole)))
local macro_rules | `(tactic| walk_at "m_map") => `(tactic| (refine fun_on ["words", "marks", "k", "sign"] (fun y hy => by (simp only [List.mem_cons, List.not_mem_nil, or_false, not_or] at hy; simp only [mp, hy, if_false]; try ((with_unfolding_all refine lkpN ?_); simp only [hy, not_false_eq_true]))) ?_; (repeat' (first | exact True.intro | (refine And.intro (by with_unfolding_all rfl) ?_)))))
theorem c_marks {W : Addr} {vs : List Value} {c : Nat} {ws : List (List Nat)} (B : Below A₀ base outer h₀) (F : Fr h₀ L s.heap m) (X : (HK w.params).In h₀) (T : Top VW LS mean mg mb h₀) (hk : cs.kind = .function)
    (hA : A.frames = some (envX cn cs L a ccd cl :: outer)) (hh : A.handled = none) (hd : A.depth ≤ 500) (hu : A.units ≤ 500)
    (N : News h₀ L s.heap ((W, lo vs c) :: rest)) (hT : Texts vs ws) (hW : WsOk ws 60)
    (post : ∀ M ms c' tups h' k, (∀ q ∈ (W, lo vs c) :: rest, q.1 < M) → (∀ q ∈ tups, q.2.cls = .type "tuple") → DatAll tups ms ((mk ws).map mkD) → Fr h₀ L h' m → News h₀ L h' ((M, lo ms c') :: (tups ++ (W, lo vs c) :: rest)) → Q (.ref M) { s with heap := h', toks := k }) :
    wpAny (model PG w) A (call (.ref 792) [.ref W]) Q E s := by
  refine wpAny_weak (A' := ktrTop 500 500 none cn cs L a ccd cl outer) ?_ hh hd hA rfl hu
  have hvl := hT.length
  have hwl := hW.1
  have hvs : vs.toArray.size = ws.length := by rw [List.size_toArray]; exact hvl
  w_on
  refine wpAny_call ?_
  k_dflt (walk_at "m_enter")
  rename_i g' L' h' FG' F' N' B' X' T'
  clear F N
  k_steps
  unfold Hlt
  rename_i l0 ha l1 hb F9 N9 h9 n9 t9 u9 v9 hR F8 N8 hkeep
  refine iter_rng (n := ws.length) (led₀ := [(l0, lo [] 0)]) (rest := (W, lo vs c) :: rest) [l0] (fun i m₁ led => ∃ ko so, m₁ = mkM ko so l0 W ∧ MkI l0 led (mk (ws.take i)))
    rfl (frM F8 (by walk_at "m_map")) N8 hR (by omega) ?_ ?_ ⟨none, none, rfl, MkI.nil⟩ ?_ ?_
  · intro q hq hm
    rw [List.mem_singleton] at hm
    rcases List.mem_cons.mp hq with rfl | hq
    · exact absurd l1.1 (by rw [show W = l0 from hm]; exact Nat.lt_irrefl _)
    · exact absurd (allLt_mem l1.2 q hq) (by rw [hm]; exact Nat.lt_irrefl _)
  · intro b hb
    rw [List.mem_singleton.mp hb]
    exact Heap.lt_size (N8.get (.head _))
  · rintro i t m₁ led h tk rest' hi ⟨ko, so, rfl, hI⟩ hr1 hr2 F₁ N₁
    obtain ⟨l, hl⟩ : ∃ l, ws[i]? = some l := ⟨_, List.getElem?_eq_getElem hi⟩
    obtain ⟨u, hu1⟩ : ∃ u, vs[i]? = some (.str (tx l) u) := by
      obtain ⟨us, hus, rfl⟩ := hT
      have hi2 : i < us.length := by omega
      have hz : (ws.zip us)[i]? = some (l, us[i]) := List.getElem?_zip_eq_some.mpr ⟨hl, List.getElem?_eq_getElem hi2⟩
      exact ⟨us[i], by rw [List.getElem?_map, hz]; rfl⟩
    have hlw := hW.2 l (List.mem_of_getElem? hl)
    have hml := hW.mkLen i (Nat.le_of_lt hi)
    have hR' : ∀ q ∈ rest', q.1 ≠ l0 := fun q hq e => hr1 q hq (by rw [e]; exact .head _)
    refine wpAny_noRaise ?_
    refine wpAny_weak (A' := mkA L' (envX cn cs L a ccd cl :: outer)) ?_ rfl (Nat.le_of_ble_eq_true rfl) rfl rfl (Nat.le_of_ble_eq_true rfl)
    refine marks_pre (i := i) (M := l0) (W := W) (ms := mk (ws.take i)) (so := so) (R := rest') B' (frM F₁ (by walk_at "m_map")) X' T' ⟨led, hI, N₁⟩ hR' (by omega) (by omega) fun h2 k2 F2 S2 => ?_
    refine marks_word B' F2 X' T' S2 hR' ?_ (by omega) (hr2 _ (.head _)) hu1 hlw.1 hlw.2 fun h3 k3 so3 F3 S3 => ?_
    · have h4 : (if i = 0 then [] else [(32, Kd.bt)] : List (Nat × Kd)).length ≤ 1 := by split <;> simp
      rw [List.length_append]
      omega
    · obtain ⟨led3, hI3, N3⟩ := S3
      refine .next F3 N3 hI3.lt ⟨_, _, rfl, ?_⟩
      rw [mk_take hl]
      exact hI3
  · rintro m₁ led h tk ⟨ko, so, rfl, ⟨ms, cm, tups, rfl, htt, hD⟩⟩ F₁ N₁
    rw [List.take_length] at hD
    replace N₁ : News g' L' h ((l0, lo ms cm) :: (tups ++ (W, lo vs c) :: rest)) := N₁
    clear F9 N9 F8 N8 hkeep
    k_steps
    rename_i kF kN kT kX
    refine post l0 ms cm tups _ _ (fun q hq => ?_) htt hD kF kN
    rcases List.mem_cons.mp hq with rfl | hq
    · exact l1.1
    · exact allLt_mem l1.2 q hq
end

end
section
section
variable {w : World} {A : Around} {E : Value → Shared → Prop} {s : Shared} {env : Env} {h₀ : Heap} {body : List Stmt} {Q : Flow → Shared → Prop} {rest led₀ : List (Addr × Obj)} {m₀ : Str → Option Value}
theorem iter_pairs {xi xc : Str} {pk pv pt : Pos} {x1 : Nat} {l : Addr} {vs : List Value} {c : Nat} {P2 : Nat → Value → Value → Prop} (adr : List Addr) (J : Nat → (Str → Option Value) → List (Addr × Obj) → Prop) (hh : A.handled = none)
    (hxi : env.kindOf xi = some .local) (hxc : env.kindOf xc = some .local) (hp : (env.scope.kind == .class || (env.scope.kind == .module && env.locals != env.globals)) = false)
    (F : Fr h₀ env.locals s.heap m₀) (N : News h₀ env.locals s.heap (led₀ ++ rest)) (hl : (l, lo vs c) ∈ rest) (htup : ∀ (i : Nat) v, vs[i]? = some v → ∃ T v0 v1 n, v = .ref T ∧ (T, ({ cls := .type "tuple", data := .seq #[v0, v1] n } : Obj)) ∈ rest ∧ P2 i v0 v1)
    (hra : ∀ q ∈ rest, q.1 ∉ adr) (hlt : ∀ b ∈ adr, b < s.heap.objs.size) (h0 : J 0 m₀ led₀)
    (turn : ∀ i v0 v1 m₁ led h tk rest', i < vs.length → P2 i v0 v1 → J i m₁ led → (∀ q ∈ rest', q.1 ∉ adr) → (∀ q ∈ rest, q ∈ rest') → Fr h₀ env.locals h (fun y => if y = xc then some v1 else if y = xi then some v0 else m₁ y) → News h₀ env.locals h (led ++ rest') →
      wpAny (model PG w) A (execs body env) (TurnEnd h₀ env.locals Q (J (i + 1)) rest' s) E { s with heap := h, toks := tk })
    (done : ∀ m₁ led h tk, J vs.length m₁ led → Fr h₀ env.locals h m₁ → News h₀ env.locals h (led ++ rest) → Q .next { s with heap := h, toks := tk }) :
    wpAny (model PG w) A (pyIter (.ref l)) (fun it s₂ => TurnsAt PG w A h₀ env (.Tuple [.Name xi pk, .Name xc pv] x1 pt) body Q E it s₂) E s := by
  have hlm := N (l, lo vs c) (List.mem_append_right _ hl)
  have hls : s.heap.IsList l vs.toArray := ⟨_, hlm.1, rfl, _, rfl⟩
  have hlt' : l < s.heap.objs.size := Heap.lt_size hlm.1
  refine wpAny_pyIter_list hls ?_
  have W := Walks.list (prog := PG) (w := w) hh s.heap.objs.size l (Nat.ne_of_lt hlt') vs.toArray
  rw [List.size_toArray] at W
  have hrI : ∀ q ∈ led₀ ++ rest, q.1 ≠ s.heap.objs.size := fun q hq => Nat.ne_of_lt (Heap.lt_size (N q hq).1)
  refine ⟨s.heap.objs.size, [s.heap.objs.size, l], [s.heap.objs.size], vs.length, _, _, _, m₀, led₀ ++ rest, fun i m nw => ∃ led, nw = led ++ rest ∧ J i m led, rfl, KTurns.ofWalks W (fun i v s' Q' E' st q => ?_), ?_, fun b hb => by rw [List.mem_singleton.mp hb]; exact next_is_new F,
    fun p hp q => hrI p hp (List.mem_singleton.mp q), ⟨⟨_, Heap.get?_push_size _ rfl, rfl, rfl⟩, hls.at fun o e => Heap.get?_push_of_some _ e⟩, F.push _, fun p hp => ⟨Heap.get?_push_of_some _ (N p hp).1, (N p hp).2⟩, ⟨led₀, rfl, h0⟩, ?_, ?_⟩
  · cases v with
    | ref T => exact wpAny_letOwnedTupleGo_listiter st.1 q
    | _ => exact wpAny_pure q
  · intro hm
    rcases List.mem_cons.mp hm with e | hm
    · exact absurd F.ns.lt (e ▸ Nat.lt_irrefl _)
    · exact hlm.2.1 (List.mem_singleton.mp hm).symm
  · rintro i v m₁ news₁ h₁ tk₁ own hin hP ⟨led, rfl, hJ⟩ hoff hown _ hall hst' F₁ N₁
    obtain ⟨T, v0, v1, n, rfl, hTm, hP2⟩ := htup i v (by simpa using hP)
    obtain ⟨⟨oI, hoI, hcI, hdI⟩, _⟩ := id hst'
    have hmI : (s.heap.objs.size, oI) ∈ own := hall _ (.head _) (next_is_new F) oI hoI
    have hT : h₁.IsTuple T #[v0, v1] := ⟨_, (N₁ _ (List.mem_append_right _ (List.mem_append_right _ hTm))).1, rfl, _, rfl⟩
    refine wpAny_assign_Tuple hh hT rfl rfl fun h₃ hx₃ => ?_
    replace hx₃ : Heap.ExtBut h₁.objs.size h₁ h₃ := hx₃
    have up₃ : ∀ b o, h₁.get? b = some o → h₃.get? b = some o := fun b o x => hx₃ b o (Nat.ne_of_lt (Heap.lt_size x)) x
    have F₃ := F₁.keeps up₃
    have N₃ : News h₀ env.locals h₃ (own ++ (led ++ rest)) := fun p hp => ⟨up₃ _ _ (N₁ p hp).1, (N₁ p hp).2⟩
    show wpAny _ A (do holding [v1] (assign (.Name xi pk) env v0); do holding [] (assign (.Name xc pv) env v1); pure ()) _ _ _
    refine wpAny_bind (wpAny_holding (wpAny_assign_Name (wpAny_storeName_local hxi F₃.ns (fun h₄ hn₄ hs₄ => ?_) hp)))
    replace hs₄ : Heap.SameBut env.locals h₃ h₄ := hs₄
    have F₄ := F₃.set hn₄ hs₄
    refine wpAny_bind (wpAny_holding (wpAny_assign_Name (wpAny_storeName_local hxc F₄.ns (fun h₅ hn₅ hs₅ => wpAny_pure ?_) hp)))
    replace hs₅ : Heap.SameBut env.locals h₄ h₅ := hs₅
    have F₅ := F₄.set hn₅ hs₅
    have N₅ : News h₀ env.locals h₅ (own ++ (led ++ rest)) := (N₃.set hs₄).set hs₅
    refine wpAny_mono (turn i v0 v1 m₁ led h₅ _ (rest ++ own) hin hP2 hJ (fun q hq => ?_) (fun q hq => List.mem_append_left _ hq) F₅ (news_sub N₅ fun q hq => ?_)) (fun f s₂ p => step_of (fun q hq => hrI q (List.mem_append_right _ hq)) hmI (by rw [hcI]; exact ⟨by decide, by decide⟩) p) fun _ _ e => e
    · rcases List.mem_append.mp hq with h | h
      · exact hra q h
      · rcases List.mem_cons.mp (hown q h) with e | e
        · rw [e]; exact fun h => Nat.lt_irrefl _ (hlt _ h)
        · rw [List.mem_singleton.mp e]; exact hra _ hl
    · simp only [List.mem_append] at hq ⊢
      rcases hq with h | h | h <;> simp [h]
  · rintro h' tk m' news' F' N' _ ⟨led, rfl, hJ⟩
    exact done m' led h' tk hJ F' N'
end

end
section
structure RdOk (st : Rs) (i : Nat) : Prop where
  wl : st.ws.length ≤ i
  wm : ∀ l ∈ st.ws, l.length ≤ i
  tl : st.ts.length ≤ i
  tm : ∀ l ∈ st.ts, l.length ≤ i
  ne : st.fr = false → st.ws ≠ [] ∧ st.ts ≠ []
def LnOk (ws : List (List Nat)) (i : Nat) : Prop := ws.length ≤ i ∧ ∀ l ∈ ws, l.length ≤ i
theorem LnOk.mono {ws : List (List Nat)} {i : Nat} (h : LnOk ws i) : LnOk ws (i + 1) := ⟨Nat.le_succ_of_le h.1, fun l hl => Nat.le_succ_of_le (h.2 l hl)⟩
theorem LnOk.new {ws : List (List Nat)} {i : Nat} (h : LnOk ws i) : LnOk (ws ++ [[]]) (i + 1) := by
  refine ⟨by rw [List.length_append, List.length_singleton]; exact Nat.succ_le_succ h.1, fun l hl => ?_⟩
  rcases List.mem_append.mp hl with hl | hl
  · exact Nat.le_succ_of_le (h.2 l hl)
  · rw [List.mem_singleton.mp hl]; exact Nat.zero_le _
theorem LnOk.app {ws : List (List Nat)} {i c : Nat} (h : LnOk ws i) : LnOk (app1 ws c) (i + 1) := by
  rcases List.eq_nil_or_concat ws with rfl | ⟨ws', l, rfl⟩
  · exact ⟨by simp [app1], fun l hl => by simp [app1] at hl; subst hl; simp⟩
  · rw [List.concat_eq_append] at h ⊢
    rw [app1_snoc]
    refine ⟨by have := h.1; rw [List.length_append, List.length_singleton] at this ⊢; omega, fun l' hl => ?_⟩
    rcases List.mem_append.mp hl with hl | hl
    · exact Nat.le_succ_of_le (h.2 l' (List.mem_append_left _ hl))
    · rw [List.mem_singleton.mp hl, List.length_append, List.length_singleton]
      exact Nat.succ_le_succ (h.2 l (List.mem_append_right _ (.head _)))
theorem LnOk.newApp {ws : List (List Nat)} {i c : Nat} (h : LnOk ws i) : LnOk (app1 (ws ++ [[]]) c) (i + 1) := by
  rw [app1_snoc]
  refine ⟨by rw [List.length_append, List.length_singleton]; exact Nat.succ_le_succ h.1, fun l hl => ?_⟩
  rcases List.mem_append.mp hl with hl | hl
  · exact Nat.le_succ_of_le (h.2 l hl)
  · rw [List.mem_singleton.mp hl]; simp
theorem app1_ne (ws : List (List Nat)) (c : Nat) : app1 ws c ≠ [] := by simp [app1]
theorem rstep_ok {st : Rs} {i : Nat} (h : RdOk st i) (p : Nat × Kd) : RdOk (rstep st p) (i + 1) := by
  obtain ⟨c, k⟩ := p
  have hw : LnOk st.ws i := ⟨h.wl, h.wm⟩
  have ht : LnOk st.ts i := ⟨h.tl, h.tm⟩
  have go : ∀ (ws' ts' : List (List Nat)) (fr ins : Bool), LnOk ws' (i + 1) → LnOk ts' (i + 1) → (fr = false → ws' ≠ [] ∧ ts' ≠ []) → RdOk ⟨ws', ts', fr, ins⟩ (i + 1) := fun _ _ _ _ a b d => ⟨a.1, a.2, b.1, b.2, d⟩
  cases hf : st.fr
  · obtain ⟨n1, n2⟩ := h.ne hf
    cases k <;> simp only [rstep, hf, Bool.false_eq_true, if_false]
    · exact go _ _ _ _ hw.mono ht.mono (fun e => nomatch e)
    · exact go _ _ _ _ hw.app ht.app fun _ => ⟨app1_ne _ _, app1_ne _ _⟩
    · exact go _ _ _ _ hw.mono ht.newApp fun _ => ⟨n1, app1_ne _ _⟩
    · exact go _ _ _ _ hw.app ht.app fun _ => ⟨app1_ne _ _, app1_ne _ _⟩
    · exact go _ _ _ _ hw.mono ht.app fun _ => ⟨n1, app1_ne _ _⟩
  · have n1 : st.ws ++ [[]] ≠ [] := by simp
    cases k <;> simp only [rstep, hf, if_true]
    · exact go _ _ _ _ hw.mono ht.mono (fun e => nomatch e)
    · exact go _ _ _ _ hw.newApp ht.newApp fun _ => ⟨app1_ne _ _, app1_ne _ _⟩
    · exact go _ _ _ _ hw.new ht.newApp fun _ => ⟨n1, app1_ne _ _⟩
    · exact go _ _ _ _ hw.newApp ht.newApp fun _ => ⟨app1_ne _ _, app1_ne _ _⟩
    · exact go _ _ _ _ hw.new ht.newApp fun _ => ⟨n1, app1_ne _ _⟩
theorem rd_step {mm : List (Nat × Kd)} {i : Nat} {p : Nat × Kd} (h : mm[i]? = some p) : rd (mm.take (i + 1)) = rstep (rd (mm.take i)) p := by
  unfold rd
  rw [List.take_add_one, h, List.foldl_append]
  rfl
theorem dat_inv {n : List (Addr × Obj)} {v : Value} {c : Nat} {k : Kd} (h : DatIn n v (mkD (c, k))) : ∃ T u1 u2 e, v = .ref T ∧ (T, ({ cls := .type "tuple", data := .seq #[.str (tx [c]) u1, .str (kdS k) u2] e } : Obj)) ∈ n := by
  unfold mkD at h
  cases h with
  | tuple hm hd =>
    cases hd with
    | cons h1 hd =>
      cases hd with
      | cons h2 hd =>
        cases hd
        cases h1
        cases h2
        exact ⟨_, _, _, _, rfl, hm⟩
theorem TurnEnd.next2 {h₀ : Heap} {L : Addr} {Q : Flow → Shared → Prop} {J : (Str → Option Value) → List (Addr × Obj) → Prop} {rest' : List (Addr × Obj)} {a b : Addr} {vs us : List Value} {c d : Nat} {s : Shared} {h' : Heap} {tk : Nat} {m m' : Str → Option Value}
    (F : Fr h₀ L h' m) (N : News h₀ L h' ((a, lo vs c) :: (b, lo us d) :: rest')) (e : m = m') (j : J m' [(a, lo vs c), (b, lo us d)]) : TurnEnd h₀ L Q J rest' s .next { s with heap := h', toks := tk } := ⟨h', tk, m', _, rfl, e ▸ F, N, LT.nil.list.list, j⟩
theorem T_app {vs : List Value} {ws : List (List Nat)} {l : List Nat} {c : Nat} {t : Tok} (h : Texts vs ws) : Texts (vs ++ [.str (tx l ++ tx [c]) t]) (app1 (ws ++ [l]) c) := by
  rw [app1_snoc, tx_append]
  exact h.snoc
theorem T_new {vs : List Value} {ws : List (List Nat)} {t : Tok} (h : Texts vs ws) : Texts (vs ++ [.str (Str.ofString "") t]) (ws ++ [[]]) := by
  rw [show Str.ofString "" = tx [] by decide +kernel]
  exact h.snoc
theorem T_newApp {vs : List Value} {ws : List (List Nat)} {c : Nat} {t : Tok} (h : Texts vs ws) : Texts (vs ++ [.str (Str.ofString "" ++ tx [c]) t]) (app1 (ws ++ [[]]) c) := by
  rw [show Str.ofString "" = tx [] by decide +kernel]
  exact T_app h
theorem str_beq (a b : String) : (Str.ofString a == Str.ofString b) = decide (a = b) := by
  rw [Bool.eq_iff_iff, beq_iff_eq, str_inj, decide_eq_true_eq]
noncomputable abbrev rdM (ko so : Option Value) (ins fr : Bool) (Tk Wd M : Addr) : Str → Option Value := mp [("mark", ko), ("sign", so), ("inside", some (.bool ins)), ("fresh", some (.bool fr)), ("tokens", some (.ref Tk)), ("words", some (.ref Wd)), ("marks", some (.ref M))]
section
variable {w : World} {A : Around} {cn : Str} {cs : Scope} {a : Addr} {ccd : Value} {cl : List (Str × Addr)} {outer : List Env} {A₀ : Around} {base h₀ : Heap} {L : Addr} {m : Str → Option Value} {mean : ExcName → Option Value} {mg mb : Str → Option Value} {s : Shared} {Q E : Value → Shared → Prop} {rest : List (Addr × Obj)}
local macro_rules | `(tactic| walk_at "pyIter ref") => `(tactic| (refine hlt_ ?_))
local macro_rules | `(tactic| walk_at "exec For Tuple Name cons nil") => `(tactic| (k_here; (rename Fr _ _ _ _ => lF'); (with_unfolding_all refine' For_turns lF' ?_; k_whole)))
local macro_rules | `(tactic| walk_at "call builtin:list.append") => `(tactic| (k_here; k_dflt (refine' append_L ?k1 ?k2 ?k3 ?z ?_; (case k1 => k_asm); (case k2 => k_asm); (case k3 => k_upd); (case z => ((try simp only [List.length_append, List.length_cons, List.length_nil]); omega)); k_whole); intro h' F' N'; (try k_sweep)))
local macro_rules | `(tactic| walk_at "subscriptTail") => `(tactic| (k_here; k_dflt (refine' get_last ?k1 ?k2 ?_ ?k3; (case k1 => k_asm); (case k2 => k_mem); (case k3 => with_unfolding_all rfl); k_whole)))
local macro_rules | `(tactic| walk_at "setItem ref int") => `(tactic| (k_here; k_dflt (refine' set_last ?k1 ?k2 ?k3 ?_; (case k1 => k_asm); (case k2 => k_asm); (case k3 => k_upd); k_whole); intro h' F' N'; (try k_sweep)))
local macro_rules | `(tactic| walk_at "m_map") => `(tactic| (refine fun_on ["marks", "words", "tokens", "fresh", "inside", "sign", "mark"] (fun y hy => by (simp only [List.mem_cons, List.not_mem_nil, or_false, not_or] at hy; simp only [mp, hy, if_false]; try ((with_unfolding_all refine lkpN ?_); simp only [hy, not_false_eq_true]))) ?_; (repeat' (first | exact True.intro | (refine And.intro (by first | (simp only [rdM, mp, str_inj, String.reduceEq, if_true, if_false]; done) | (simp only [rdM, mp, str_inj, String.reduceEq, if_true, if_false]; rfl) | with_unfolding_all rfl) ?_)))))
theorem c_lread {M : Addr} {ms : List Value} {c : Nat} {mm : List (Nat × Kd)} (B : Below A₀ base outer h₀) (F : Fr h₀ L s.heap m) (X : (HK w.params).In h₀) (T : Top VW LS mean mg mb h₀) (hk : cs.kind = .function)
    (hA : A.frames = some (envX cn cs L a ccd cl :: outer)) (hh : A.handled = none) (hd : A.depth ≤ 500) (hu : A.units ≤ 500)
    (N : News h₀ L s.heap ((M, lo ms c) :: rest)) (hD : DatAll rest ms (mm.map mkD)) (hlen : mm.length ≤ 20000)
    (post : ∀ R Tk Wd wv tv c1 c2 h' k, (∀ q ∈ (M, lo ms c) :: rest, q.1 < Wd) → Wd < Tk → Texts wv (rd mm).ws → Texts tv (rd mm).ts → Fr h₀ L h' m → News h₀ L h' ((R, { cls := .type "tuple", data := .seq #[.ref Wd, .ref Tk, .bool (rd mm).ins] }) :: (Tk, lo tv c2) :: (Wd, lo wv c1) :: (M, lo ms c) :: rest) → Q (.ref R) { s with heap := h', toks := k }) :
    wpAny (model PG w) A (call (.ref 799) [.ref M]) Q E s := by
  refine wpAny_weak (A' := ktrTop 500 500 none cn cs L a ccd cl outer) ?_ hh hd hA rfl hu
  have hml := hD.length
  rw [List.length_map] at hml
  w_on
  refine wpAny_call ?_
  k_dflt (walk_at "m_enter")
  rename_i g' L' h' FG' F' N' B' X' T'
  clear F N
  k_steps
  unfold Hlt
  rename_i Wd ha l1 hb Tk hc l2 hd1 hd2 h9 F9 N9
  have hne : ¬ (@Eq Nat Tk Wd) := fun e => absurd l2.1 (by rw [show Tk = Wd from e]; exact Nat.lt_irrefl _)
  refine iter_pairs (P2 := fun i v0 v1 => ∃ c k u1 u2, mm[i]? = some (c, k) ∧ v0 = .str (tx [c]) u1 ∧ v1 = .str (kdS k) u2) (led₀ := [(Tk, lo [] 0), (Wd, lo [] 0)]) (rest := (M, lo ms c) :: rest) [Tk, Wd]
    (fun i m₁ led => ∃ ko so wv tv c1 c2, m₁ = rdM ko so (rd (mm.take i)).ins (rd (mm.take i)).fr Tk Wd M ∧ led = [(Tk, lo tv c2), (Wd, lo wv c1)] ∧ Texts wv (rd (mm.take i)).ws ∧ Texts tv (rd (mm.take i)).ts ∧ RdOk (rd (mm.take i)) i)
    rfl rfl rfl rfl (frM F9 (by walk_at "m_map")) N9 (.head _) ?_ ?_ ?_ ⟨none, none, [], [], 0, 0, rfl, rfl, .nil, .nil, Nat.le_refl _, (fun l hl => nomatch hl), Nat.le_refl _, (fun l hl => nomatch hl), fun h => nomatch h⟩ ?_ ?_
  · intro i v hv
    have hi : i < (mm.map mkD).length := by
      have := (List.getElem?_eq_some_iff.mp hv).1
      rw [List.length_map]; omega
    obtain ⟨v', hv', hd'⟩ := hD.get hi
    rw [hv] at hv'
    cases hv'
    rw [List.length_map] at hi
    have e : (mm.map mkD)[i]'(by rw [List.length_map]; exact hi) = mkD mm[i] := by rw [List.getElem_map]
    rw [e] at hd'
    obtain ⟨T, u1, u2, en, rfl, hm⟩ := dat_inv (c := mm[i].1) (k := mm[i].2) hd'
    exact ⟨T, _, _, en, rfl, .tail _ hm, mm[i].1, mm[i].2, u1, u2, List.getElem?_eq_getElem hi, rfl, rfl⟩
  · intro q hq hm
    have hq1 : q.1 < Wd := by
      rcases List.mem_cons.mp hq with rfl | hq
      · exact l1.1
      · exact allLt_mem l1.2 q hq
    rcases List.mem_cons.mp hm with e | e
    · exact absurd (Nat.lt_trans hq1 l2.1) (by rw [e]; exact Nat.lt_irrefl _)
    · exact absurd hq1 (by rw [List.mem_singleton.mp e]; exact Nat.lt_irrefl _)
  · intro b hb
    rcases List.mem_cons.mp hb with e | e
    · rw [e]; exact Heap.lt_size (N9.get (.head _))
    · rw [List.mem_singleton.mp e]; exact Heap.lt_size (N9.get (.tail _ (.head _)))
  · rintro i v0 v1 m₁ led h tk rest' hi ⟨c, k, u1, u2, hmi, rfl, rfl⟩ ⟨ko, so, wv, tv, c1, c2, rfl, rfl, hTw, hTt, hok⟩ hr1 hr2 F₁ N₁
    have hr3 : ∀ q ∈ rest', q.1 ≠ Tk := fun q hq e => hr1 q hq (by rw [e]; exact .head _)
    have hr4 : ∀ q ∈ rest', q.1 ≠ Wd := fun q hq e => hr1 q hq (by rw [e]; exact .tail _ (.head _))
    have hstep := rd_step hmi
    have hok' := rstep_ok hok (c, k)
    rw [← hstep] at hok'
    have hwl := hok.wl
    have htl := hok.tl
    have hw1 := hTw.length
    have ht1 := hTt.length
    replace N₁ : News g' L' h ((Tk, lo tv c2) :: (Wd, lo wv c1) :: rest') := N₁
    generalize hst : rd (mm.take i) = st at *
    clear F9 N9 hr1 hr2
    cases hf : st.fr
    · obtain ⟨n1, n2⟩ := hok.ne hf
      rcases List.eq_nil_or_concat st.ws with e | ⟨ws', lw, ew⟩
      · exact absurd e n1
      rcases List.eq_nil_or_concat st.ts with e | ⟨ts', lt, et⟩
      · exact absurd e n2
      rw [List.concat_eq_append] at ew et
      rw [ew] at hTw
      rw [et] at hTt
      obtain ⟨wv', uw, rfl, hTw'⟩ := hTw.last
      obtain ⟨tv', ut, rfl, hTt'⟩ := hTt.last
      have hz1 : tv'.length ≤ 30000 := by
        have := hTt'.length
        rw [et, List.length_append, List.length_singleton] at htl
        omega
      have hlw : (tx lw).length ≤ 30000 := by
        rw [tx_length]
        have := hok.wm lw (by rw [ew]; exact List.mem_append_right _ (.head _))
        omega
      have hlt : (tx lt).length ≤ 30000 := by
        rw [tx_length]
        have := hok.tm lt (by rw [et]; exact List.mem_append_right _ (.head _))
        omega
      rw [hf] at F₁
      cases k
      · dsimp only [kdS] at F₁
        have q0 : (Str.ofString "between" == Str.ofString "between") = true := by rw [str_beq]; decide
        have q1 : (Str.ofString "between" == Str.ofString "bare") = false := by rw [str_beq]; decide
        have q2 : (Str.ofString "between" == Str.ofString "opens") = false := by rw [str_beq]; decide
        have q3 : (Str.ofString "between" == Str.ofString "in") = false := by rw [str_beq]; decide
        have q4 : (Str.ofString "between" == Str.ofString "shut") = false := by rw [str_beq]; decide
        k_steps
        rw [hstep] at hok' ⊢
        exact .next2 (by k_asm) (by k_asm) (by walk_at "m_map") ⟨_, _, _, _, _, _, rfl, rfl, (by simp only [rstep, hf, ew, et, Bool.false_eq_true, if_false]; exact hTw), (by simp only [rstep, hf, ew, et, Bool.false_eq_true, if_false]; exact hTt), hok'⟩
      · dsimp only [kdS] at F₁
        have q0 : (Str.ofString "bare" == Str.ofString "between") = false := by rw [str_beq]; decide
        have q1 : (Str.ofString "bare" == Str.ofString "bare") = true := by rw [str_beq]; decide
        have q2 : (Str.ofString "bare" == Str.ofString "opens") = false := by rw [str_beq]; decide
        have q3 : (Str.ofString "bare" == Str.ofString "in") = false := by rw [str_beq]; decide
        have q4 : (Str.ofString "bare" == Str.ofString "shut") = false := by rw [str_beq]; decide
        k_steps
        rw [hstep] at hok' ⊢
        exact .next2 (by k_asm) (by k_asm) (by walk_at "m_map") ⟨_, _, _, _, _, _, rfl, rfl, (by simp only [rstep, hf, ew, et, Bool.false_eq_true, if_false]; exact T_app hTw'), (by simp only [rstep, hf, ew, et, Bool.false_eq_true, if_false]; exact T_app hTt'), hok'⟩
      · dsimp only [kdS] at F₁
        have q0 : (Str.ofString "opens" == Str.ofString "between") = false := by rw [str_beq]; decide
        have q1 : (Str.ofString "opens" == Str.ofString "bare") = false := by rw [str_beq]; decide
        have q2 : (Str.ofString "opens" == Str.ofString "opens") = true := by rw [str_beq]; decide
        have q3 : (Str.ofString "opens" == Str.ofString "in") = false := by rw [str_beq]; decide
        have q4 : (Str.ofString "opens" == Str.ofString "shut") = false := by rw [str_beq]; decide
        k_steps
        rw [hstep] at hok' ⊢
        exact .next2 (by k_asm) (by k_asm) (by walk_at "m_map") ⟨_, _, _, _, _, _, rfl, rfl, (by simp only [rstep, hf, ew, et, Bool.false_eq_true, if_false]; exact hTw), (by simp only [rstep, hf, ew, et, Bool.false_eq_true, if_false]; exact T_newApp hTt), hok'⟩
      · dsimp only [kdS] at F₁
        have q0 : (Str.ofString "in" == Str.ofString "between") = false := by rw [str_beq]; decide
        have q1 : (Str.ofString "in" == Str.ofString "bare") = false := by rw [str_beq]; decide
        have q2 : (Str.ofString "in" == Str.ofString "opens") = false := by rw [str_beq]; decide
        have q3 : (Str.ofString "in" == Str.ofString "in") = true := by rw [str_beq]; decide
        have q4 : (Str.ofString "in" == Str.ofString "shut") = false := by rw [str_beq]; decide
        k_steps
        rw [hstep] at hok' ⊢
        exact .next2 (by k_asm) (by k_asm) (by walk_at "m_map") ⟨_, _, _, _, _, _, rfl, rfl, (by simp only [rstep, hf, ew, et, Bool.false_eq_true, if_false]; exact T_app hTw'), (by simp only [rstep, hf, ew, et, Bool.false_eq_true, if_false]; exact T_app hTt'), hok'⟩
      · dsimp only [kdS] at F₁
        have q0 : (Str.ofString "shut" == Str.ofString "between") = false := by rw [str_beq]; decide
        have q1 : (Str.ofString "shut" == Str.ofString "bare") = false := by rw [str_beq]; decide
        have q2 : (Str.ofString "shut" == Str.ofString "opens") = false := by rw [str_beq]; decide
        have q3 : (Str.ofString "shut" == Str.ofString "in") = false := by rw [str_beq]; decide
        have q4 : (Str.ofString "shut" == Str.ofString "shut") = true := by rw [str_beq]; decide
        k_steps
        rw [hstep] at hok' ⊢
        exact .next2 (by k_asm) (by k_asm) (by walk_at "m_map") ⟨_, _, _, _, _, _, rfl, rfl, (by simp only [rstep, hf, ew, et, Bool.false_eq_true, if_false]; exact hTw), (by simp only [rstep, hf, ew, et, Bool.false_eq_true, if_false]; exact T_app hTt'), hok'⟩
    · rw [hf] at F₁
      cases k
      · dsimp only [kdS] at F₁
        have q0 : (Str.ofString "between" == Str.ofString "between") = true := by rw [str_beq]; decide
        have q1 : (Str.ofString "between" == Str.ofString "bare") = false := by rw [str_beq]; decide
        have q2 : (Str.ofString "between" == Str.ofString "opens") = false := by rw [str_beq]; decide
        have q3 : (Str.ofString "between" == Str.ofString "in") = false := by rw [str_beq]; decide
        have q4 : (Str.ofString "between" == Str.ofString "shut") = false := by rw [str_beq]; decide
        k_steps
        rw [hstep] at hok' ⊢
        exact .next2 (by k_asm) (by k_asm) (by walk_at "m_map") ⟨_, _, _, _, _, _, rfl, rfl, (by simp only [rstep, hf, if_true]; exact hTw), (by simp only [rstep, hf, if_true]; exact hTt), hok'⟩
      · dsimp only [kdS] at F₁
        have q0 : (Str.ofString "bare" == Str.ofString "between") = false := by rw [str_beq]; decide
        have q1 : (Str.ofString "bare" == Str.ofString "bare") = true := by rw [str_beq]; decide
        have q2 : (Str.ofString "bare" == Str.ofString "opens") = false := by rw [str_beq]; decide
        have q3 : (Str.ofString "bare" == Str.ofString "in") = false := by rw [str_beq]; decide
        have q4 : (Str.ofString "bare" == Str.ofString "shut") = false := by rw [str_beq]; decide
        k_steps
        rw [hstep] at hok' ⊢
        exact .next2 (by k_asm) (by k_asm) (by walk_at "m_map") ⟨_, _, _, _, _, _, rfl, rfl, (by simp only [rstep, hf, if_true]; exact T_newApp hTw), (by simp only [rstep, hf, if_true]; exact T_newApp hTt), hok'⟩
      · dsimp only [kdS] at F₁
        have q0 : (Str.ofString "opens" == Str.ofString "between") = false := by rw [str_beq]; decide
        have q1 : (Str.ofString "opens" == Str.ofString "bare") = false := by rw [str_beq]; decide
        have q2 : (Str.ofString "opens" == Str.ofString "opens") = true := by rw [str_beq]; decide
        have q3 : (Str.ofString "opens" == Str.ofString "in") = false := by rw [str_beq]; decide
        have q4 : (Str.ofString "opens" == Str.ofString "shut") = false := by rw [str_beq]; decide
        k_steps
        rw [hstep] at hok' ⊢
        exact .next2 (by k_asm) (by k_asm) (by walk_at "m_map") ⟨_, _, _, _, _, _, rfl, rfl, (by simp only [rstep, hf, if_true]; exact T_new hTw), (by simp only [rstep, hf, if_true]; exact T_newApp hTt), hok'⟩
      · dsimp only [kdS] at F₁
        have q0 : (Str.ofString "in" == Str.ofString "between") = false := by rw [str_beq]; decide
        have q1 : (Str.ofString "in" == Str.ofString "bare") = false := by rw [str_beq]; decide
        have q2 : (Str.ofString "in" == Str.ofString "opens") = false := by rw [str_beq]; decide
        have q3 : (Str.ofString "in" == Str.ofString "in") = true := by rw [str_beq]; decide
        have q4 : (Str.ofString "in" == Str.ofString "shut") = false := by rw [str_beq]; decide
        k_steps
        rw [hstep] at hok' ⊢
        exact .next2 (by k_asm) (by k_asm) (by walk_at "m_map") ⟨_, _, _, _, _, _, rfl, rfl, (by simp only [rstep, hf, if_true]; exact T_newApp hTw), (by simp only [rstep, hf, if_true]; exact T_newApp hTt), hok'⟩
      · dsimp only [kdS] at F₁
        have q0 : (Str.ofString "shut" == Str.ofString "between") = false := by rw [str_beq]; decide
        have q1 : (Str.ofString "shut" == Str.ofString "bare") = false := by rw [str_beq]; decide
        have q2 : (Str.ofString "shut" == Str.ofString "opens") = false := by rw [str_beq]; decide
        have q3 : (Str.ofString "shut" == Str.ofString "in") = false := by rw [str_beq]; decide
        have q4 : (Str.ofString "shut" == Str.ofString "shut") = true := by rw [str_beq]; decide
        k_steps
        rw [hstep] at hok' ⊢
        exact .next2 (by k_asm) (by k_asm) (by walk_at "m_map") ⟨_, _, _, _, _, _, rfl, rfl, (by simp only [rstep, hf, if_true]; exact T_new hTw), (by simp only [rstep, hf, if_true]; exact T_newApp hTt), hok'⟩
  · rintro m₁ led h tk ⟨ko, so, wv, tv, c1, c2, rfl, rfl, hTw, hTt, hok⟩ F₁ N₁
    rw [hml, List.take_length] at hTw hTt F₁
    replace N₁ : News g' L' h ((Tk, lo tv c2) :: (Wd, lo wv c1) :: (M, lo ms c) :: rest) := N₁
    clear F9 N9
    k_steps
    rename_i kF kN kT kX
    refine post _ Tk Wd wv tv c1 c2 _ _ (fun q hq => ?_) l2.1 hTw hTt kF kN
    rcases List.mem_cons.mp hq with rfl | hq
    · exact l1.1
    · exact allLt_mem l1.2 q hq
end

end
section
noncomputable abbrev lw0 : Stmt := by
  refine (fun (b : Stmt) (_ : b_law.getD 0 (.Pass ⟨0, 0, 0, 0⟩) = b) => b) ?b ?h
  case h => (conv => lhs; whnf)
noncomputable abbrev lw1 : Stmt := by
  refine (fun (b : Stmt) (_ : b_law.getD 1 (.Pass ⟨0, 0, 0, 0⟩) = b) => b) ?b ?h
  case h => (conv => lhs; whnf)
noncomputable abbrev lw2 : Stmt := by
  refine (fun (b : Stmt) (_ : b_law.getD 2 (.Pass ⟨0, 0, 0, 0⟩) = b) => b) ?b ?h
  case h => (conv => lhs; whnf)
noncomputable abbrev lw3 : Stmt := by
  refine (fun (b : Stmt) (_ : b_law.getD 3 (.Pass ⟨0, 0, 0, 0⟩) = b) => b) ?b ?h
  case h => (conv => lhs; whnf)
noncomputable abbrev lw4 : Stmt := by
  refine (fun (b : Stmt) (_ : b_law.getD 4 (.Pass ⟨0, 0, 0, 0⟩) = b) => b) ?b ?h
  case h => (conv => lhs; whnf)
noncomputable abbrev lw5 : Stmt := by
  refine (fun (b : Stmt) (_ : b_law.getD 5 (.Pass ⟨0, 0, 0, 0⟩) = b) => b) ?b ?h
  case h => (conv => lhs; whnf)
noncomputable abbrev lw6 : Stmt := by
  refine (fun (b : Stmt) (_ : b_law.getD 6 (.Pass ⟨0, 0, 0, 0⟩) = b) => b) ?b ?h
  case h => (conv => lhs; whnf)
noncomputable abbrev lw7 : Stmt := by
  refine (fun (b : Stmt) (_ : b_law.getD 7 (.Pass ⟨0, 0, 0, 0⟩) = b) => b) ?b ?h
  case h => (conv => lhs; whnf)
noncomputable abbrev lw8 : Stmt := by
  refine (fun (b : Stmt) (_ : b_law.getD 8 (.Pass ⟨0, 0, 0, 0⟩) = b) => b) ?b ?h
  case h => (conv => lhs; whnf)
noncomputable abbrev lwEnv (L fa : Addr) (cd : Value) : Env := envOf "law" s_law L fa cd
noncomputable def lwA0 : Around := { handled := none, depth := 310, frames := some [], guards := none, units := 50 }
noncomputable abbrev lwA (L fa : Addr) (cd : Value) : Around := lwA0.deeper (lwEnv L fa cd)
theorem nb_law : b_law = [lw0, lw1, lw2, lw3, lw4, lw5, lw6, lw7, lw8] := rfl
section
variable {w : World} {A₀ : Around} {base h₀ : Heap} {L fa S : Addr} {cd : Value} {mean : ExcName → Option Value} {mg mb : Str → Option Value} {s : Shared} {Q : Flow → Shared → Prop} {bg : List Stmt} {svs : List Value} {sns : List Int}
local macro_rules | `(tactic| walk_at "call ref") => `(tactic| (refine hlt_ ?_))
local macro_rules | `(tactic| walk_at "m_map") => `(tactic| (refine fun_on ["script", "digits", "words"] (fun y hy => by (simp only [List.mem_cons, List.not_mem_nil, or_false, not_or] at hy; simp only [mp, hy, if_false]; try ((with_unfolding_all refine lkpN ?_); simp only [hy, not_false_eq_true]))) ?_; (repeat' (first | exact True.intro | (refine And.intro (by with_unfolding_all rfl) ?_)))))
theorem law1 (B : Below A₀ base [] h₀) (F : Fr h₀ L s.heap (mp [("script", some (.ref S))])) (K : (HK w.params).In h₀) (T : Top VW LS mean mg mb h₀) (N : News h₀ L s.heap [(746, tabObj #[])]) (hl : h₀.IsList S svs.toArray) (hi : IntsAre svs sns) (hlen : sns.length ≤ 63)
    (post : ∀ D W ds c vs c' ms ws h' k, 746 < D → D < W → DgOk ds ms 60 → Texts vs ws → WsOk ws 60 → Fr h₀ L h' (mp [("words", some (.ref W)), ("digits", some (.ref D)), ("script", some (.ref S))]) → News h₀ L h' [(W, lo vs c'), (D, lo ds c), (746, tabObj #[])] →
      wpAny (model PG w) (lwA L fa cd) (execs bg (lwEnv L fa cd)) Q (fun _ _ => False) { s with heap := h', toks := k }) :
    wpAny (model PG w) (lwA L fa cd) (execs (lw0 :: lw1 :: bg) (lwEnv L fa cd)) Q (fun _ _ => False) s := by
  w_on
  k_steps
  unfold Hlt
  refine' c_digits ?k1 ?k2 ?k3 ?k4 ?k5 ?k6 ?k7 ?k8 ?k9 ?k10 hl hi hlen ?post; (case k6 => exact rfl); (case k2 => k_asm); (case k1 => k_asm); (case k3 => k_asm); (case k4 => k_asm); (case k5 => exact rfl); (case k7 => exact rfl); (case k8 => exact Nat.le_of_ble_eq_true rfl); (case k9 => exact Nat.le_of_ble_eq_true rfl); (case k10 => k_asm)
  case post =>
    intro D ds c ms h1 k1 hDr hds hdo hdl F1 N1
    have hD7 : 746 < D := hDr _ (.head _)
    clear F N
    by_cases hdr : (ms.drop 1).length = 0
    · k_steps
      unfold Hlt
      refine' c_words (ns := [0, 5, 8, 0, 1]) ?k1 ?k2 ?k3 ?k4 ?k5 ?k6 ?k7 ?k8 ?k9 ?k10 ?hi ?hn ?hl ?post; (case k6 => exact rfl); (case k2 => k_asm); (case k1 => k_asm); (case k3 => k_asm); (case k4 => k_asm); (case k5 => exact rfl); (case k7 => exact rfl); (case k8 => exact Nat.le_of_ble_eq_true rfl); (case k9 => exact Nat.le_of_ble_eq_true rfl); (case k10 => k_asm)
      case hi => exact .cons _ _ (.cons _ _ (.cons _ _ (.cons _ _ (.cons _ _ .nil))))
      case hn => decide
      case hl => decide
      case post =>
        intro W vs c' ws h2 k2 hWr hT hW F2 N2
        k_steps
        exact post D W ds c vs c' ms ws _ _ hD7 (hWr _ (.tail _ (.tail _ (.head _)))) ⟨hds, hdo, hdl⟩ hT hW (frM (by k_asm) (by walk_at "m_map")) (news_sub (by assumption) fun q hq => by
          simp only [List.mem_cons, List.not_mem_nil, or_false] at hq ⊢
          rcases hq with h | h | h <;> simp [h])
    · k_steps
      unfold Hlt
      refine' c_words (ns := ms.drop 1) ?k1 ?k2 ?k3 ?k4 ?k5 ?k6 ?k7 ?k8 ?k9 ?k10 ?hi ?hn ?hl ?post; (case k6 => exact rfl); (case k2 => k_asm); (case k1 => k_asm); (case k3 => k_asm); (case k4 => k_asm); (case k5 => exact rfl); (case k7 => exact rfl); (case k8 => exact Nat.le_of_ble_eq_true rfl); (case k9 => exact Nat.le_of_ble_eq_true rfl); (case k10 => k_asm)
      case hi => assumption
      case hn => exact fun d hd => hdo d (List.mem_of_mem_drop hd)
      case hl => omega
      case post =>
        intro W vs c' ws h2 k2 hWr hT hW F2 N2
        k_steps
        exact post D W ds c vs c' ms ws _ _ hD7 (hWr _ (.tail _ (.head _))) ⟨hds, hdo, hdl⟩ hT hW (frM (by k_asm) (by walk_at "m_map")) (news_sub (by assumption) fun q hq => by
          simp only [List.mem_cons, List.not_mem_nil, or_false] at hq ⊢
          rcases hq with h | h | h <;> simp [h])
end

end
section
/-- the text that join writes of the words -/
noncomputable abbrev txt (ws : List (List Nat)) : List Nat := (mk ws).map (·.1)
section
variable {w : World} {A₀ : Around} {base h₀ : Heap} {L fa S : Addr} {cd : Value} {mean : ExcName → Option Value} {mg mb : Str → Option Value} {s : Shared} {Q : Flow → Shared → Prop} {bg : List Stmt} {svs : List Value} {sns : List Int}
local macro_rules | `(tactic| walk_at "call ref") => `(tactic| (refine hlt_ ?_))
local macro_rules | `(tactic| walk_at "m_map") => `(tactic| (refine fun_on ["script", "digits", "words", "marks", "text"] (fun y hy => by (simp only [List.mem_cons, List.not_mem_nil, or_false, not_or] at hy; simp only [mp, hy, if_false]; try ((with_unfolding_all refine lkpN ?_); simp only [hy, not_false_eq_true]))) ?_; (repeat' (first | exact True.intro | (refine And.intro (by with_unfolding_all rfl) ?_)))))
theorem law2 {D W : Addr} {ds vs : List Value} {c c' : Nat} {ws : List (List Nat)} (B : Below A₀ base [] h₀) (F : Fr h₀ L s.heap (mp [("words", some (.ref W)), ("digits", some (.ref D)), ("script", some (.ref S))])) (K : (HK w.params).In h₀) (T : Top VW LS mean mg mb h₀)
    (N : News h₀ L s.heap [(W, lo vs c'), (D, lo ds c), (746, tabObj #[])]) (hD7 : 746 < D) (hDW : D < W) (hT : Texts vs ws) (hW : WsOk ws 60) (G : AllBare s.gens)
    (post : ∀ M mv cm tups op t' h' k gens', W < M → (∀ q ∈ tups, q.2.cls = .type "tuple") → DatAll tups mv ((mk ws).map mkD) → TabO op → AllBare gens' →
      Fr h₀ L h' (mp [("text", some (.str (tx (txt ws)) t')), ("marks", some (.ref M)), ("words", some (.ref W)), ("digits", some (.ref D)), ("script", some (.ref S))]) → News h₀ L h' ((M, lo mv cm) :: (tups ++ [(W, lo vs c'), (D, lo ds c), (746, op)])) →
      wpAny (model PG w) (lwA L fa cd) (execs bg (lwEnv L fa cd)) Q (fun _ _ => False) { s with heap := h', toks := k, gens := gens' }) :
    wpAny (model PG w) (lwA L fa cd) (execs (lw2 :: lw3 :: bg) (lwEnv L fa cd)) Q (fun _ _ => False) s := by
  w_on
  k_steps
  unfold Hlt
  refine' c_marks ?k1 ?k2 ?k3 ?k4 ?k5 ?k6 ?k7 ?k8 ?k9 ?k10 hT hW ?post; (case k6 => exact rfl); (case k2 => k_asm); (case k1 => k_asm); (case k3 => k_asm); (case k4 => k_asm); (case k5 => exact rfl); (case k7 => exact rfl); (case k8 => exact Nat.le_of_ble_eq_true rfl); (case k9 => exact Nat.le_of_ble_eq_true rfl); (case k10 => k_asm)
  case post =>
    intro M mv cm tups h1 k1 hMr htt hDm F1 N1
    have hWM : W < M := hMr _ (.head _)
    clear F N
    k_steps
    unfold Hlt
    rename News h₀ L _ _ => N9
    have h7 : ∀ q ∈ (M, lo mv cm) :: (tups ++ [(D, lo ds c)]), q.1 ≠ 746 := fun q hq e => by
      rcases List.mem_cons.mp hq with rfl | hq
      · exact absurd (Nat.lt_trans (Nat.lt_trans hD7 hDW) hWM) (by rw [show M = 746 from e]; exact Nat.lt_irrefl _)
      · rcases List.mem_append.mp hq with hq | hq
        · exact news_cls (a := q.1) (b := 746) (o := q.2) (o' := tabObj #[]) N9 (.tail _ (List.mem_append_left _ hq)) (.tail _ (List.mem_append_right _ (.tail _ (.tail _ (.head _))))) (by rw [htt q hq]; show Value.type "tuple" ≠ Value.none; decide) e
        · rw [List.mem_singleton.mp hq] at e
          exact absurd hD7 (by rw [show D = 746 from e]; exact Nat.lt_irrefl _)
    refine' c_join (W := W) (vs := vs) (c := c') (ws := ws) (op := tabObj #[]) (rest := (M, lo mv cm) :: (tups ++ [(D, lo ds c)])) ?k1 ?k2 ?k3 ?k4 ?k5 ?k6 ?k7 ?k8 ?k9 ?k10 hT ⟨#[], rfl, trivial⟩ ?hws ?hlen ?hne h7 G ?post; (case k6 => exact rfl); (case k2 => k_asm); (case k1 => k_asm); (case k3 => k_asm); (case k4 => k_asm); (case k5 => exact rfl); (case k7 => exact rfl); (case k8 => exact Nat.le_of_ble_eq_true rfl); (case k9 => exact Nat.le_of_ble_eq_true rfl)
    case k10 =>
      refine news_sub N9 fun q hq => ?_
      simp only [List.mem_cons, List.mem_append, List.not_mem_nil, or_false] at hq ⊢
      rcases hq with h | h | h | h | h <;> simp [h]
    case hws => exact Nat.lt_of_le_of_lt hW.1 (by decide)
    case hlen => exact fun l hl => Nat.lt_of_le_of_lt (hW.2 l hl).1 (by decide)
    case hne => exact fun e => absurd (Nat.lt_trans hD7 hDW) (by rw [show W = 746 from e]; exact Nat.lt_irrefl _)
    case post =>
      intro t' op' h2 k2 gens' F2 N2 htab G2
      k_steps
      exact post M mv cm tups op' t' _ _ gens' hWM htt hDm htab G2 (frM (by k_asm) (by walk_at "m_map")) (news_sub (by assumption) fun q hq => by
        simp only [List.mem_cons, List.mem_append, List.not_mem_nil, or_false] at hq ⊢
        rcases hq with h | h | h | h | h <;> simp [h])
end

end
section
open LCg LCp in
theorem compP_ind {prog : Program} {w : World} {A : Around} {h₀ : Heap} {L : Addr} {m : Str → Option Value} {env : Env} {elt : Expr} {x x₂ : Str} {scope : Scope} {cl : List (Str × Addr)} {s : Shared} {S : List (Addr × Obj) → Prop} {P : Nat → Value → Prop} {Fin : List Value → List (Addr × Obj) → Prop} {n : Nat} {news : List (Addr × Obj)} (J : Nat → List Value → Prop) (h0 : J 0 [])
    (step : ∀ i ys, i < n → J i ys → ∀ v, P i v → ∃ (t : Addr) (ot : Obj) (v₁ v₂ : Value) (nt : Nat), v = .ref t ∧ (t, ot) ∈ news ∧ ot.cls = .type "tuple" ∧ ot.data = .seq #[v₁, v₂] nt ∧
      ∀ I oI C oC D m₂ h tk (E' : Value → Shared → Prop), NsObj oC m₂ → m₂ x = some v₁ → m₂ x₂ = some v₂ → Fr h₀ L h m → News h₀ L h ((I, oI) :: (C, oC) :: (D, lst ys) :: news) → Off3 I C D news → ((@Ne Nat I C) ∧ (@Ne Nat I D) ∧ (@Ne Nat C D)) →
      wpAny (model prog w) A (eval elt (compEnvC scope cl C env)) (CompEnd h₀ L m { s with heap := h, toks := tk } I oI C oC D (lst ys) S (fun y news' => news' = news ∧ J (i + 1) (ys ++ [y]))) E' { s with heap := h, toks := tk })
    (fin : ∀ ys, J n ys → Fin ys news) : CompRestP prog w A h₀ L m env elt x x₂ scope cl s S P Fin n 0 [] news := by
  have go : ∀ k i ys, i + k = n → J i ys → CompRestP prog w A h₀ L m env elt x x₂ scope cl s S P Fin k i ys news := by
    intro k
    induction k with
    | zero =>
      intro i ys hi hJ
      have : i = n := by omega
      subst this
      exact .zero (fin ys hJ)
    | succ k ih =>
      intro i ys hi hJ
      refine .succ ?_
      intro v hv
      obtain ⟨t, ot, v₁, v₂, nt, e1, e2, e3, e4, R⟩ := step i ys (by omega) hJ v hv
      refine ⟨t, ot, v₁, v₂, nt, e1, e2, e3, e4, ?_⟩
      intro I oI C oC D m₂ h tk E' a1 a2 a3 a4 a5 a6 a7
      refine wpAny_mono (R I oI C oC D m₂ h tk E' a1 a2 a3 a4 a5 a6 a7) (fun y s'' hy => ?_) fun _ _ e => e
      obtain ⟨h', tk', news', e, F', N', o', hS, rfl, hj⟩ := hy
      exact ⟨h', tk', news', e, F', N', o', hS, ih (i + 1) _ (by omega) hj⟩
  exact go n 0 [] (Nat.zero_add _) h0
theorem Texts.strs {vs : List Value} {ws : List (List Nat)} (h : Texts vs ws) : StrsAre vs (ws.map tx) := by
  obtain ⟨us, hu, rfl⟩ := h
  induction ws generalizing us with
  | nil => exact .nil
  | cons l ws ih =>
    cases us with
    | nil => cases hu
    | cons u us => exact .cons _ _ (ih us (by simpa using hu))
theorem join_signs (l : List Nat) : Txt.join (Str.ofString "") ((l.map fun c => [c]).map tx) = tx l := by
  show Builtin.Str.glued _ _ = _
  rw [StrLaws.glued_eq_join, show Str.ofString "" = tx [] by decide +kernel]
  have : ∀ (l : List Nat) (c : Nat), Str.join (tx []) (((c :: l).map fun c => [c]).map tx) = tx (c :: l) := by
    intro l
    induction l with
    | nil => intro c; rfl
    | cons d l ih =>
      intro c
      show tx [c] ++ tx [] ++ Str.join (tx []) (((d :: l).map fun c => [c]).map tx) = _
      rw [ih d, tx_append, tx_append]
      rfl
  cases l with
  | nil => rfl
  | cons c l => exact this l c
theorem sum_ones (l : List Nat) : ((((l.map fun c => [c]).map tx).map (·.length)).sum) = l.length := by
  induction l with
  | nil => rfl
  | cons c l ih =>
    simp only [List.map_cons, List.sum_cons, ih, tx_length, List.length_cons, List.length_nil]
    omega
theorem cp_small {c : Nat} (h : c < 55296) : CpOk c := .inl h
theorem wm_cp {l : List Nat} (h : ∀ c ∈ l, CpOk c) : ∀ p ∈ wm l, CpOk p.1 := by
  intro p hp
  unfold wm at hp
  split at hp
  · obtain ⟨c, hc, rfl⟩ := List.mem_map.mp hp
    exact h c hc
  · rcases List.mem_cons.mp hp with rfl | hp
    · exact cp_small (by decide)
    · rcases List.mem_append.mp hp with hp | hp
      · obtain ⟨c, hc, hq⟩ := List.mem_flatMap.mp hp
        unfold qm at hq
        split at hq
        · simp only [List.mem_cons, List.not_mem_nil, or_false] at hq
          rcases hq with rfl | rfl | rfl | rfl | rfl <;> exact cp_small (by decide)
        · rw [List.mem_singleton.mp hq]; exact h c hc
      · rw [List.mem_singleton.mp hp]; exact cp_small (by decide)
theorem mk_cp {ws : List (List Nat)} (h : ∀ l ∈ ws, ∀ c ∈ l, CpOk c) : ∀ p ∈ mk ws, CpOk p.1 := by
  cases ws with
  | nil => intro p hp; cases hp
  | cons l r =>
    intro p hp
    rcases List.mem_append.mp hp with hp | hp
    · exact wm_cp (h l (.head _)) p hp
    · obtain ⟨l', hl', hq⟩ := List.mem_flatMap.mp hp
      rcases List.mem_cons.mp hq with rfl | hq
      · exact cp_small (by decide)
      · exact wm_cp (h l' (.tail _ hl')) p hq
theorem kd_ok (k : Kd) : PyData.strOk (kdS k) = true := by cases k <;> decide +kernel
theorem mkD_ok {ms : List (Nat × Kd)} (h : ∀ p ∈ ms, CpOk p.1) : ∀ d ∈ ms.map mkD, kqdOk 8 d = true := by
  intro d hd
  obtain ⟨p, hp, rfl⟩ := List.mem_map.mp hd
  have h1 : PyData.strOk (tx [p.1]) = true := str_ok fun c hc => by rw [List.mem_singleton.mp hc]; exact h p hp
  have h2 := kd_ok p.2
  show [Dat.str (tx [p.1]), Dat.str (kdS p.2)].all (kqdOk 7) = true
  simp only [List.all_cons, List.all_nil, Bool.and_true, kqdOk, h1, h2]
theorem ne_marks {w : World} {A : Around} {E : Value → Shared → Prop} {s : Shared} {h₀ : Heap} {L a b : Addr} {news n1 n2 : List (Addr × Obj)} {xs ys : List Value} {c k : Nat} {ds : List Dat} {Q : Value → Shared → Prop} (N : News h₀ L s.heap news) (ma : (a, lo xs c) ∈ news) (Da : DatAll n1 xs ds) (sa : ∀ p ∈ n1, p ∈ news)
    (mb : (b, lo ys k) ∈ news) (Db : DatAll n2 ys ds) (sb : ∀ p ∈ n2, p ∈ news) (ok : ∀ d ∈ ds, kqdOk 8 d = true) (hu : A.units + 64 < cLine) (h : Q (.bool false) s) : wpAny (model PG w) A (compareOp .NotEq (.ref a) (.ref b)) Q E s :=
  kqd_ne N ma rfl rfl Da sa mb rfl rfl Db sb ok ok hu (by
    have e : ∀ (p : Decidable (ds = ds)), (!@decide _ p) = false := fun p => by rw [@decide_eq_true _ p rfl]; rfl
    rw [e]
    exact h)
section
variable {w : World} {A₀ : Around} {base h₀ : Heap} {L fa S : Addr} {cd : Value} {mean : ExcName → Option Value} {mg mb : Str → Option Value} {s : Shared} {Q : Flow → Shared → Prop} {bg : List Stmt} {svs : List Value} {sns : List Int}
local macro_rules | `(tactic| walk_at "call ref") => `(tactic| (refine hlt_ ?_))
local macro_rules | `(tactic| walk_at "eval ListComp") => `(tactic| (refine hlt_ ?_))
local macro_rules | `(tactic| walk_at "compareOp NotEq ref ref") => `(tactic| (refine hlt_ ?_))
local macro_rules | `(tactic| walk_at "call builtin:str.join") => `(tactic| (refine hlt_ ?_))
local macro_rules | `(tactic| walk_at "m_map") => `(tactic| (refine fun_on ["script", "digits", "words", "marks", "text"] (fun y hy => by (simp only [List.mem_cons, List.not_mem_nil, or_false, not_or] at hy; simp only [mp, hy, if_false]; try ((with_unfolding_all refine lkpN ?_); simp only [hy, not_false_eq_true]))) ?_; (repeat' (first | exact True.intro | (refine And.intro (by with_unfolding_all rfl) ?_)))))
theorem law3 {D W M : Addr} {ds vs mv : List Value} {c c' cm : Nat} {ws : List (List Nat)} {tups : List (Addr × Obj)} {op : Obj} {tt : Tok} (B : Below A₀ base [] h₀)
    (F : Fr h₀ L s.heap (mp [("text", some (.str (tx (txt ws)) tt)), ("marks", some (.ref M)), ("words", some (.ref W)), ("digits", some (.ref D)), ("script", some (.ref S))])) (K : (HK w.params).In h₀) (T : Top VW LS mean mg mb h₀)
    (N : News h₀ L s.heap ((M, lo mv cm) :: (tups ++ [(W, lo vs c'), (D, lo ds c), (746, op)]))) (hD7 : 746 < D) (hDW : D < W) (hWM : W < M) (htt : ∀ q ∈ tups, q.2.cls = .type "tuple") (hDm : DatAll tups mv ((mk ws).map mkD)) (htab : TabO op) (hT : Texts vs ws) (hW : WsOk ws 60) (G : AllBare s.gens)
    (post : ∀ op' h' k gens', TabO op' → AllBare gens' →
      Fr h₀ L h' (mp [("text", some (.str (tx (txt ws)) tt)), ("marks", some (.ref M)), ("words", some (.ref W)), ("digits", some (.ref D)), ("script", some (.ref S))]) → News h₀ L h' ((M, lo mv cm) :: (tups ++ [(W, lo vs c'), (D, lo ds c), (746, op')])) →
      wpAny (model PG w) (lwA L fa cd) (execs bg (lwEnv L fa cd)) Q (fun _ _ => False) { s with heap := h', toks := k, gens := gens' }) :
    wpAny (model PG w) (lwA L fa cd) (execs (lw4 :: bg) (lwEnv L fa cd)) Q (fun _ _ => False) s := by
  have hmlen : (mk ws).length ≤ 20000 := by
    have := hW.mkLen ws.length (Nat.le_refl _)
    rw [List.take_length] at this
    have := hW.1
    omega
  have hmvl : mv.length = (mk ws).length := by simpa using hDm.length
  w_on
  k_steps
  unfold Hlt
  refine LCp.ListComp_P (F₀ := by k_asm) (by with_unfolding_all rfl) (by decide) (by rfl) (by decide) (by rfl) (by rfl) (by decide) ?_
  refine wpAny_Name (wpAny_loadName_local rfl rfl F.ns (by with_unfolding_all rfl) ?_) (by decide)
  refine LCp.SrcLP.ledger (k := cm) (its := mv.toArray) rfl F N (.head _) (by rw [sizeLine_eq, List.size_toArray]; omega) ?_
  intro g
  refine compP_ind (fun i ys => Texts ys (((txt ws).take i).map fun c => [c])) Texts.nil ?_ ?_
  · intro i ys hi hJ v hv
    have hi2 : i < ((mk ws).map mkD).length := by
      rw [List.size_toArray] at hi
      rw [List.length_map]; omega
    obtain ⟨v', hv', hd'⟩ := hDm.get hi2
    have hv2 : mv[i]? = some v := by simpa using hv
    rw [hv2] at hv'
    cases hv'
    rw [List.length_map] at hi2
    have e : ((mk ws).map mkD)[i]'(by rw [List.length_map]; exact hi2) = mkD (mk ws)[i] := by rw [List.getElem_map]
    rw [e] at hd'
    obtain ⟨Tu, u1, u2, en, rfl, hm⟩ := dat_inv (c := (mk ws)[i].1) (k := (mk ws)[i].2) hd'
    refine ⟨Tu, _, _, _, en, rfl, .tail _ (List.mem_append_left _ hm), rfl, rfl, ?_⟩
    intro I oI C oC D2 m₂ h2 tk2 E' hC hx1 hx2 F2 N2 off2 ne2
    clear F N
    k_steps
    refine ⟨_, _, _, rfl, F2, N2, off2, .inr ⟨_, .head _, rfl, _, rfl⟩, rfl, ?_⟩
    have hti : (txt ws)[i]? = some (mk ws)[i].1 := by rw [List.getElem?_map, List.getElem?_eq_getElem hi2]; rfl
    rw [List.take_add_one, hti, List.map_append]
    exact hJ.snoc
  · intro ys hJ D2 h2 k2 F2 N2 off2
    rw [show mv.toArray.size = (txt ws).length by simp [hmvl], List.take_length] at hJ
    clear F N
    k_steps
    unfold Hlt
    refine join_listW (D := D2) (items := ys.toArray) (ys := ((txt ws).map fun c => [c]).map tx) ⟨_, N2.get (.head _), rfl, _, rfl⟩ hJ.strs (by decide) ?_ ?_
    · rw [sum_ones]
      simp only [List.length_map]
      omega
    intro t3 k3
    rw [join_signs]
    have hne1 : (tx (txt ws) != tx (txt ws)) = false := bne_self_eq_false _
    replace N2 := news_sub (n' := (M, lo mv cm) :: (tups ++ [(W, lo vs c'), (D, lo ds c), (746, op)])) N2 fun q hq => .tail _ hq
    k_steps
    unfold Hlt
    rename News h₀ L _ _ => N9
    rename_i l9 h9 F9 l1
    have h7 : ∀ q ∈ (M, lo mv cm) :: (tups ++ [(W, lo vs c'), (D, lo ds c)]), q.1 ≠ 746 := fun q hq e => by
      rcases List.mem_cons.mp hq with rfl | hq
      · exact absurd (Nat.lt_trans (Nat.lt_trans hD7 hDW) hWM) (by rw [show M = 746 from e]; exact Nat.lt_irrefl _)
      · rcases List.mem_append.mp hq with hq | hq
        · obtain ⟨ps, rfl, _⟩ := htab
          exact news_cls (a := q.1) (b := 746) (o := q.2) (o' := tabObj ps) N9 (.tail _ (.tail _ (List.mem_append_left _ hq))) (.tail _ (.tail _ (List.mem_append_right _ (.tail _ (.tail _ (.head _)))))) (by rw [htt q hq]; show Value.type "tuple" ≠ Value.none; decide) e
        · simp only [List.mem_cons, List.not_mem_nil, or_false] at hq
          rcases hq with rfl | rfl
          · exact absurd (Nat.lt_trans hD7 hDW) (by rw [show W = 746 from e]; exact Nat.lt_irrefl _)
          · exact absurd hD7 (by rw [show D = 746 from e]; exact Nat.lt_irrefl _)
    refine' c_join (W := l9) (vs := []) (c := 0) (ws := []) (op := op) (rest := (M, lo mv cm) :: (tups ++ [(W, lo vs c'), (D, lo ds c)])) ?k1 ?k2 ?k3 ?k4 ?k5 ?k6 ?k7 ?k8 ?k9 ?k10 Texts.nil htab (by decide) (fun l hl => nomatch hl) ?hne h7 G ?post; (case k6 => exact rfl); (case k2 => k_asm); (case k1 => k_asm); (case k3 => k_asm); (case k4 => k_asm); (case k5 => exact rfl); (case k7 => exact rfl); (case k8 => exact Nat.le_of_ble_eq_true rfl); (case k9 => exact Nat.le_of_ble_eq_true rfl)
    case k10 =>
      refine news_sub N9 fun q hq => ?_
      simp only [List.mem_cons, List.mem_append, List.not_mem_nil, or_false] at hq ⊢
      rcases hq with h | h | h | h | h | h <;> simp [h]
    case hne => exact fun e => absurd (Nat.lt_trans (Nat.lt_trans (Nat.lt_trans hD7 hDW) hWM) l1.1) (by rw [show l9 = 746 from e]; exact Nat.lt_irrefl _)
    case post =>
      intro t4 op4 h4 k4 gens4 F4 N4 htab4 G4
      have hne2 : (tx ((mk []).map (·.1)) != Str.ofString "") = false := by decide +kernel
      replace N4 := news_sub (n' := (W, lo vs c') :: (M, lo mv cm) :: (tups ++ [(D, lo ds c), (746, op4)])) N4 fun q hq => by
        simp only [List.mem_cons, List.mem_append, List.not_mem_nil, or_false] at hq ⊢
        rcases hq with h | h | h | h | h <;> simp [h]
      clear N9
      k_steps
      unfold Hlt
      refine' c_marks (rest := (M, lo mv cm) :: (tups ++ [(D, lo ds c), (746, op4)])) ?k1 ?k2 ?k3 ?k4 ?k5 ?k6 ?k7 ?k8 ?k9 ?k10 hT hW ?post; (case k6 => exact rfl); (case k2 => k_asm); (case k1 => k_asm); (case k3 => k_asm); (case k4 => k_asm); (case k5 => exact rfl); (case k7 => exact rfl); (case k8 => exact Nat.le_of_ble_eq_true rfl); (case k9 => exact Nat.le_of_ble_eq_true rfl); (case k10 => k_asm)
      case post =>
        intro M5 mv5 cm5 tups5 h5 k5 hMr htt5 hD5 F5 N5
        k_steps
        unfold Hlt
        refine ne_marks N5 (.head _) hD5 (fun q hq => .tail _ (List.mem_append_left _ hq)) (.tail _ (List.mem_append_right _ (.tail _ (.head _)))) hDm (fun q hq => .tail _ (List.mem_append_right _ (.tail _ (.tail _ (List.mem_append_left _ hq))))) (mkD_ok (mk_cp fun l hl => (hW.2 l hl).2)) ?_ ?_
        · ke_room
        · k_steps
          exact post op4 _ _ gens4 htab4 G4 F5 (news_sub N5 fun q hq => by
            simp only [List.mem_cons, List.mem_append, List.not_mem_nil, or_false] at hq ⊢
            rcases hq with h | h | h | h | h <;> simp [h])
end

end
section
theorem slice_take (vs : List Value) (n : Nat) : slicePick vs.toArray none (some (n : Int)) none = (vs.take n).toArray := by
  have e : sliceBounds none (some (n : Int)) none vs.toArray.size = (((0 : Nat) : Int), ((min n vs.length : Nat) : Int), 1) := by
    unfold sliceBounds
    simp
    omega
  rw [kmk_pick_nat _ e]
  simp
theorem datAll_take {n : List (Addr × Obj)} {vs : List Value} {ds : List Dat} (h : DatAll n vs ds) (k : Nat) : DatAll n (vs.take k) (ds.take k) := by
  induction vs generalizing ds k with
  | nil => cases h; simp; exact .nil
  | cons v vs ih =>
    cases h with
    | cons h1 h2 =>
      cases k with
      | zero => exact .nil
      | succ k => exact .cons h1 (ih h2 k)
section
variable {w : World} {A₀ : Around} {base h₀ : Heap} {L fa S : Addr} {cd : Value} {mean : ExcName → Option Value} {mg mb : Str → Option Value} {s : Shared} {Q : Flow → Shared → Prop} {bg : List Stmt} {svs : List Value} {sns : List Int}
local macro_rules | `(tactic| walk_at "call ref") => `(tactic| (refine hlt_ ?_))
local macro_rules | `(tactic| walk_at "m_map") => `(tactic| (refine fun_on ["script", "digits", "words", "marks", "text", "cut", "by_shell", "by_other", "inside"] (fun y hy => by (simp only [List.mem_cons, List.not_mem_nil, or_false, not_or] at hy; simp only [mp, hy, if_false]; try ((with_unfolding_all refine lkpN ?_); simp only [hy, not_false_eq_true]))) ?_; (repeat' (first | exact True.intro | (refine And.intro (by with_unfolding_all rfl) ?_)))))
theorem law4 {D W M : Addr} {ds vs mv : List Value} {dn : List Int} {c c' cm : Nat} {ws : List (List Nat)} {tups : List (Addr × Obj)} {op : Obj} {tt : Tok} (B : Below A₀ base [] h₀)
    (F : Fr h₀ L s.heap (mp [("text", some (.str (tx (txt ws)) tt)), ("marks", some (.ref M)), ("words", some (.ref W)), ("digits", some (.ref D)), ("script", some (.ref S))])) (K : (HK w.params).In h₀) (T : Top VW LS mean mg mb h₀)
    (N : News h₀ L s.heap ((M, lo mv cm) :: (tups ++ [(W, lo vs c'), (D, lo ds c), (746, op)]))) (hWM : W < M) (htt : ∀ q ∈ tups, q.2.cls = .type "tuple") (hDm : DatAll tups mv ((mk ws).map mkD)) (hW : WsOk ws 60) (hdn : DgOk ds dn 60)
    (post : ∀ (n : Nat) (u : Tok) Wd Tk wv tv c1 c2 h' k, n ≤ (txt ws).length → Texts wv (rd ((mk ws).take n)).ws → Texts tv (rd ((mk ws).take n)).ts → Wd < Tk →
      Fr h₀ L h' (mp [("inside", some (.bool (rd ((mk ws).take n)).ins)), ("by_other", some (.ref Tk)), ("by_shell", some (.ref Wd)), ("cut", some (.int (n : Int) u)), ("text", some (.str (tx (txt ws)) tt)), ("marks", some (.ref M)), ("words", some (.ref W)), ("digits", some (.ref D)), ("script", some (.ref S))]) →
      News h₀ L h' [(Tk, lo tv c2), (Wd, lo wv c1), (746, op)] →
      wpAny (model PG w) (lwA L fa cd) (execs bg (lwEnv L fa cd)) Q (fun _ _ => False) { s with heap := h', toks := k }) :
    wpAny (model PG w) (lwA L fa cd) (execs (lw5 :: lw6 :: bg) (lwEnv L fa cd)) Q (fun _ _ => False) s := by
  have hmlen : (mk ws).length ≤ 20000 := by
    have := hW.mkLen ws.length (Nat.le_refl _)
    rw [List.take_length] at this
    have := hW.1
    omega
  have hmvl : mv.length = (mk ws).length := by simpa using hDm.length
  have htl : (tx (txt ws)).length = (mk ws).length := by rw [tx_length, List.length_map]
  have hds := hdn.nums
  have hdsl := hdn.len
  replace N := news_sub (n' := (M, lo mv cm) :: (W, lo vs c') :: (D, lo ds c) :: (746, op) :: tups) N fun q hq => by
    simp only [List.mem_cons, List.mem_append, List.not_mem_nil, or_false] at hq ⊢
    rcases hq with h | h | h | h | h <;> simp [h]
  have hX1 : ((dn ++ [7]).getD (Int.toNat 0) 0).fmod (((tx (txt ws)).length : Int) + 1) < ((tx (txt ws)).length : Int) + 1 := by
    rw [Int.fmod_eq_emod_of_nonneg _ (by omega)]
    exact Int.emod_lt_of_pos _ (by omega)
  have hX0 : 0 ≤ ((dn ++ [7]).getD (Int.toNat 0) 0).fmod (((tx (txt ws)).length : Int) + 1) := by
    rw [Int.fmod_eq_emod_of_nonneg _ (by omega)]
    exact Int.emod_nonneg _ (by omega)
  w_on
  k_steps
  unfold Hlt
  generalize ((dn ++ [7]).getD (Int.toNat 0) 0).fmod (((tx (txt ws)).length : Int) + 1) = X at *
  obtain ⟨n, rfl⟩ : ∃ n : Nat, X = n := ⟨X.toNat, by omega⟩
  rename News h₀ L _ _ => N9
  rename Fr h₀ L _ _ => F9
  rw [slice_take] at N9
  have hDn : DatAll ((746, op) :: tups) (mv.take n) (((mk ws).take n).map mkD) := by
    rw [List.map_take]
    exact (datAll_take hDm n).mono fun q hq => .tail _ hq
  refine' c_lread (ms := mv.take n) (c := 0) (mm := (mk ws).take n) (rest := (746, op) :: tups) ?k1 ?k2 ?k3 ?k4 ?k5 ?k6 ?k7 ?k8 ?k9 ?k10 hDn ?hl ?post; (case k6 => exact rfl); (case k2 => k_asm); (case k1 => k_asm); (case k3 => k_asm); (case k4 => k_asm); (case k5 => exact rfl); (case k7 => exact rfl); (case k8 => exact Nat.le_of_ble_eq_true rfl); (case k9 => exact Nat.le_of_ble_eq_true rfl)
  case k10 =>
    refine news_sub N9 fun q hq => ?_
    simp only [List.mem_cons] at hq ⊢
    rcases hq with h | h | h <;> simp [h]
  case hl => rw [List.length_take]; omega
  case post =>
    intro R Tk Wd wv tv c1 c2 h5 k5 hWr hWT hTw hTt F5 N5
    k_steps
    refine post n _ Wd Tk wv tv c1 c2 _ _ ?_ hTw hTt hWT (frM (by k_asm) (by walk_at "m_map")) (news_sub (by assumption) fun q hq => ?_)
    · rw [List.length_map]
      omega
    · simp only [List.mem_cons, List.not_mem_nil, or_false] at hq ⊢
      rcases hq with h | h | h <;> simp [h]
end

end
section
noncomputable abbrev lwI : Stmt := by
  refine (fun (b : Stmt) (_ : (forBody lw7).getD 0 (.Pass ⟨0, 0, 0, 0⟩) = b) => b) ?b ?h
  case h => (conv => lhs; whnf)
noncomputable abbrev li0 : Stmt := by
  refine (fun (b : Stmt) (_ : (forBody lwI).getD 0 (.Pass ⟨0, 0, 0, 0⟩) = b) => b) ?b ?h
  case h => (conv => lhs; whnf)
noncomputable abbrev li1 : Stmt := by
  refine (fun (b : Stmt) (_ : (forBody lwI).getD 1 (.Pass ⟨0, 0, 0, 0⟩) = b) => b) ?b ?h
  case h => (conv => lhs; whnf)
noncomputable abbrev li2 : Stmt := by
  refine (fun (b : Stmt) (_ : (forBody lwI).getD 2 (.Pass ⟨0, 0, 0, 0⟩) = b) => b) ?b ?h
  case h => (conv => lhs; whnf)
noncomputable abbrev li3 : Stmt := by
  refine (fun (b : Stmt) (_ : (forBody lwI).getD 3 (.Pass ⟨0, 0, 0, 0⟩) = b) => b) ?b ?h
  case h => (conv => lhs; whnf)
theorem li_body : forBody lwI = [li0, li1, li2, li3] := rfl
/-- the names of law within its loops -/
noncomputable abbrev lwM (er to tr du po co : Option Value) (n : Nat) (u tt : Tok) (ins : Bool) (ws : List (List Nat)) (Tk Wd M W D S : Addr) : Str → Option Value :=
  mp [("error", er), ("told", to), ("trouble", tr), ("due", du), ("posix", po), ("comments", co), ("inside", some (.bool ins)), ("by_other", some (.ref Tk)), ("by_shell", some (.ref Wd)), ("cut", some (.int (n : Int) u)), ("text", some (.str (tx (txt ws)) tt)), ("marks", some (.ref M)), ("words", some (.ref W)), ("digits", some (.ref D)), ("script", some (.ref S))]
theorem Assign_two {M : Model} {A : Around} {E : Value → Shared → Prop} {s : Shared} {env : Env} {x y : Str} {px py pos : Pos} {value : PySem.Expr} {Q : Flow → Shared → Prop}
    (h : wpAny M A (eval value env) (fun v s₁ => wpAny M A (storeName env x v) (fun _ s₂ => wpAny M A (storeName env y v) (fun _ => Q .next) E s₂) E s₁) E s)
    (hw : swappedStores [.Name x px, .Name y py] value env = pure none := by rfl) : wpAny M A (exec (.Assign [.Name x px, .Name y py] value pos) env) Q E s := by
  rw [exec_Assign]
  refine wpAny_bind (wpAny_standAt ?_)
  refine wpAny_bind (wpAny_pure (a := false) ?_)
  rw [if_neg (by decide)]
  refine wpAny_bind (wpAny_mono h (fun v s₁ h₁ => ?_) fun _ _ x => x)
  rw [hw]
  refine wpAny_bind (wpAny_pure ?_)
  show wpAny M A (do (do holding [v] (assign (.Name x px) env v); assign (.Name y py) env v); pure .next) Q E s₁
  refine wpAny_bind (wpAny_bind (wpAny_holding (assign_Name (wpAny_mono h₁ (fun _ s₂ h₂ => ?_) fun _ _ x => x))))
  exact assign_Name (wpAny_mono h₂ (fun _ _ x => wpAny_pure x) fun _ _ x => x)
theorem due_ok {ts : List (List Nat)} (h : ∀ l ∈ ts, ∀ c ∈ l, CpOk c) : kqdOk 8 (.tuple [.list (ts.map fun l => .str (tx l)), .none]) = true := by
  show [Dat.list (ts.map fun l => .str (tx l)), .none].all (kqdOk 7) = true
  simp only [List.all_cons, List.all_nil, Bool.and_true, kqdOk, List.all_eq_true]
  intro d hd
  obtain ⟨l, hl, rfl⟩ := List.mem_map.mp hd
  exact str_ok (h l hl)
def CpL (ts : List (List Nat)) : Prop := ∀ l ∈ ts, ∀ c ∈ l, CpOk c
theorem CpL.new {ts : List (List Nat)} (h : CpL ts) : CpL (ts ++ [[]]) := fun l hl => by
  rcases List.mem_append.mp hl with hl | hl
  · exact h l hl
  · rw [List.mem_singleton.mp hl]; exact fun c hc => nomatch hc
theorem CpL.app {ts : List (List Nat)} {c : Nat} (h : CpL ts) (hc : CpOk c) : CpL (app1 ts c) := by
  rcases List.eq_nil_or_concat ts with rfl | ⟨ts', l, rfl⟩
  · intro l hl
    simp [app1] at hl
    subst hl
    exact fun x hx => (List.mem_singleton.mp hx) ▸ hc
  · rw [List.concat_eq_append] at h ⊢
    rw [app1_snoc]
    intro l' hl'
    rcases List.mem_append.mp hl' with hl' | hl'
    · exact h l' (List.mem_append_left _ hl')
    · rw [List.mem_singleton.mp hl']
      intro x hx
      rcases List.mem_append.mp hx with hx | hx
      · exact h l (List.mem_append_right _ (.head _)) x hx
      · rw [List.mem_singleton.mp hx]; exact hc
theorem rstep_cp {st : Rs} {p : Nat × Kd} (h : CpL st.ws ∧ CpL st.ts) (hp : CpOk p.1) : CpL (rstep st p).ws ∧ CpL (rstep st p).ts := by
  obtain ⟨c, k⟩ := p
  have w1 : CpL (if st.fr = true then st.ws ++ [[]] else st.ws) := by
    split
    · exact h.1.new
    · exact h.1
  have t1 : CpL (if st.fr = true then st.ts ++ [[]] else st.ts) := by
    split
    · exact h.2.new
    · exact h.2
  cases k
  · exact h
  · exact ⟨w1.app hp, t1.app hp⟩
  · exact ⟨w1, h.2.new.app hp⟩
  · exact ⟨w1.app hp, t1.app hp⟩
  · exact ⟨w1, t1.app hp⟩
theorem rd_cp {ws : List (List Nat)} (hW : WsOk ws 60) (n : Nat) : CpL (rd ((mk ws).take n)).ws ∧ CpL (rd ((mk ws).take n)).ts := by
  have hm : ∀ p ∈ (mk ws).take n, CpOk p.1 := fun p hp => mk_cp (fun l hl => (hW.2 l hl).2) p (List.mem_of_mem_take hp)
  have go : ∀ (ms : List (Nat × Kd)) (st : Rs), (∀ p ∈ ms, CpOk p.1) → CpL st.ws ∧ CpL st.ts → CpL (ms.foldl rstep st).ws ∧ CpL (ms.foldl rstep st).ts := by
    intro ms
    induction ms with
    | nil => intro st _ h; exact h
    | cons p ms ih => intro st hp h; exact ih _ (fun q hq => hp q (.tail _ hq)) (rstep_cp h (hp p (.head _)))
  exact go _ _ hm ⟨(fun l hl => nomatch hl), (fun l hl => nomatch hl)⟩
theorem ne_dat {w : World} {A : Around} {E : Value → Shared → Prop} {s : Shared} {h₀ : Heap} {L a b : Addr} {news : List (Addr × Obj)} {d : Dat} {Q : Value → Shared → Prop} (N : News h₀ L s.heap news) (Da : DatIn news (.ref a) d) (Db : DatIn news (.ref b) d) (ok : kqdOk 8 d = true) (hu : A.units + 64 < cLine) (h : Q (.bool false) s) :
    wpAny (model PG w) A (compareOp .NotEq (.ref a) (.ref b)) Q E s := by
  obtain ⟨as, ra⟩ := kqd_in N 8 Da ok
  obtain ⟨bs, rb⟩ := kqd_in N 8 Db ok
  have la := kqd_lay 8 d ok
  have e : PyData.eqv (kqdP d) (kqdP d) = true := (kqd_eqv 8 d d 8 ok ok).mpr rfl
  have hs : SeqAt.shaped (kqdP d) = true := by
    unfold SeqAt.shaped; rw [la.1, Bool.true_and]; exact decide_eq_true (Nat.le_trans la.2 (by decide))
  exact ne_dataH ra rb hs hs hu (by rw [e]; exact h)
section
variable {w : World} {h₀ : Heap} {L fa S : Addr} {cd : Value} {mean : ExcName → Option Value} {mg mb : Str → Option Value} {s : Shared} {Q : Flow → Shared → Prop} {rest : List (Addr × Obj)}
local macro_rules | `(tactic| walk_at "call ref") => `(tactic| (refine hlt_ ?_))
local macro_rules | `(tactic| walk_at "compareOp NotEq ref ref") => `(tactic| (refine hlt_ ?_))
local macro_rules | `(tactic| walk_at "m_map") => `(tactic| (refine fun_on ["script", "digits", "words", "marks", "text", "cut", "by_shell", "by_other", "inside", "comments", "posix", "due", "told", "trouble", "error"] (fun y hy => by (simp only [List.mem_cons, List.not_mem_nil, or_false, not_or] at hy; simp only [mp, hy, if_false]; try ((with_unfolding_all refine lkpN ?_); simp only [hy, not_false_eq_true]))) ?_; (repeat' (first | exact True.intro | (refine And.intro (by with_unfolding_all rfl) ?_)))))
local macro_rules | `(tactic| walk_at "exec Assign") => `(tactic| (k_here; (with_reducible show wpAny _ _ (exec (Stmt.Assign [_, _] _ _) _) _ _ _); k_dflt (refine Assign_two ?_)))
theorem law_turn {D W M Wd Tk : Addr} {wv tv : List Value} {c1 c2 n : Nat} {u tt : Tok} {ws : List (List Nat)} {er to tr du : Option Value} {cb px : Bool} (B : Below lwA0 h₀ [] h₀)
    (F : Fr h₀ L s.heap (lwM er to tr du (some (.bool px)) (some (.bool cb)) n u tt (rd ((mk ws).take n)).ins ws Tk Wd M W D S)) (K : (HK w.params).In h₀) (T : Top VW LS mean mg mb h₀)
    (N : News h₀ L s.heap ((Tk, lo tv c2) :: (Wd, lo wv c1) :: rest)) (hW : WsOk ws 60) (hn : n ≤ (txt ws).length) (hTw : Texts wv (rd ((mk ws).take n)).ws) (hTt : Texts tv (rd ((mk ws).take n)).ts)
    (post : ∀ er' to' tr' du' h' k, Fr h₀ L h' (lwM er' to' tr' du' (some (.bool px)) (some (.bool cb)) n u tt (rd ((mk ws).take n)).ins ws Tk Wd M W D S) → News h₀ L h' ((Tk, lo tv c2) :: (Wd, lo wv c1) :: rest) → Q .next { s with heap := h', toks := k }) :
    wpAny (model PG w) (lwA L fa cd) (execs [li0, li1, li2, li3] (lwEnv L fa cd)) Q (fun _ _ => False) s := by
  have hmlen : (mk ws).length ≤ 20000 := by
    have := hW.mkLen ws.length (Nat.le_refl _)
    rw [List.take_length] at this
    have := hW.1
    omega
  have htl : (tx (txt ws)).length = (mk ws).length := by rw [tx_length, List.length_map]
  rw [List.length_map] at hn
  cases hins : (rd ((mk ws).take n)).ins
  · rw [hins] at F
    w_on
    cases px
    · k_steps
      unfold Hlt
      rw [slice_ns (txt ws) n (by rw [List.length_map]; exact hn)]
      refine' c_split (l := (txt ws).take n) (px := false) (ms := (mk ws).take n) (r := some (rd ((mk ws).take n)).ts) ?k1 ?k2 ?k3 ?k4 ?k5 ?k6 ?k7 ?k8 ?k9 ?k10 (List.map_take ..).symm ?hlen (lex_read false ws n).1 ?lx ?p1 ?p2; (case k6 => exact rfl); (case k2 => k_asm); (case k1 => k_asm); (case k3 => k_asm); (case k4 => k_asm); (case k5 => exact rfl); (case k7 => exact rfl); (case k8 => exact Nat.le_of_ble_eq_true rfl); (case k9 => exact Nat.le_of_ble_eq_true rfl); (case k10 => k_asm)
      case hlen => rw [List.length_take]; omega
      case lx =>
        have h := (lex_read false ws n).2
        rw [hins] at h
        exact h
      case p1 =>
        intro r' hr' S9 vs9 c9 e9 t9 g9 h9 k9 hT9 F9 U9 R9
        cases hr'
        obtain ⟨F8, N8⟩ := back_K F9 U9 R9
        clear R9 U9 F9
        k_steps
        unfold Hlt
        rename News h₀ L _ _ => N7
        refine ne_dat (d := .tuple [.list (((rd ((mk ws).take n)).ts).map fun l => .str (tx l)), .none]) N7 (.tuple (vs := [_, _]) (.head _) (.cons (.list (.tail _ (.head _)) hT9.dat) (.cons .none .nil))) (.tuple (vs := [_, _]) (.tail _ (.tail _ (.head _))) (.cons (.list (.tail _ (.tail _ (.tail _ (.head _)))) hTt.dat) (.cons .none .nil))) ?ok ?room ?_
        case room => ke_room
        case ok => exact due_ok (rd_cp hW n).2
        k_steps
        rw [hins] at post
        exact post _ _ _ _ _ _ (frM (by k_asm) (by walk_at "m_map")) (news_sub (by assumption) fun q hq => .tail _ (.tail _ (.tail _ hq)))
      case p2 =>
        intro hr'
        cases hr'
    · k_steps
      unfold Hlt
      rw [slice_ns (txt ws) n (by rw [List.length_map]; exact hn)]
      refine' c_split (l := (txt ws).take n) (px := true) (ms := (mk ws).take n) (r := some (rd ((mk ws).take n)).ws) ?k1 ?k2 ?k3 ?k4 ?k5 ?k6 ?k7 ?k8 ?k9 ?k10 (List.map_take ..).symm ?hlen (lex_read true ws n).1 ?lx ?p1 ?p2; (case k6 => exact rfl); (case k2 => k_asm); (case k1 => k_asm); (case k3 => k_asm); (case k4 => k_asm); (case k5 => exact rfl); (case k7 => exact rfl); (case k8 => exact Nat.le_of_ble_eq_true rfl); (case k9 => exact Nat.le_of_ble_eq_true rfl); (case k10 => k_asm)
      case hlen => rw [List.length_take]; omega
      case lx =>
        have h := (lex_read true ws n).2
        rw [hins] at h
        exact h
      case p1 =>
        intro r' hr' S9 vs9 c9 e9 t9 g9 h9 k9 hT9 F9 U9 R9
        cases hr'
        obtain ⟨F8, N8⟩ := back_K F9 U9 R9
        clear R9 U9 F9
        k_steps
        unfold Hlt
        rename News h₀ L _ _ => N7
        refine ne_dat (d := .tuple [.list (((rd ((mk ws).take n)).ws).map fun l => .str (tx l)), .none]) N7 (.tuple (vs := [_, _]) (.head _) (.cons (.list (.tail _ (.head _)) hT9.dat) (.cons .none .nil))) (.tuple (vs := [_, _]) (.tail _ (.tail _ (.head _))) (.cons (.list (.tail _ (.tail _ (.tail _ (.tail _ (.head _))))) hTw.dat) (.cons .none .nil))) ?ok ?room ?_
        case room => ke_room
        case ok => exact due_ok (rd_cp hW n).1
        k_steps
        rw [hins] at post
        exact post _ _ _ _ _ _ (frM (by k_asm) (by walk_at "m_map")) (news_sub (by assumption) fun q hq => .tail _ (.tail _ (.tail _ hq)))
      case p2 =>
        intro hr'
        cases hr'
  · rw [hins] at F
    w_on
    · k_steps
      unfold Hlt
      rw [slice_ns (txt ws) n (by rw [List.length_map]; exact hn)]
      refine' c_split (l := (txt ws).take n) (px := px) (ms := (mk ws).take n) (r := none) ?k1 ?k2 ?k3 ?k4 ?k5 ?k6 ?k7 ?k8 ?k9 ?k10 (List.map_take ..).symm ?hlen (lex_read px ws n).1 ?lx ?p1 ?p2; (case k6 => exact rfl); (case k2 => k_asm); (case k1 => k_asm); (case k3 => k_asm); (case k4 => k_asm); (case k5 => exact rfl); (case k7 => exact rfl); (case k8 => exact Nat.le_of_ble_eq_true rfl); (case k9 => exact Nat.le_of_ble_eq_true rfl); (case k10 => k_asm)
      case hlen => rw [List.length_take]; omega
      case lx =>
        have h := (lex_read px ws n).2
        rw [hins] at h
        exact h
      case p1 =>
        intro r' hr'
        cases hr'
      case p2 =>
        intro _ e9 t9 g9 h9 k9 tt9 F9 U9 R9
        k_steps
        unfold Hlt
        rename News h₀ L _ _ => N7
        refine ne_dat (d := .tuple [.none, .str (Str.ofString "No closing quotation")]) N7 (.tuple (vs := [_, _]) (.head _) (.cons .none (.cons (.str _ _) .nil))) (.tuple (vs := [_, _]) (.tail _ (.head _)) (.cons .none (.cons (.str _ _) .nil))) ?ok ?room ?_
        case room => ke_room
        case ok => decide +kernel
        k_steps
        rw [hins] at post
        exact post _ _ _ _ _ _ (frM (by k_asm) (by walk_at "m_map")) (news_sub (by assumption) fun q hq => .tail _ (.tail _ hq))
end

end
section
section
variable {w : World} {A : Around} {E : Value → Shared → Prop} {s : Shared} {env : Env} {h₀ : Heap} {x : Str} {body : List Stmt} {Q : Flow → Shared → Prop} {rest led₀ : List (Addr × Obj)} {m₀ : Str → Option Value}
theorem iter_tup {l : Addr} {vs : List Value} {c : Nat} (adr : List Addr) (J : Nat → (Str → Option Value) → List (Addr × Obj) → Prop) (hh : A.handled = none) (F : Fr h₀ env.locals s.heap m₀) (N : News h₀ env.locals s.heap (led₀ ++ rest)) (hl : (l, ({ cls := .type "tuple", data := .seq vs.toArray c } : Obj)) ∈ rest)
    (hra : ∀ q ∈ rest, q.1 ∉ adr) (hlt : ∀ b ∈ adr, b < s.heap.objs.size) (h0 : J 0 m₀ led₀)
    (turn : ∀ i v m₁ led h tk rest', vs[i]? = some v → J i m₁ led → (∀ q ∈ rest', q.1 ∉ adr) → (∀ q ∈ rest, q ∈ rest') → Fr h₀ env.locals h (fun y => if y = x then some v else m₁ y) → News h₀ env.locals h (led ++ rest') →
      wpAny (model PG w) A (execs body env) (TurnEnd h₀ env.locals Q (J (i + 1)) rest' s) E { s with heap := h, toks := tk })
    (done : ∀ m₁ led h tk, J vs.length m₁ led → Fr h₀ env.locals h m₁ → News h₀ env.locals h (led ++ rest) → Q .next { s with heap := h, toks := tk }) :
    wpAny (model PG w) A (pyIter (.ref l)) (fun it s₂ => LoopAtV PG w A h₀ env x body Q E it s₂) E s := by
  have hlm := N _ (List.mem_append_right _ hl)
  have hls : s.heap.IsTuple l vs.toArray := ⟨_, hlm.1, rfl, _, rfl⟩
  have hlt' : l < s.heap.objs.size := Heap.lt_size hlm.1
  refine wpAny_pyIter_tuple hls ?_
  have W := Walks.tuple (prog := PG) (w := w) hh s.heap.objs.size l (Nat.ne_of_lt hlt') vs.toArray
  rw [List.size_toArray] at W
  refine loop_w (s := { s with heap := s.heap.push _ }) adr J W ⟨⟨_, Heap.get?_push_size _ rfl, rfl, rfl⟩, hls.at fun o e => Heap.get?_push_of_some _ e⟩ ?_ ?_ (next_is_new F) (F.push _) (fun p hp => ⟨Heap.get?_push_of_some _ (N p hp).1, (N p hp).2⟩) (fun q hq => Nat.ne_of_lt (Heap.lt_size (N q hq).1)) hra ?_ h0 ?_ ?_
  · rintro i h ⟨⟨o, ho, hc, _⟩, _⟩
    exact ⟨o, ho, by rw [hc]; decide, by rw [hc]; decide⟩
  · intro hm
    rcases List.mem_cons.mp hm with e | hm
    · exact absurd F.ns.lt (e ▸ Nat.lt_irrefl _)
    · exact hlm.2.1 (List.mem_singleton.mp hm).symm
  · intro b hb
    rcases List.mem_cons.mp hb with rfl | hb
    · exact fun h => Nat.lt_irrefl _ (hlt _ h)
    · rw [List.mem_singleton.mp hb]; exact hra _ hl
  · intro i v m₁ led h tk rest' _ hP hJ h1 h2 F₁ N₁
    exact turn i v m₁ led h tk rest' (by simpa using hP) hJ h1 h2 F₁ N₁
  · exact done
end
section
variable {w : World} {h₀ : Heap} {L fa S : Addr} {cd : Value} {mean : ExcName → Option Value} {mg mb : Str → Option Value} {s : Shared} {Q : Flow → Shared → Prop} {rest : List (Addr × Obj)} {bg : List Stmt}
local macro_rules | `(tactic| walk_at "pyIter ref") => `(tactic| (refine hlt_ ?_))
local macro_rules | `(tactic| walk_at "exec For Name Tuple cons nil") => `(tactic| (k_here; (rename Fr _ _ _ _ => lF'); (with_unfolding_all refine' For_invVF lF' ?k1 ?k2 ?_; (case k1 => exact rfl); (case k2 => exact rfl); k_whole)))
local macro_rules | `(tactic| walk_at "m_map") => `(tactic| (refine fun_on ["script", "digits", "words", "marks", "text", "cut", "by_shell", "by_other", "inside", "comments", "posix", "due", "told", "trouble", "error"] (fun y hy => by (simp only [List.mem_cons, List.not_mem_nil, or_false, not_or] at hy; simp only [mp, hy, if_false]; try ((with_unfolding_all refine lkpN ?_); simp only [hy, not_false_eq_true]))) ?_; (repeat' (first | exact True.intro | (refine And.intro (by with_unfolding_all rfl) ?_)))))
theorem law_in {D W M Wd Tk : Addr} {wv tv : List Value} {c1 c2 n : Nat} {u tt : Tok} {ws : List (List Nat)} {er to tr du po : Option Value} {cb : Bool} (B : Below lwA0 h₀ [] h₀)
    (F : Fr h₀ L s.heap (lwM er to tr du po (some (.bool cb)) n u tt (rd ((mk ws).take n)).ins ws Tk Wd M W D S)) (K : (HK w.params).In h₀) (T : Top VW LS mean mg mb h₀)
    (N : News h₀ L s.heap ((Tk, lo tv c2) :: (Wd, lo wv c1) :: rest)) (hW : WsOk ws 60) (hn : n ≤ (txt ws).length) (hTw : Texts wv (rd ((mk ws).take n)).ws) (hTt : Texts tv (rd ((mk ws).take n)).ts)
    (post : ∀ er' to' tr' du' po' h' k, Fr h₀ L h' (lwM er' to' tr' du' po' (some (.bool cb)) n u tt (rd ((mk ws).take n)).ins ws Tk Wd M W D S) → News h₀ L h' ((Tk, lo tv c2) :: (Wd, lo wv c1) :: rest) → Q .next { s with heap := h', toks := k }) :
    wpAny (model PG w) (lwA L fa cd) (execs [lwI] (lwEnv L fa cd)) Q (fun _ _ => False) s := by
  w_on
  k_steps
  unfold Hlt
  rename Fr h₀ L _ _ => F9
  rename News h₀ L _ _ => N9
  refine iter_tup (vs := [.bool true, .bool false]) (led₀ := []) (rest := _) [] (fun i m₁ led => ∃ er to tr du po, m₁ = lwM er to tr du po (some (.bool cb)) n u tt (rd ((mk ws).take n)).ins ws Tk Wd M W D S ∧ led = []) rfl F9 N9 (.head _) (fun q hq h => nomatch h) (fun b hb => nomatch hb) ⟨er, to, tr, du, po, rfl, rfl⟩ ?_ ?_
  · rintro i v m₁ led h tk rest' hv ⟨er, to, tr, du, po, rfl, rfl⟩ hr1 hr2 F₁ N₁
    obtain ⟨px, rfl⟩ : ∃ px, v = .bool px := by
      match i, hv with
      | 0, hv => cases hv; exact ⟨_, rfl⟩
      | 1, hv => cases hv; exact ⟨_, rfl⟩
    have N₂ : News h₀ L h ((Tk, lo tv c2) :: (Wd, lo wv c1) :: rest') := fun q hq => by
      simp only [List.mem_cons] at hq
      rcases hq with h | h | h
      · exact N₁ q (hr2 q (by rw [h]; exact .tail _ (.head _)))
      · exact N₁ q (hr2 q (by rw [h]; exact .tail _ (.tail _ (.head _))))
      · exact N₁ q h
    refine law_turn (px := px) (cb := cb) B (frM F₁ (by walk_at "m_map")) K T N₂ hW hn hTw hTt fun er' to' tr' du' h' k F' N' => ?_
    exact .next F' (news_sub N' fun q hq => .tail _ (.tail _ hq)) LT.nil ⟨_, _, _, _, _, rfl, rfl⟩
  · rintro m₁ led h tk ⟨er, to, tr, du, po, rfl, rfl⟩ F₁ N₁
    k_steps
    exact post _ _ _ _ _ _ _ F₁ (news_sub N₁ fun q hq => .tail _ hq)
end

end
section
section
variable {w : World} {h₀ : Heap} {L fa S : Addr} {cd : Value} {mean : ExcName → Option Value} {mg mb : Str → Option Value} {s : Shared} {Q : Flow → Shared → Prop} {rest : List (Addr × Obj)} {bg : List Stmt}
local macro_rules | `(tactic| walk_at "pyIter ref") => `(tactic| (refine hlt_ ?_))
local macro_rules | `(tactic| walk_at "exec For Name Tuple cons nil") => `(tactic| (k_here; (rename Fr _ _ _ _ => lF'); (with_unfolding_all refine' For_invVF lF' ?k1 ?k2 ?_; (case k1 => exact rfl); (case k2 => exact rfl); k_whole)))
local macro_rules | `(tactic| walk_at "m_map") => `(tactic| (refine fun_on ["script", "digits", "words", "marks", "text", "cut", "by_shell", "by_other", "inside", "comments", "posix", "due", "told", "trouble", "error"] (fun y hy => by (simp only [List.mem_cons, List.not_mem_nil, or_false, not_or] at hy; simp only [mp, hy, if_false]; try ((with_unfolding_all refine lkpN ?_); simp only [hy, not_false_eq_true]))) ?_; (repeat' (first | exact True.intro | (refine And.intro (by with_unfolding_all rfl) ?_)))))
theorem law_out {D W M Wd Tk : Addr} {wv tv : List Value} {c1 c2 n : Nat} {u tt : Tok} {ws : List (List Nat)} {er to tr du po co : Option Value} (B : Below lwA0 h₀ [] h₀)
    (F : Fr h₀ L s.heap (lwM er to tr du po co n u tt (rd ((mk ws).take n)).ins ws Tk Wd M W D S)) (K : (HK w.params).In h₀) (T : Top VW LS mean mg mb h₀)
    (N : News h₀ L s.heap ((Tk, lo tv c2) :: (Wd, lo wv c1) :: rest)) (hW : WsOk ws 60) (hn : n ≤ (txt ws).length) (hTw : Texts wv (rd ((mk ws).take n)).ws) (hTt : Texts tv (rd ((mk ws).take n)).ts)
    (post : ∀ m' h' k, Fr h₀ L h' m' → News h₀ L h' rest → Q (.ret (.bool true)) { s with heap := h', toks := k }) :
    wpAny (model PG w) (lwA L fa cd) (execs [lw7, lw8] (lwEnv L fa cd)) Q (fun _ _ => False) s := by
  w_on
  k_steps
  unfold Hlt
  rename Fr h₀ L _ _ => F9
  rename News h₀ L _ _ => N9
  refine iter_tup (vs := [.bool false, .bool true]) (led₀ := []) (rest := _) [] (fun i m₁ led => ∃ er to tr du po co, m₁ = lwM er to tr du po co n u tt (rd ((mk ws).take n)).ins ws Tk Wd M W D S ∧ led = []) rfl F9 N9 (.head _) (fun q hq h => nomatch h) (fun b hb => nomatch hb) ⟨er, to, tr, du, po, co, rfl, rfl⟩ ?_ ?_
  · rintro i v m₁ led h tk rest' hv ⟨er, to, tr, du, po, co, rfl, rfl⟩ hr1 hr2 F₁ N₁
    obtain ⟨cb, rfl⟩ : ∃ cb, v = .bool cb := by
      match i, hv with
      | 0, hv => cases hv; exact ⟨_, rfl⟩
      | 1, hv => cases hv; exact ⟨_, rfl⟩
    have N₂ : News h₀ L h ((Tk, lo tv c2) :: (Wd, lo wv c1) :: rest') := fun q hq => by
      simp only [List.mem_cons] at hq
      rcases hq with h | h | h
      · exact N₁ q (hr2 q (by rw [h]; exact .tail _ (.head _)))
      · exact N₁ q (hr2 q (by rw [h]; exact .tail _ (.tail _ (.head _))))
      · exact N₁ q h
    refine law_in (cb := cb) B (frM F₁ (by walk_at "m_map")) K T N₂ hW hn hTw hTt fun er' to' tr' du' po' h' k F' N' => ?_
    exact .next F' (news_sub N' fun q hq => .tail _ (.tail _ hq)) LT.nil ⟨_, _, _, _, _, _, rfl, rfl⟩
  · rintro m₁ led h tk ⟨er, to, tr, du, po, co, rfl, rfl⟩ F₁ N₁
    k_steps
    exact post _ _ _ F₁ (news_sub N₁ fun q hq => .tail _ (.tail _ (.tail _ hq)))
/-- THE LAW'S BODY -/
theorem law_all {svs : List Value} {sns : List Int} (B : Below lwA0 h₀ [] h₀) (F : Fr h₀ L s.heap (mp [("script", some (.ref S))])) (K : (HK w.params).In h₀) (T : Top VW LS mean mg mb h₀) (N : News h₀ L s.heap [(746, tabObj #[])]) (hl : h₀.IsList S svs.toArray) (hi : IntsAre svs sns) (hlen : sns.length ≤ 63) (G : AllBare s.gens)
    (post : ∀ m' op h' k gens', TabO op → AllBare gens' → Fr h₀ L h' m' → News h₀ L h' [(746, op)] → Q (.ret (.bool true)) { s with heap := h', toks := k, gens := gens' }) :
    wpAny (model PG w) (lwA L fa cd) (execs b_law (lwEnv L fa cd)) Q (fun _ _ => False) s := by
  rw [nb_law]
  refine law1 B F K T N hl hi hlen fun D W ds c vs c' ms ws h1 k1 hD7 hDW hdg hT hW F1 N1 => ?_
  refine law2 B F1 K T N1 hD7 hDW hT hW G fun M mv cm tups op t' h2 k2 gens2 hWM htt hDm htab G2 F2 N2 => ?_
  refine law3 B F2 K T N2 hD7 hDW hWM htt hDm htab hT hW G2 fun op3 h3 k3 gens3 htab3 G3 F3 N3 => ?_
  refine law4 B F3 K T N3 hWM htt hDm hW hdg fun n u Wd Tk wv tv c1 c2 h4 k4 hn hTw hTt hWT F4 N4 => ?_
  refine law_out (er := none) (to := none) (tr := none) (du := none) (po := none) (co := none) B (frM F4 (by walk_at "m_map")) K T N4 hW hn hTw hTt fun m' h5 k5 F5 N5 => ?_
  exact post m' op3 h5 k5 gens3 htab3 G3 F5 N5
end

end
section
theorem oldK_of {h₁ h : Heap} {L : Addr} {m : Str → Option Value} {op : Obj} (hT : TabsAt [(750, 746)] h₁) (F : Fr (ghostOf h₁ [(750, 746)]) L h m) (N : News (ghostOf h₁ [(750, 746)]) L h [(746, op)]) (ht : TabO op) : OldK h₁ h := by
  obtain ⟨ps, rfl, _⟩ := ht
  have h7 := hT (750, 746) (.head _)
  have hP : h.get? 746 = some (tabObj ps) := N.get (.head _)
  have keep : ∀ b o, b ≠ 746 → h₁.get? b = some o → h.get? b = some o := fun b o hb e => F.keep b o (ghost_ne e fun hm => hb (List.mem_singleton.mp hm))
  refine ⟨fun b o e => ?_, fun b o e => ?_⟩
  · by_cases hb : b = 746
    · subst hb
      have e2 : o = tabObj #[] := by
        have := h7.2
        rw [e] at this
        exact Option.some.inj this
      subst e2
      exact .inr (.inl ⟨(h7.1.tab h7.2).isCodeTable, rfl, #[], ps, rfl, by rw [Array.empty_append]; exact hP⟩)
    · exact .inl (keep b o hb e)
  · by_cases hb : b = 746
    · subst hb
      exact ⟨_, hP⟩
    · exact ⟨o, keep b o hb e⟩
theorem recs_law : (recsOf VW).map (·.name) = [Str.ofString "law"] := by kernel_rfl
theorem owns_law : ownsOf VW = [] := by kernel_rfl
theorem ghost_VW {w : World} {mean : ExcName → Option Value} {mg mb : Str → Option Value} {h₁ : Heap} (hT : TabsAt [(750, 746)] h₁) (KX : (HK w.params).In h₁) (T : Top VW LS mean mg mb h₁) : Top VW LS mean mg mb (ghostOf h₁ [(750, 746)]) where
  g := ghost_ns hT T.g
  b := ghost_ns hT T.b
  nolimit := let ⟨mc, a, r⟩ := T.nolimit; ⟨mc, ghost_ns hT a, r⟩
  nodigits := let ⟨mc, a, r⟩ := T.nodigits; ⟨mc, ghost_ns hT a, r⟩
  fn := fun d hd => by
    obtain ⟨a, o, pm, code, doc, h1, h2, h3, ⟨c, o', vs, t, e, g, r, v1⟩⟩ := T.fn d hd
    exact ⟨a, o, pm, code, doc, h1, ghost_get hT h2 (fun q => by rw [q] at h3; cases h3), h3, c, o', vs, t, e, ghost_get hT g (fun q => by rw [q] at r; cases r; cases v1), r, v1⟩
  own := fun o ho => by rw [owns_law] at ho; cases ho
  const := T.const
  free := T.free
  builtins := T.builtins
  tab := fun d hd => by
    obtain ⟨a, o, fd, c, P, h1, h2, h3, h4, h5, h6⟩ := T.tab d hd
    have hn : d.name = Str.ofString "law" := List.mem_singleton.mp (recs_law ▸ List.mem_map_of_mem hd)
    have e1 := mg_of (n := Str.ofString "law") (v := .ref 804) KX T.g (by kernel_rfl)
    rw [← hn, h1] at e1
    obtain rfl : a = 804 := by injection e1 with e1; injection e1
    have e2 : h₁.get? 804 = some (o804 w.params) := KX 804 _ (by kernel_rfl)
    rw [h2] at e2
    obtain rfl := Option.some.inj e2
    have e3 : fd.code = .ref 803 := by
      injection h3 with h3
      rw [← h3]
    rw [e3] at h4
    obtain rfl : 803 = c := by injection h4
    have e4 : h₁.get? 803 = some (o803 w.params) := KX 803 _ (by kernel_rfl)
    obtain ⟨⟨oc, vc, g1, g2, g3, g4⟩, g5⟩ := id h6
    rw [e4] at g1
    obtain rfl := Option.some.inj g1
    have hP : P = 801 := by
      injection g3 with g3
      rw [← g3] at g4
      injection g4 with g4
      injection g4 with g4
      exact g4.symm
    subst hP
    have k3 := ghost_ne (tabs := [(750, 746)]) e4 (by decide)
    obtain ⟨x1, x2, x3, x4, x5, x6, x7, x8, x9, x10, y1, y2, y3, y4, y5, y6, y7, y8, y9⟩ := h5
    exact ⟨804, _, fd, 803, 801, h1, ghost_ne h2 (by decide), h3, e3, ⟨x1, x2, x3, x4, x5, x6, x7, x8, x9, x10, ghost_ne y1 (by decide), y2, y3, y4, y5, y6, y7, ghost_ne y8 (by decide), y9⟩, ⟨⟨_, _, k3, rfl, rfl, rfl⟩, ghost_ne g5 (by decide)⟩⟩
  bmain := let ⟨bm, ob, a1, a2, a3, a4, r⟩ := T.bmain; ⟨bm, ob, a1, a2, ghost_get hT a3 (fun q => by rw [q] at a4; cases a4), a4, r⟩
  seer := fun e => by
    have x := T.seer e
    exact ⟨let ⟨mc, a, b⟩ := x.statics; ⟨mc, ghost_ns hT a, b⟩, let ⟨mc, a, b⟩ := x.mods; ⟨mc, ghost_ns hT a, b⟩, let ⟨mc, a, b⟩ := x.imp; ⟨mc, ghost_ns hT a, b⟩,
      let ⟨mg, bm, ob, a, b, c, d, e⟩ := x.main; ⟨mg, bm, ob, ghost_ns hT a, b, ghost_get hT c (fun q => by rw [q] at d; cases d), d, e⟩⟩
theorem walkAll : WalkO VW LL (XL VW []) HH.says PySem.Challenge.rw_dn0158_01.row.toRowW ⟨"law", p_law, b_law, s_law, ⟨812, 0, 831, 15⟩⟩ [] fun f vs => PySem.call f vs := by
  w_on
  intro w s₀ s₁ mg mb G Y fa o pm cd doc dV kV ho hd hcd hD hmg hg args vals as hpre hlay hrd hwl hlo
  have KX := km_in_of Y
  have tabs := km_tabs_of Y
  have X := (Ground.X G).1
  have V := (Ground.X G).2
  refine Ground.open G ?_
  intro T B D TE TW
  try (refine guard_noD D (by decide +kernel) ?_; clear D)
  have hT9 : TabsAt [(750, 746)] s₁.heap := List.forall_mem_cons.mpr ⟨⟨codeHd_of_K (c := 750) (P := 746) KX (by kernel_rfl), tabs 746 (.head _)⟩, fun _ h => nomatch h⟩
  have T9 := ghost_VW hT9 KX T
  clear hmg
  wrow_args hpre hlay hrd hwl hlo
  all_goals (
    first | refine callC_kw (enter_call ?_) | refine enter_call ?_
    w_top on
    w_call any ho hd hcd hD T F
    clear hd
    kn_ghosts F T)
  rename_i sns _ _ _ _ _ _ _ S svs _ hL _ _ _ hI _ hc1 _ h₁ X' T' K' F' N' l0
  refine wpAny_noRaise ?_
  refine wpAny_weak (A' := lwA s₁.heap.objs.size fa cd) ?_ rfl (Nat.le_of_ble_eq_true rfl) rfl rfl (Nat.le_of_ble_eq_true rfl)
  refine law_all (S := S) (svs := svs) (sns := sns) ⟨rfl, K'.stays, K'.frames⟩ (frM F' (funext fun y => lkp1 y _ _)) X' T9 N' lifted hI (by omega) (.of_eq hg) fun m' op h' k gens' htab G' F5 N5 => ?_
  refine ⟨.inl ⟨_, _, [], rfl, (fun _ => rfl), ReadsW.bool true, ?_, fun _ => ⟨List.nodup_nil, fun _ hm => (nomatch hm)⟩⟩, oldK_of hT9 F5 N5 htab, rfl, G'⟩
  wrow_post

end
end Mine
open PySem PySem.W PyProof.Rows
theorem PySem.Challenge.cw_dn0158_01_holds : PySem.Challenge.rw_dn0158_01.Holds := by
  exact Mine.hd Mine.walkAll
