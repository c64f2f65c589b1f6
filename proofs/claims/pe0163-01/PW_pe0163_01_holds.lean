import PyProof.Rows.All
import Wide.All
import OpenK.AllK
import Wide.FinOn
import Lean
import PySem.Challenge.RW_pe0163_01
set_option Elab.async false
set_option maxRecDepth 100000
set_option linter.all false
set_option genInjectivity false
set_option genSizeOf false
set_option genSizeOfSpec false
section
open PySem PySem.W PySem.W.X PySem.W.ZRun PyProof.Rows
namespace Mine
noncomputable abbrev theProg : Program := PySem.Challenge.rw_pe0163_01.row.prog
noncomputable def Walk (kt : Params → KT) : Prop :=
  ∀ (w : World) (s : Shared) (ns : List Int) (vs : List Value), KT.Holds s.heap 1 0 (kt w.params) → s.heap.objs.size = 153 → s.gens = #[] → 406 ≤ s.toks →
    s.heap.get? 152 = some { cls := .type "list", data := .seq vs.toArray } → IntsAre vs ns → ns.length ≤ 63 →
    wpAny (model PySem.Challenge.rw_pe0163_01.row.prog w) callerA (call (.ref 151) [.ref 152])
      (fun v s' => v = .bool true ∧ OldK s.heap s'.heap ∧ s'.os = s.os ∧ AllBare s'.gens) (fun _ _ => False) s
theorem good_of {c : ClaimW} {cl : Str → Option Addr} {mean : ExcName → Option Value} {args : List WData} {s₁ s' : Shared} {v : Value}
    (hr : ∀ cls, c.raises args cls = false) (hp : c.post args (.bool true) args = true) (h : v = .bool true ∧ OldK s₁.heap s'.heap ∧ s'.os = s₁.os ∧ AllBare s'.gens) :
    GoodWG c cl mean args s₁ (.ok (.ret v)) s' := by
  obtain ⟨rfl, h1, h2, h3⟩ := h
  exact ⟨.inl ⟨_, _, [], rfl, hr, ReadsW.bool true, hp, fun _ => ⟨List.nodup_nil, fun _ hm => (nomatch hm)⟩⟩, h1, h2, h3⟩
noncomputable def nthS (l : List Stmt) (i : Nat) : Stmt := l.getD i (.Pass ⟨0, 0, 0, 0⟩)
noncomputable def bodyS : Stmt → List Stmt
  | .FunctionDef _ _ b _ _ _ _ _ _ _ => b
  | .For _ _ b _ _ => b
  | .While _ b _ _ => b
  | _ => []
noncomputable def scopeS : Stmt → Scope
  | .FunctionDef _ _ _ _ _ _ s _ _ _ => s
  | _ => default
noncomputable def argsS : Stmt → Arguments
  | .FunctionDef _ a _ _ _ _ _ _ _ _ => a
  | _ => default
noncomputable def clsB : Stmt → List Stmt
  | .ClassDef _ _ _ b _ _ _ _ _ _ _ => b
  | _ => []
noncomputable def prgB : List Stmt := theProg.main.body
noncomputable def fnT (s : Stmt) (nm q : Str) (m c : Value) : FuncData := { name := nm, qualname := q, params := argsS s, body := .stmts (bodyS s), scope := scopeS s, globals := 3, closure := [], defaults := .none, kwdefaults := .none, pyModule := m, code := c }
noncomputable def fnO (f : FuncData) : Obj := { cls := .type "function", data := .func f }
noncomputable def cdT (nm q : Str) (t : Nat) (ln ac : Int) (a b : Nat) (u v : Value) (d e : Nat) : Obj := { cls := .type "code", data := .fields #[.str nm t, .str q (t + 1), .str "/claim/cut.py" (t + 2), rawInt ln, rawInt ac, rawInt 0, rawInt 0, rawInt 3, .ref a, .bool true, rawInt 181, .ref b, .none, u, v, .ref d, rawInt (e : Int), rawInt ln, .str "/claim/cut.py" (e + 1)] }
noncomputable def eV (P : Params) (n : Str) (t : Nat) (v : Value) : DictEntry := ⟨PySem.PyData.keyHash P n, .str n t, v⟩
noncomputable def eB (P : Params) (n : String) (t : Nat) : DictEntry := eV P n t (.builtin n)
noncomputable def eT (P : Params) (n : String) (t : Nat) : DictEntry := eV P n t (.type n)
noncomputable def o_0 (P : Params) : Obj := { cls := .type "dict", data := .dict #[eV P "__name__" 1 (.str "builtins" 160), eV P "__doc__" 2 (.builtin "builtins.__doc__:str#opaque"), eV P "__package__" 3 (.builtin "builtins.__package__:str#opaque"), eV P "__loader__" 4 (.builtin "builtins.__loader__:shared#opaque"), eV P "__spec__" 5 (.builtin "builtins.__spec__#opaque"), eB P "__build_class__" 6, eB P "__import__" 7, eB P "abs" 8, eB P "all" 9, eB P "any" 10, eB P "ascii" 11, eB P "bin" 12, eB P "breakpoint" 13, eB P "callable" 14, eB P "chr" 15, eB P "compile" 16, eB P "delattr" 17, eB P "dir" 18, eB P "divmod" 19, eB P "eval" 20, eB P "exec" 21, eB P "format" 22, eB P "getattr" 23, eB P "globals" 24, eB P "hasattr" 25, eB P "hash" 26, eB P "hex" 27, eB P "id" 28, eB P "input" 29, eB P "isinstance" 30, eB P "issubclass" 31, eB P "iter" 32, eB P "aiter" 33, eB P "len" 34, eB P "locals" 35, eB P "max" 36, eB P "min" 37, eB P "next" 38, eB P "anext" 39, eB P "oct" 40, eB P "ord" 41, eB P "pow" 42, eB P "print" 43, eB P "repr" 44, eB P "round" 45, eB P "setattr" 46, eB P "sorted" 47, eB P "sum" 48, eB P "vars" 49, eV P "None" 50 (.none), eV P "Ellipsis" 51 (.ellipsis), eV P "NotImplemented" 52 (.notImplemented), eV P "False" 53 (.bool false), eV P "True" 54 (.bool true), eT P "bool" 55, eT P "memoryview" 56, eT P "bytearray" 57, eT P "bytes" 58, eT P "classmethod" 59, eT P "complex" 60, eT P "dict" 61, eT P "enumerate" 62, eT P "filter" 63, eT P "float" 64, eT P "frozenset" 65, eT P "property" 66, eT P "int" 67, eT P "list" 68, eT P "map" 69, eT P "object" 70, eT P "range" 71, eT P "reversed" 72, eT P "set" 73, eT P "slice" 74, eT P "staticmethod" 75, eT P "str" 76, eT P "super" 77, eT P "tuple" 78, eT P "type" 79, eT P "zip" 80, eV P "__debug__" 81 (.bool true), eT P "BaseException" 82, eT P "BaseExceptionGroup" 83, eT P "Exception" 84, eT P "GeneratorExit" 85, eT P "KeyboardInterrupt" 86, eT P "SystemExit" 87, eT P "ArithmeticError" 88, eT P "AssertionError" 89, eT P "AttributeError" 90, eT P "BufferError" 91, eT P "EOFError" 92, eT P "ImportError" 93, eT P "LookupError" 94, eT P "MemoryError" 95, eT P "NameError" 96, eT P "OSError" 97, eT P "ReferenceError" 98, eT P "RuntimeError" 99, eT P "StopAsyncIteration" 100, eT P "StopIteration" 101, eT P "SyntaxError" 102, eT P "SystemError" 103, eT P "TypeError" 104, eT P "ValueError" 105, eT P "Warning" 106, eT P "FloatingPointError" 107, eT P "OverflowError" 108, eT P "ZeroDivisionError" 109, eT P "BytesWarning" 110, eT P "DeprecationWarning" 111, eT P "EncodingWarning" 112, eT P "FutureWarning" 113, eT P "ImportWarning" 114, eT P "PendingDeprecationWarning" 115, eT P "ResourceWarning" 116, eT P "RuntimeWarning" 117, eT P "SyntaxWarning" 118, eT P "UnicodeWarning" 119, eT P "UserWarning" 120, eT P "BlockingIOError" 121, eT P "ChildProcessError" 122, eT P "ConnectionError" 123, eT P "FileExistsError" 124, eT P "FileNotFoundError" 125, eT P "InterruptedError" 126, eT P "IsADirectoryError" 127, eT P "NotADirectoryError" 128, eT P "PermissionError" 129, eT P "ProcessLookupError" 130, eT P "TimeoutError" 131, eT P "IndentationError" 132, eT P "_IncompleteInputError" 133, eT P "IndexError" 134, eT P "KeyError" 135, eT P "ModuleNotFoundError" 136, eT P "NotImplementedError" 137, eT P "PythonFinalizationError" 138, eT P "RecursionError" 139, eT P "UnboundLocalError" 140, eT P "UnicodeError" 141, eT P "BrokenPipeError" 142, eT P "ConnectionAbortedError" 143, eT P "ConnectionRefusedError" 144, eT P "ConnectionResetError" 145, eT P "TabError" 146, eT P "UnicodeDecodeError" 147, eT P "UnicodeEncodeError" 148, eT P "UnicodeTranslateError" 149, eT P "ExceptionGroup" 150, eV P "EnvironmentError" 151 (.type "OSError"), eV P "IOError" 152 (.type "OSError"), eB P "open" 153, eV P "quit" 154 (.builtin "builtins.quit#opaque"), eV P "exit" 155 (.builtin "builtins.exit#opaque"), eV P "copyright" 156 (.builtin "builtins.copyright#opaque"), eV P "credits" 157 (.builtin "builtins.credits#opaque"), eV P "license" 158 (.builtin "builtins.license#opaque"), eV P "help" 159 (.builtin "builtins.help#opaque")] 159 }
noncomputable def o_2 (P : Params) : Obj := { cls := .none, data := .dict #[] 0 }
noncomputable def o_3 (P : Params) : Obj := { cls := .type "dict", data := .dict #[eV P "__name__" 165 (.str "law_pe0163_01" 342), eV P "__doc__" 166 (.none), eV P "__package__" 167 (.none), eV P "__loader__" 168 (.builtin "__main__.__loader__#opaque"), eV P "__spec__" 169 (.none), eV P "__annotations__" 170 (.ref 6), eV P "__builtins__" 171 (.ref 4), eV P "__file__" 173 (.str "/claim/cut.py" 172), eV P "__cached__" 174 (.none), eV P "_DIV_LIMIT" 190 (.int (4000) 189), eV P "_div2n1n" 207 (.ref 21), eV P "_div3n2n" 221 (.ref 28), eV P "_int2digits" 232 (.ref 35), eV P "_digits2int" 243 (.ref 42), eV P "_divmod_pos" 258 (.ref 49), eV P "int_divmod" 268 (.ref 56), eV P "_netrclex" 328 (.ref 94), eV P "_split_list" 341 (.ref 105), eV P "_law_machine" 354 (.ref 112), eV P "_law_names" 360 (.ref 117), eV P "_law_written" 366 (.ref 122), eV P "_law_dealt" 372 (.ref 127), eV P "_law_gathered" 384 (.ref 134), eV P "_law_parted" 393 (.ref 141), eV P "_law_trick" 399 (.ref 146), eV P "law" 405 (.ref 151)] 26 }
noncomputable def o_4 (P : Params) : Obj := { cls := .type "module", dict := some 0, data := .plain }
noncomputable def o_20 (P : Params) : Obj := cdT "_div2n1n" "_div2n1n" 191 3 3 15 16 (.ref 17) (.ref 18) 19 205
noncomputable def o_21 (P : Params) : Obj := fnO (fnT (nthS prgB 2) "_div2n1n" "_div2n1n" (.str "cpy313._pylong" 187) (.ref 20))
noncomputable def o_30 (P : Params) : Obj := { cls := .none, data := .fields #[] }
noncomputable def o_34 (P : Params) : Obj := cdT "_int2digits" "_int2digits" 222 29 2 29 30 (.ref 31) (.ref 32) 33 230
noncomputable def o_35 (P : Params) : Obj := fnO (fnT (nthS prgB 4) "_int2digits" "_int2digits" (.str "cpy313._pylong" 187) (.ref 34))
noncomputable def o_37 (P : Params) : Obj := { cls := .none, data := .fields #[] }
noncomputable def o_41 (P : Params) : Obj := cdT "_digits2int" "_digits2int" 233 45 2 36 37 (.ref 38) (.ref 39) 40 241
noncomputable def o_42 (P : Params) : Obj := fnO (fnT (nthS prgB 5) "_digits2int" "_digits2int" (.str "cpy313._pylong" 187) (.ref 41))
noncomputable def o_48 (P : Params) : Obj := cdT "_divmod_pos" "_divmod_pos" 244 54 2 43 44 (.ref 45) (.ref 46) 47 256
noncomputable def o_49 (P : Params) : Obj := fnO (fnT (nthS prgB 6) "_divmod_pos" "_divmod_pos" (.str "cpy313._pylong" 187) (.ref 48))
noncomputable def o_55 (P : Params) : Obj := cdT "int_divmod" "int_divmod" 259 65 2 50 51 (.ref 52) (.ref 53) 54 266
noncomputable def o_56 (P : Params) : Obj := fnO (fnT (nthS prgB 7) "int_divmod" "int_divmod" (.str "cpy313._pylong" 187) (.ref 55))
noncomputable def o_69 (P : Params) : Obj := cdT "__init__" "_netrclex.__init__" 283 79 2 64 65 (.ref 66) (.ref 67) 68 288
noncomputable def o_70 (P : Params) : Obj := fnO (fnT (nthS (clsB (nthS prgB 9)) 0) "__init__" "_netrclex.__init__" (.str "cpy313.netrc" 269) (.ref 69))
noncomputable def o_76 (P : Params) : Obj := cdT "_read_char" "_netrclex._read_char" 291 85 1 71 72 (.ref 73) (.ref 74) 75 296
noncomputable def o_77 (P : Params) : Obj := fnO (fnT (nthS (clsB (nthS prgB 9)) 1) "_read_char" "_netrclex._read_char" (.str "cpy313.netrc" 269) (.ref 76))
noncomputable def o_83 (P : Params) : Obj := cdT "get_token" "_netrclex.get_token" 299 91 1 78 79 (.ref 80) (.ref 81) 82 306
noncomputable def o_84 (P : Params) : Obj := fnO (fnT (nthS (clsB (nthS prgB 9)) 2) "get_token" "_netrclex.get_token" (.str "cpy313.netrc" 269) (.ref 83))
noncomputable def o_90 (P : Params) : Obj := cdT "push_token" "_netrclex.push_token" 309 118 2 85 86 (.ref 87) (.ref 88) 89 314
noncomputable def o_91 (P : Params) : Obj := fnO (fnT (nthS (clsB (nthS prgB 9)) 3) "push_token" "_netrclex.push_token" (.str "cpy313.netrc" 269) (.ref 90))
noncomputable def o_93 (P : Params) : Obj := { cls := .type "dict", data := .dict #[eV P "__module__" 278 (.str "cpy313.netrc" 269), eV P "__firstlineno__" 282 (.int (77) 281), eV P "__init__" 290 (.ref 70), eV P "_read_char" 298 (.ref 77), eV P "get_token" 308 (.ref 84), eV P "push_token" 316 (.ref 91), eV P "__static_attributes__" 321 (.ref 92), eV P "__dict__" 323 (.ref 95), eV P "__weakref__" 325 (.ref 96), eV P "__doc__" 326 (.none)] 4 }
noncomputable def o_94 (P : Params) : Obj := { cls := .type "type", data := .cls { name := "_netrclex", bases := [.type "object"], mro := [.ref 94, .type "object"], ns := 93, qualname := "_netrclex", hasDict := true, slotNames := [], subclasses := [], abstract := false, collection := none, hasDel := false }, slots := #[none, none, some (.str "_netrclex" 271), some (.str "_netrclex" 279), some (.builtin "object.__new__"), some (.bool true)] }
noncomputable def o_104 (P : Params) : Obj := cdT "_split_list" "_split_list" 331 121 2 99 100 (.ref 101) (.ref 102) 103 339
noncomputable def o_105 (P : Params) : Obj := fnO (fnT (nthS prgB 11) "_split_list" "_split_list" (.str "cpy313.pydoc" 329) (.ref 104))
noncomputable def o_107 (P : Params) : Obj := { cls := .none, data := .fields #[] }
noncomputable def o_111 (P : Params) : Obj := cdT "_law_machine" "_law_machine" 344 131 1 106 107 (.ref 108) (.ref 109) 110 352
noncomputable def o_112 (P : Params) : Obj := fnO (fnT (nthS prgB 13) "_law_machine" "_law_machine" (.str "law_pe0163_01" 342) (.ref 111))
noncomputable def o_116 (P : Params) : Obj := cdT "_law_names" "_law_names" 355 141 1 113 114 (.none) (.none) 115 358
noncomputable def o_117 (P : Params) : Obj := fnO (fnT (nthS prgB 14) "_law_names" "_law_names" (.str "law_pe0163_01" 342) (.ref 116))
noncomputable def o_121 (P : Params) : Obj := cdT "_law_written" "_law_written" 361 143 1 118 119 (.none) (.none) 120 364
noncomputable def o_122 (P : Params) : Obj := fnO (fnT (nthS prgB 15) "_law_written" "_law_written" (.str "law_pe0163_01" 342) (.ref 121))
noncomputable def o_126 (P : Params) : Obj := cdT "_law_dealt" "_law_dealt" 367 153 3 123 124 (.none) (.none) 125 370
noncomputable def o_127 (P : Params) : Obj := fnO (fnT (nthS prgB 16) "_law_dealt" "_law_dealt" (.str "law_pe0163_01" 342) (.ref 126))
noncomputable def o_133 (P : Params) : Obj := cdT "_law_gathered" "_law_gathered" 373 160 3 128 129 (.ref 130) (.ref 131) 132 382
noncomputable def o_134 (P : Params) : Obj := fnO (fnT (nthS prgB 17) "_law_gathered" "_law_gathered" (.str "law_pe0163_01" 342) (.ref 133))
noncomputable def o_136 (P : Params) : Obj := { cls := .none, data := .fields #[] }
noncomputable def o_140 (P : Params) : Obj := cdT "_law_parted" "_law_parted" 385 169 2 135 136 (.ref 137) (.ref 138) 139 391
noncomputable def o_141 (P : Params) : Obj := fnO (fnT (nthS prgB 18) "_law_parted" "_law_parted" (.str "law_pe0163_01" 342) (.ref 140))
noncomputable def o_145 (P : Params) : Obj := cdT "_law_trick" "_law_trick" 394 171 4 142 143 (.none) (.none) 144 397
noncomputable def o_146 (P : Params) : Obj := fnO (fnT (nthS prgB 19) "_law_trick" "_law_trick" (.str "law_pe0163_01" 342) (.ref 145))
noncomputable def o_150 (P : Params) : Obj := cdT "law" "law" 400 198 1 147 148 (.none) (.none) 149 403
noncomputable def o_151 (P : Params) : Obj := fnO (fnT (nthS prgB 20) "law" "law" (.str "law_pe0163_01" 342) (.ref 150))
@[irreducible] noncomputable def topK (P : Params) : Frag := [(0, o_0 P), (2, o_2 P), (3, o_3 P), (4, o_4 P), (20, o_20 P), (21, o_21 P), (30, o_30 P), (34, o_34 P), (35, o_35 P), (37, o_37 P), (41, o_41 P), (42, o_42 P), (48, o_48 P), (49, o_49 P), (55, o_55 P), (56, o_56 P), (69, o_69 P), (70, o_70 P), (76, o_76 P), (77, o_77 P), (83, o_83 P), (84, o_84 P), (90, o_90 P), (91, o_91 P), (93, o_93 P), (94, o_94 P), (104, o_104 P), (105, o_105 P), (107, o_107 P), (111, o_111 P), (112, o_112 P), (116, o_116 P), (117, o_117 P), (121, o_121 P), (122, o_122 P), (126, o_126 P), (127, o_127 P), (133, o_133 P), (134, o_134 P), (136, o_136 P), (140, o_140 P), (141, o_141 P), (145, o_145 P), (146, o_146 P), (150, o_150 P), (151, o_151 P)]
@[irreducible] noncomputable def ktop (P : Params) : KT := .node (some (o_0 P)) (.node none (.node (some (o_3 P)) (.node none (.node none (.node none (.node none (.node (some (o_127 P)) (.nil) (.nil)) (.nil)) (.nil)) (.node none (.nil) (.node (some (o_111 P)) (.nil) (.nil)))) (.node none (.nil) (.node (some (o_55 P)) (.node none (.node (some (o_151 P)) (.nil) (.nil)) (.nil)) (.nil)))) (.node none (.node none (.node (some (o_35 P)) (.nil) (.nil)) (.node none (.node (some (o_83 P)) (.nil) (.nil)) (.nil))) (.node none (.node none (.nil) (.node (some (o_107 P)) (.nil) (.nil))) (.node none (.node (some (o_91 P)) (.nil) (.nil)) (.nil))))) (.node none (.node none (.node none (.nil) (.node (some (o_49 P)) (.node none (.node (some (o_145 P)) (.nil) (.nil)) (.nil)) (.nil))) (.node none (.node (some (o_41 P)) (.nil) (.node (some (o_105 P)) (.nil) (.nil))) (.node none (.nil) (.node (some (o_121 P)) (.nil) (.nil))))) (.node none (.node (some (o_21 P)) (.node (some (o_37 P)) (.node (some (o_69 P)) (.node (some (o_133 P)) (.nil) (.nil)) (.nil)) (.nil)) (.node none (.nil) (.node (some (o_117 P)) (.nil) (.nil)))) (.node none (.node none (.node (some (o_77 P)) (.node (some (o_141 P)) (.nil) (.nil)) (.nil)) (.nil)) (.node none (.node (some (o_93 P)) (.nil) (.nil)) (.nil)))))) (.node (some (o_2 P)) (.node (some (o_4 P)) (.node none (.node none (.nil) (.node (some (o_48 P)) (.nil) (.node (some (o_112 P)) (.nil) (.nil)))) (.node none (.node none (.node none (.node (some (o_136 P)) (.nil) (.nil)) (.nil)) (.node (some (o_104 P)) (.nil) (.nil))) (.node (some (o_56 P)) (.nil) (.nil)))) (.node none (.node (some (o_20 P)) (.nil) (.node none (.node (some (o_84 P)) (.nil) (.nil)) (.node (some (o_116 P)) (.nil) (.nil)))) (.node none (.node none (.node (some (o_76 P)) (.node (some (o_140 P)) (.nil) (.nil)) (.nil)) (.nil)) (.nil)))) (.node none (.node none (.node none (.node (some (o_34 P)) (.nil) (.nil)) (.node none (.node none (.node (some (o_146 P)) (.nil) (.nil)) (.nil)) (.nil))) (.node none (.node (some (o_42 P)) (.nil) (.nil)) (.node none (.node (some (o_90 P)) (.nil) (.nil)) (.node (some (o_122 P)) (.nil) (.nil))))) (.node none (.node none (.node none (.node (some (o_70 P)) (.node (some (o_134 P)) (.nil) (.nil)) (.nil)) (.nil)) (.node none (.node none (.node (some (o_150 P)) (.nil) (.nil)) (.nil)) (.nil))) (.node (some (o_30 P)) (.nil) (.node none (.node (some (o_94 P)) (.nil) (.nil)) (.node (some (o_126 P)) (.nil) (.nil)))))))
noncomputable def topA : List Nat := [0, 2, 3, 4, 20, 21, 30, 34, 35, 37, 41, 42, 48, 49, 55, 56, 69, 70, 76, 77, 83, 84, 90, 91, 93, 94, 104, 105, 107, 111, 112, 116, 117, 121, 122, 126, 127, 133, 134, 136, 140, 141, 145, 146, 150, 151]
theorem ktop_eq (P : Params) : KT.of (topK P) = ktop P := by kernel_rfl
theorem topA_eq (P : Params) : topA = (topK P).map (·.1) := by kernel_rfl
theorem holds_top {h h' : Heap} {K : Frag} {T : KT} (e : KT.of K = T) (A : AllIn h K) (k : ∀ b o, h.get? b = some o → h'.get? b = some o) : KT.Holds h' 1 0 T := by
  subst e
  exact KT.Holds.keeps k (holds_of A)
noncomputable def vw : Program := PySem.W.view theProg [1, 2, 3, 4, 5, 6, 7, 9, 11, 13, 14, 15, 16, 17, 18, 19, 20]
noncomputable def leftA (p q : Program) (as : List Nat) (N : Nat) (w : World) :=
  (openEnds treeTable p w N).map (fun s => (openSeen q [] (importedModules p.main.body) (fun s => xlAt q [] s && recOk [] s) true s, obsZ as s))
theorem leftA_id : @leftA = @leftA := rfl
noncomputable def leftB (q : Program) (K : Params → Frag) (n t : Nat) (w : World) := some (openGood q [], valZ K n t w)
theorem leftB_id : @leftB = @leftB := rfl
lay_quick Mine.leftA
lay_quick Mine.leftB
end Mine
name_quick leftAY for Mine.leftA by Mine.leftA_id
name_quick leftBY for Mine.leftB by Mine.leftB_id
namespace Mine
theorem left_ok (w : World) : leftA theProg vw topA 1804 w = leftB vw topK 152 406 w := by
  rw [PySem.W.Fast.leftAY_eq, PySem.W.Fast.leftBY_eq]
  kernel_rfl
theorem left_fin : LeftO theProg vw [] (fun s => xlAt vw [] s && recOk [] s) (obsZ topA) (valZ topK 152 406) 1804 := by
  intro w
  exact (leftA.eq_1 theProg vw topA 1804 w).symm.trans ((left_ok w).trans (leftB.eq_1 vw topK 152 406 w))
end Mine
end
section
open PySem PySem.W PySem.W.X PyProof.Rows
namespace Mine
noncomputable def enterP : Sem Unit := do
  let limit ← currentRecursionLimit
  if limit == recursionLimit then pure () else unsupported "mine"
noncomputable def compiledOf (fd : FuncData) : Sem Str := match fd.code with
  | .none => pure fd.qualname
  | c => field c 1 >>= fun v => match v with
    | .str q _ => pure q
    | _ => pure fd.qualname
noncomputable def callEnd (fd : FuncData) (code : Code) : Sem Fin := match fd.scope.isGenerator, fd.scope.isCoroutine with
  | false, false => again code
  | true, false => newGenerator code fd.name fd.qualname >>= fun v => ret v
  | false, true => newCoroutine code fd.name fd.qualname >>= fun v => ret v
  | true, true => newAsyncGenerator code fd.name fd.qualname >>= fun v => ret v
noncomputable def bodyOf (fd : FuncData) (env : Env) : Code := match fd.body with
  | .stmts b => .func b env
  | .expr e => .expr e env
noncomputable def callTail (enter : Sem Unit) (self : Addr) (fd : FuncData) (args : Args) (comp : Str) : Sem Fin :=
  bindArgs fd args >>= fun binds => newFunctionEnv fd.scope fd.globals fd.closure binds (comp ++ ".<locals>.") (some self) fd.code none fd.builtins >>= fun env =>
  enter >>= fun _ => callEnd fd (bodyOf fd env)
noncomputable def callFn (self : Addr) (fd : FuncData) (args : Args) : Sem Fin := compiledOf fd >>= callTail enterP self fd args
noncomputable def denP (c : Code) : Sem Fin := match c with
  | .call f args => match f with
    | .ref a => load a >>= fun o => match o.data with
       | .func fd => callFn a fd args
       | _ => denote table c
    | _ => denote table c
  | _ => denote table c
noncomputable def notIn (a : Nat) : List Nat → Bool
  | [] => true
  | t :: r => match Nat.beq t a with
    | true => false
    | false => notIn a r
section
variable {prog : Program} {w : World} {A : Around} {E : Value → Shared → Prop} {s : Shared}
theorem enter_G {Γ : Ctx} (hΓ : Γ.In A) (hd : A.depth < recursionLimit) {Q : Unit → Pos → Shared → Prop} {E : Value → Pos → Shared → Prop} {p : Pos} {s : Shared}
    (h1 : Sem.wp (model prog w) Γ enterP Q E p s) : Sem.wp (model prog w) Γ enterFrame Q E p s := by
  have hge := frameCount_ge ((Γ.code, p) :: Γ.below)
  rw [frameCount_cons] at hge
  have hin := hΓ.2.1
  have hlt : ¬ ((((Γ.code, p) :: Γ.below).map (·.1)).map (·.frames)).sum ≥ recursionLimit := by omega
  have hlt' : ¬ ((((Γ.code, p) :: Γ.below).map (·.1)).map (·.frames)).sum + ((((Γ.code, p) :: Γ.below).map (·.1)).filter Code.isCreation).length ≥ recursionLimit := by omega
  have hne := not_nearTheLimit (p := p) hΓ hd
  unfold enterP at h1
  rw [Sem.wp_bind'] at h1
  simp only [enterFrame, Sem.wp_bind']
  show Sem.wp (model prog w) Γ currentRecursionLimit _ _ p s
  refine Sem.wp_mono _ Γ _ (fun limit p' s' h' => ?_) (fun _ _ _ x => x) p s h1
  by_cases q : limit = recursionLimit
  · subst q
    rw [if_pos (by simp)] at h'
    show Sem.wp (model prog w) Γ (if nearTheLimitUnderAClaim (((Γ.code, p) :: Γ.below).map (·.1)) (((((Γ.code, p) :: Γ.below).map (·.1)).map (·.frames)).sum + ((((Γ.code, p) :: Γ.below).map (·.1)).filter Code.isCreation).length) recursionLimit = true then _ else _) _ _ p' s'
    rw [if_neg (by rw [hne]; exact Bool.false_ne_true)]
    show Sem.wp (model prog w) Γ (if ((((Γ.code, p) :: Γ.below).map (·.1)).map (·.frames)).sum ≥ recursionLimit then _ else _) _ _ p' s'
    rw [if_neg hlt]
    show Sem.wp (model prog w) Γ (if ((((Γ.code, p) :: Γ.below).map (·.1)).map (·.frames)).sum + ((((Γ.code, p) :: Γ.below).map (·.1)).filter Code.isCreation).length ≥ recursionLimit then _ else _) _ _ p' s'
    rw [if_neg hlt']
    exact h'
  · rw [if_neg (by simpa using q)] at h'
    exact absurd h' (by intro z; exact z)
theorem callFunction_eq (a : Addr) (fd : FuncData) (args : Args) : callFunction a fd args = compiledOf fd >>= callTail enterFrame a fd args := by
  obtain ⟨nm, qn, ps, body, sc, gl, cl, df, kd, doc, pm, an, code, ct, bi⟩ := fd
  unfold callFunction compiledOf
  cases code <;> first
    | rfl
    | (simp only [pure_bind]; rfl)
    | (simp only [bind_assoc]; refine congrArg _ (funext fun v => ?_); cases v <;> first | rfl | (simp only [pure_bind]; rfl))
theorem callFn_sound {a : Addr} {fd : FuncData} {args : Args} {Q : Fin → Shared → Prop} (hd : A.depth < recursionLimit) (h : wpAny (model prog w) A (callFn a fd args) Q E s) : wpAny (model prog w) A (callFunction a fd args) Q E s := by
  rw [callFunction_eq]
  intro Γ p hΓ
  have h1 := h Γ p hΓ
  unfold callFn at h1
  rw [Sem.wp_bind'] at h1 ⊢
  refine Sem.wp_mono _ Γ _ (fun x p₁ s₁ h => ?_) (fun _ _ _ x => x) p s h1
  unfold callTail at h ⊢
  rw [Sem.wp_bind'] at h ⊢
  refine Sem.wp_mono _ Γ _ (fun x p₁ s₁ h => ?_) (fun _ _ _ x => x) p₁ s₁ h
  rw [Sem.wp_bind'] at h ⊢
  refine Sem.wp_mono _ Γ _ (fun x p₁ s₁ h => ?_) (fun _ _ _ x => x) p₁ s₁ h
  rw [Sem.wp_bind'] at h ⊢
  exact enter_G hΓ hd h
theorem denP_sound {c : Code} {Q : Fin → Shared → Prop} (hd : A.depth < recursionLimit) (h : wpAny (model prog w) A (denP c) Q E s) : wpAny (model prog w) A (denote table c) Q E s := by
  unfold denP at h
  split at h
  · split at h
    · rename_i f args v a
      intro Γ p hΓ
      have h1 := h Γ p hΓ
      rw [Sem.wp_bind', Sem.wp_cmd_load] at h1
      obtain ⟨o, ho, h1⟩ := h1
      split at h1
      · rename_i fd q
        have h2 : wpAny (model prog w) A (callFn a fd args) Q E s → wpAny (model prog w) A (denote table (.call (.ref a) args)) Q E s := fun z => by
          have y := callFn_sound hd z
          show wpAny _ _ (callAny (.ref a) args) Q E s
          unfold callAny
          refine wpAny_bind (wpAny_load ho ?_)
          rw [q]
          exact y
        have h3 : ∀ Γ p, Γ.In A → Sem.wp (model prog w) Γ (callFn a fd args) (fun a _ s' => Q a s') (fun e _ s' => E e s') p s := fun Γ p hΓ => by
          have z := h Γ p hΓ
          rw [Sem.wp_bind', Sem.wp_load_of _ _ _ _ _ ho] at z
          rw [q] at z
          exact z
        exact h2 h3 Γ p hΓ
      · exact h1
    · exact h
  · exact h
end
theorem notIn_iff {a : Nat} : ∀ {l : List Nat}, notIn a l = true → a ∉ l
  | [], _ => by simp
  | t :: r, h => by
    unfold notIn at h
    cases q : Nat.beq t a with
    | true => rw [q] at h; cases h
    | false =>
      rw [q] at h
      have h1 := notIn_iff h
      have h2 := Nat.ne_of_beq_eq_false q
      simp only [List.mem_cons, not_or]
      exact ⟨fun e => h2 e.symm, h1⟩
theorem frames_le (c : Code) : c.frames ≤ 3 := by
  unfold Code.frames
  split <;> first | decide | (split <;> decide)
theorem weight_le {c : Code} (h : c.isCaller = false) : c.weight ≤ 5 := by
  have := frames_le c
  unfold Code.weight
  rw [h]
  split <;> split <;> simp <;> omega
theorem cUnits_le (c : Code) : c.cUnits ≤ 18 := by
  have := frames_le c
  unfold Code.cUnits
  split <;> omega
noncomputable def Room (A : Around) (k : Nat) : Prop := A.handled = none ∧ (A.depth + k < recursionLimit ∧ A.units + 3 * k < cLine)
theorem Room.mono {A : Around} {k l : Nat} (h : Room A k) (hl : l ≤ k) : Room A l := ⟨h.1, by have := h.2; omega⟩
theorem Room.under {A : Around} {k : Nat} {c : Code} (h : Room A (k + 6)) (hc : c.isCaller = false) : Room (A.under c) k := by
  have h1 := weight_le hc
  have h2 := h.2
  have h3 := cUnits_le c
  refine ⟨h.1, ?_, ?_⟩
  · show A.depth + c.weight + k < recursionLimit
    omega
  · show A.units + c.cUnits + 3 * k < cLine
    omega
noncomputable def FinP (prog : Program) (w : World) (A : Around) (R : Result → Shared → Prop) : Fin → Shared → Prop := fun fin s' => match fin with
  | .done f => R (.ok f) s'
  | .again c' => c'.quiet = true ∧ codeAny (model prog w) A c' R s'
noncomputable def ErrP (R : Result → Shared → Prop) : Value → Shared → Prop := fun e s' => R (.error e) s'
end Mine
end
section
open PySem PySem.W PySem.W.X PyProof.Rows
namespace Mine
open Sem (wp wp_bind' wp_mono)
noncomputable def Imp (M : Model) (Γ : Ctx) {α : Type} (m m' : Sem α) : Prop := ∀ Q E p s, wp M Γ m Q E p s → wp M Γ m' Q E p s
section
variable {M : Model} {Γ : Ctx} {α β : Type}
theorem Imp.refl (m : Sem α) : Imp M Γ m m := fun _ _ _ _ h => h
theorem Imp.bind {m m' : Sem α} {f f' : α → Sem β} (h : Imp M Γ m m') (k : ∀ a, Imp M Γ (f a) (f' a)) : Imp M Γ (m >>= f) (m' >>= f') := fun Q E p s H => by
  rw [wp_bind'] at H ⊢
  exact wp_mono M Γ m' (fun x p' s' z => k x _ _ _ _ z) (fun _ _ _ z => z) p s (h _ _ _ _ H)
theorem Imp.then {m : Sem α} {f f' : α → Sem β} (k : ∀ a, Imp M Γ (f a) (f' a)) : Imp M Γ (m >>= f) (m >>= f') := Imp.bind (Imp.refl m) k
theorem Imp.uns {what : String} {m : Sem α} : Imp M Γ (.unsupported what) m := fun Q E p s h => by
  rw [Sem.wp_unsupported] at h; exact h.elim
theorem Imp.onRaise {m m' : Sem α} {f : Value → Sem Unit} (h : Imp M Γ m m') : Imp M Γ (m.onRaise f) (m'.onRaise f) := fun Q E p s H => by
  rw [Sem.wp_onRaise] at H ⊢
  exact h _ _ _ _ H
theorem Imp.operate {vs : List Value} {m m' : Sem Value} (h : Imp M Γ m m') : Imp M Γ (operate vs m) (operate vs m') := fun Q E p s H => by
  rw [Sem.wp_operate] at H ⊢
  exact h _ _ _ _ H
noncomputable def cmpQ (op : CmpOp) (a b : Value) : Sem Value := match oneThing? op a b with
  | some v => pure (.bool v)
  | none => do
    let ta ← typeOf a
    let tb ← typeOf b
    match ta != tb with
    | true => .unsupported "mine"
    | false => do
      match ← tryCompare a (cmpInfo op).2.1 b with
      | some v => pure v
      | none => .unsupported "mine"
theorem cmpQ_imp {op : CmpOp} {a b : Value} (hu : Γ.units < cLine) : Imp M Γ (cmpQ op a b) (richCompare op a b) := by
  intro Q E p s H
  unfold richCompare
  rw [Sem.wp_holding, wp_bind']
  have key : ∀ Q' : Unit → Pos → Shared → Prop, Q' () p s → wp M Γ (cRoomFor "comparison" [a, b]) Q' E p s := fun Q' h => by
    cases q : [a, b].any Value.onHeap with
    | true => rw [Sem.wp_cRoomFor_onHeap _ q]; exact ⟨hu, h⟩
    | false => rw [Sem.wp_cRoomFor_byValue _ q]; exact h
  refine key _ ?_
  unfold cmpQ at H
  cases q : oneThing? op a b with
  | some v =>
    rw [q] at H
    simpa using H
  | none =>
    rw [q] at H
    dsimp only at H ⊢
    rw [wp_bind'] at H ⊢
    refine wp_mono M Γ _ (fun ta p1 s1 H => ?_) (fun _ _ _ z => z) p s H
    rw [wp_bind'] at H ⊢
    refine wp_mono M Γ _ (fun tb p2 s2 H => ?_) (fun _ _ _ z => z) p1 s1 H
    cases z : ta != tb with
    | true => rw [z] at H; dsimp only at H; rw [Sem.wp_unsupported] at H; exact H.elim
    | false =>
      rw [z] at H
      dsimp only at H
      rw [if_neg (by simp)]
      rw [wp_bind'] at H
      show wp M Γ (pure false >>= _) Q E p2 s2
      rw [wp_bind', Sem.wp_pure']
      rw [if_neg (by simp)]
      rw [wp_bind']
      refine wp_mono M Γ _ (fun r p3 s3 H => ?_) (fun _ _ _ z => z) p2 s2 H
      cases r with
      | some v => exact H
      | none => rw [Sem.wp_unsupported] at H; exact H.elim
noncomputable def compareQ (op : CmpOp) (a b : Value) : Sem Value := match op with
  | .Eq => cmpQ .Eq a b
  | .NotEq => cmpQ .NotEq a b
  | op => compareOp op a b
theorem compareQ_imp {op : CmpOp} {a b : Value} (hu : Γ.units < cLine) : Imp M Γ (compareQ op a b) (compareOp op a b) := by
  cases op <;> first | exact Imp.refl _ | exact cmpQ_imp hu
noncomputable def testQ (pos : Pos) (left : Value) (op : CmpOp) (r : Sem Value) : Sem Bool := holding [left] r >>= fun rv => standAt pos >>= fun _ => operate [left, rv] (compareQ op left rv) >>= fun c => holding [c] (truthy c)
theorem testQ_imp {pos : Pos} {left : Value} {op : CmpOp} {r : Sem Value} (hu : Γ.units < cLine) : Imp M Γ (testQ pos left op r) (testChain pos left [op] [r]) :=
  Imp.then fun _ => Imp.then fun _ => Imp.bind (Imp.operate (compareQ_imp hu)) fun _ => Imp.refl _
noncomputable def isTrue1 (e : Expr) (env : Env) : Sem Bool := match e with
  | .Compare l [op] [c] pos => eval l env >>= fun a => testQ pos a op (markedBehindIn op c (eval c env))
  | e => isTrue e env (eval e env)
theorem isTrue1_imp {e : Expr} {env : Env} (hu : Γ.units < cLine) : Imp M Γ (isTrue1 e env) (isTrue e env (eval e env)) := by
  unfold isTrue1
  split
  · rename_i l op c pos
    show Imp M Γ _ (eval l env >>= fun a => testChain pos a [op] [markedBehindIn op c (eval c env)])
    exact Imp.then fun a => testQ_imp hu
  · exact Imp.refl _
noncomputable def allQ (op : BoolOp) (env : Env) : List Expr → Sem Bool
  | [] => pure (op == .And)
  | x :: rest => isTrue1 x env >>= fun t => match op, t with
    | .And, false => pure false
    | .Or, true => pure true
    | _, _ => allQ op env rest
theorem allQ_imp {op : BoolOp} {env : Env} (hu : Γ.units < cLine) : ∀ l : List Expr, Imp M Γ (allQ op env l) (allTrue op l env)
  | [] => by unfold allQ allTrue; exact Imp.refl _
  | x :: rest => by
    unfold allQ allTrue
    refine Imp.bind (isTrue1_imp hu) fun t => ?_
    cases op <;> cases t <;> first | exact Imp.refl _ | exact allQ_imp hu rest
noncomputable def isTrueQ (e : Expr) (env : Env) : Sem Bool := match e with
  | .BoolOp op values _ => allQ op env values
  | e => isTrue1 e env
theorem isTrueQ_imp {e : Expr} {env : Env} (hu : Γ.units < cLine) : Imp M Γ (isTrueQ e env) (isTrue e env (eval e env)) := by
  unfold isTrueQ
  split
  · rename_i op values pos
    show Imp M Γ _ (allTrue op values env)
    exact allQ_imp hu _
  · exact isTrue1_imp hu
noncomputable def evalC (e : Expr) (env : Env) : Sem Value := match e with
  | .Compare l [op] [c] pos => eval l env >>= fun a => holding [a] (markedBehindIn op c (eval c env)) >>= fun rv => standAt pos >>= fun _ => operate [a, rv] (compareQ op a rv)
  | e => eval e env
theorem evalC_imp {e : Expr} {env : Env} (hu : Γ.units < cLine) : Imp M Γ (evalC e env) (eval e env) := by
  unfold evalC
  split
  · rename_i l op c pos
    show Imp M Γ _ (eval l env >>= fun a => compareChain pos a [op] [markedBehindIn op c (eval c env)])
    refine Imp.then fun a => ?_
    show Imp M Γ _ (holding [a] (markedBehindIn op c (eval c env)) >>= fun rv => standAt pos >>= fun _ => operate [a, rv] (compareOp op a rv))
    exact Imp.then fun _ => Imp.then fun _ => Imp.operate (compareQ_imp hu)
  · exact Imp.refl _
noncomputable def evalQ (e : Expr) (env : Env) : Sem Value := match e with
  | .BoolOp op [x, y] pos => evalC x env >>= fun v => standAt pos >>= fun _ => holding [v] (truthy v) >>= fun t => match op, t with
    | .And, false => pure v
    | .Or, true => pure v
    | _, _ => evalC y env
  | e => evalC e env
theorem evalQ_imp {e : Expr} {env : Env} (hu : Γ.units < cLine) : Imp M Γ (evalQ e env) (eval e env) := by
  unfold evalQ
  split
  · rename_i op x y pos
    show Imp M Γ _ (boolOp pos op [eval x env, eval y env])
    show Imp M Γ _ (eval x env >>= fun v => standAt pos >>= fun _ => holding [v] (truthy v) >>= fun t => match op, t with
      | .And, false | .Or, true => pure v
      | _, _ => boolOp pos op [eval y env])
    refine Imp.bind (evalC_imp hu) fun v => Imp.then fun _ => Imp.then fun t => ?_
    cases op <;> cases t <;> first | exact Imp.refl _ | exact evalC_imp hu
  · exact evalC_imp hu
noncomputable def execQ (s : Stmt) (env : Env) : Sem Flow := match s with
  | .If test body orelse pos => standAt pos >>= fun _ => isTrueQ test env >>= fun t => match t with
    | true => execs body env
    | false => execs orelse env
  | .Return (some e) pos => standAt pos >>= fun _ => evalQ e env >>= fun v => pure (.ret v)
  | s => exec s env
theorem execQ_imp {s : Stmt} {env : Env} (hu : Γ.units < cLine) : Imp M Γ (execQ s env) (exec s env) := by
  unfold execQ
  split
  · rename_i test body orelse pos
    show Imp M Γ _ (standAt pos >>= fun _ => PySem.isTrue test env (eval test env) >>= fun t => if t = true then execs body env else execs orelse env)
    refine Imp.then fun _ => Imp.bind (isTrueQ_imp hu) fun t => ?_
    cases t <;> exact Imp.refl _
  · rename_i e pos
    show Imp M Γ _ (standAt pos >>= fun _ => eval e env >>= fun v => (pure (Flow.ret v) : Sem Flow))
    exact Imp.then fun _ => Imp.bind (evalQ_imp hu) fun v => Imp.refl _
  · exact Imp.refl _
noncomputable def execsQ (env : Env) : List Stmt → Sem Flow
  | [] => pure .next
  | s :: rest => execQ s env >>= fun f => match f with
    | .next => execsQ env rest
    | f => pure f
theorem execsQ_imp {env : Env} (hu : Γ.units < cLine) : ∀ l : List Stmt, Imp M Γ (execsQ env l) (execs l env)
  | [] => by unfold execsQ execs; exact Imp.refl _
  | s :: rest => by
    unfold execsQ execs
    refine Imp.bind (execQ_imp hu) fun f => ?_
    cases f <;> first | exact execsQ_imp hu rest | exact Imp.refl _
noncomputable def forQ (target : Expr) (it : Value) (body orelse : List Stmt) (env : Env) : Sem Fin := standAt target.pos >>= fun _ =>
  (pyNext it).onRaise (fun _ => standAt { target.pos with line := 0 }) >>= fun r => match r with
    | none => again (.block orelse env)
    | some v => letOwnedTupleGo target it v >>= fun _ => assign target env v >>= fun _ => execsQ env body >>= fun f => match f with
      | .next => again (.forLoop target it body orelse env)
      | .cont => again (.forLoop target it body orelse env)
      | .brk => pure (.done .next)
      | .ret v => pure (.done (.ret v))
theorem forQ_imp {target : Expr} {it : Value} {body orelse : List Stmt} {env : Env} (hu : Γ.units < cLine) : Imp M Γ (forQ target it body orelse env) (forTurn target it body orelse env) := by
  unfold forQ forTurn
  refine Imp.then fun _ => Imp.then fun r => ?_
  cases r with
  | none => exact Imp.refl _
  | some v =>
    refine Imp.then fun _ => Imp.then fun _ => Imp.bind (execsQ_imp hu body) fun f => ?_
    cases f <;> exact Imp.refl _
noncomputable def trickQual : Str := "_law_trick.<locals>."
noncomputable def denT (c : Code) (d : Sem Fin) : Sem Fin := match c with
  | .forLoop target it body orelse env => match env.qual == trickQual with
    | true => (forQ target it body orelse env).onRaise (fun x => noteFrame x env >>= fun _ => theTreesLotGoes x)
    | false => d
  | .func body env => match env.qual == trickQual with
    | true => point >>= fun _ => (execsQ env body).onRaise (leaving env) >>= fun f => match f with
      | .ret v => ret v
      | _ => ret .none
    | false => d
  | _ => d
theorem denT_imp {c : Code} {d : Sem Fin} (hu : Γ.units < cLine) (hd : Imp M Γ d (denote table c)) : Imp M Γ (denT c d) (denote table c) := by
  unfold denT
  split
  · split
    · exact Imp.onRaise (forQ_imp hu)
    · exact hd
  · split
    · show Imp M Γ _ (point >>= fun _ => _)
      refine Imp.then fun _ => Imp.bind (Imp.onRaise (execsQ_imp hu _)) fun f => ?_
      cases f <;> exact Imp.refl _
    · exact hd
  · exact hd
end
end Mine
end
section
open PySem PySem.W PySem.W.X PyProof.Rows
namespace Mine
open Sem (wp wp_bind' wp_mono)
noncomputable def eqN : Nat → Nat → Bool
  | 0, 0 => true
  | a + 1, b + 1 => eqN a b
  | _, _ => false
theorem eqN_iff : ∀ {a b : Nat}, eqN a b = true ↔ a = b
  | 0, 0 => by simp [eqN]
  | 0, b + 1 => by simp [eqN]
  | a + 1, 0 => by simp [eqN]
  | a + 1, b + 1 => by unfold eqN; rw [eqN_iff]; omega
noncomputable def goneV (v : Value) (a : Nat) : Value := match v with
  | .int (.ofNat m) 0 => match eqN m a with
    | true => .none
    | false => v
  | v => v
theorem goneV_self (a : Nat) : goneV (rawInt (a : Int)) a = .none := by
  show (match eqN a a with | true => Value.none | false => _) = _
  rw [eqN_iff.mpr rfl]
theorem goneV_ne {v : Value} {a : Nat} (h : v ≠ rawInt (a : Int)) : goneV v a = v := by
  unfold goneV
  split
  · rename_i m
    split
    · rename_i q
      exact absurd (congrArg (fun n : Nat => Value.int (n : Int) 0) (eqN_iff.mp q)) h
    · rfl
  · rfl
theorem update_same {h : Heap} {a : Nat} {o : Obj} {f : Obj → Obj} (ho : h.get? a = some o) (hf : f o = o) : h.update a f = h := by
  obtain ⟨objs, l⟩ := h
  show (⟨objs.modify a f, l⟩ : Heap) = ⟨objs, l⟩
  have e : objs[a]? = some o := by
    unfold Heap.get? at ho
    dsimp only at ho
    split at ho
    · cases ho
    · exact ho
  have : objs.modify a f = objs := by
    refine Array.ext (by simp) fun i h1 h2 => ?_
    rw [Array.getElem_modify]
    split
    · rename_i q
      subst q
      rw [Array.getElem?_eq_getElem h2] at e
      rw [Option.some.inj e, hf]
    · rfl
  rw [this]
noncomputable def letGoE (it v : Value) : Sem Unit := match it, v with
  | .ref r, .ref a => load r >>= fun o => match o.cls, o.data with
    | .type n, .fields vs => match n == "enumerate", vs[0]? with
      | true, some v0 => update r (Obj.mapFields (·.setIfInBounds 0 (goneV v0 a)))
      | _, _ => .unsupported "mine"
    | _, _ => .unsupported "mine"
  | _, _ => .unsupported "mine"
section
variable {M : Model} {Γ : Ctx}
theorem letGoE_imp {elts : List Expr} {x1} {tp : Pos} {it v : Value} : Imp M Γ (letGoE it v) (letOwnedTupleGo (.Tuple elts x1 tp) it v) := by
  unfold letGoE
  split
  · rename_i r a
    intro Q E p s H
    rw [wp_bind', Sem.wp_cmd_load] at H
    obtain ⟨o, ho, H⟩ := H
    obtain ⟨c, dct, dt, sl⟩ := o
    split at H
    · rename_i n vs hc hd
      dsimp only at hc hd
      subst hc hd
      split at H
      · rename_i v0 hn h0
        rw [beq_iff_eq] at hn
        subst hn
        rw [Sem.wp_cmd_update] at H
        show wp M Γ (load r >>= fun o => match o.cls, o.data with
          | .type n, .fields vs => if (["enumerate", "zip", "dict_itemiterator", "dict_reverseitemiterator", "odict_iterator", "itertools.zip_longest", "itertools.pairwise"].contains n && vs[0]? == some (rawInt (a : Int))) = true then (rule "for.unpacks-the-owned-tuple" >>= fun _ => updateField r 0 .none) else pure ()
          | _, _ => pure ()) Q E p s
        rw [wp_bind', Sem.wp_load_of _ _ _ _ _ ho]
        dsimp only
        rw [h0]
        have hs : 0 < vs.size := by
          rcases Nat.lt_or_ge 0 vs.size with q | q
          · exact q
          · rw [Array.getElem?_eq_none q] at h0; cases h0
        by_cases q : v0 = rawInt (a : Int)
        · subst q
          rw [goneV_self] at H
          rw [if_pos (by simp)]
          rw [wp_bind']
          show wp M Γ (updateField r 0 .none) Q E p s
          unfold updateField
          rw [wp_bind', Sem.wp_load_of _ _ _ _ _ ho]
          dsimp only
          rw [if_pos hs, Sem.wp_cmd_update]
          exact H
        · rw [goneV_ne q] at H
          rw [if_neg (by simp [q])]
          have hu : s.heap.update r (Obj.mapFields (·.setIfInBounds 0 v0)) = s.heap := by
            refine update_same ho ?_
            show Obj.mk (.type "enumerate") dct (.fields (vs.setIfInBounds 0 v0)) sl = _
            have : vs.setIfInBounds 0 v0 = vs := by
              refine Array.ext (by simp) fun i h1 h2 => ?_
              rw [Array.getElem_setIfInBounds]
              split
              · rename_i z
                subst z
                rw [Array.getElem?_eq_getElem h2] at h0
                exact (Option.some.inj h0).symm
              · rfl
            rw [this]
          rw [hu] at H
          exact H.2
      · rw [Sem.wp_unsupported] at H; exact H.elim
    · rw [Sem.wp_unsupported] at H; exact H.elim
  · exact Imp.uns
noncomputable def forE (target : Expr) (it : Value) (body orelse : List Stmt) (env : Env) : Sem Fin := standAt target.pos >>= fun _ =>
  (pyNext it).onRaise (fun _ => standAt { target.pos with line := 0 }) >>= fun r => match r with
    | none => again (.block orelse env)
    | some v => letGoE it v >>= fun _ => assign target env v >>= fun _ => execs body env >>= fun f => match f with
      | .next => again (.forLoop target it body orelse env)
      | .cont => again (.forLoop target it body orelse env)
      | .brk => pure (.done .next)
      | .ret v => pure (.done (.ret v))
theorem forE_imp {elts : List Expr} {x1} {tp : Pos} {it : Value} {body orelse : List Stmt} {env : Env} : Imp M Γ (forE (.Tuple elts x1 tp) it body orelse env) (forTurn (.Tuple elts x1 tp) it body orelse env) := by
  unfold forE forTurn
  refine Imp.then fun _ => Imp.then fun r => ?_
  cases r with
  | none => exact Imp.refl _
  | some v =>
    refine Imp.bind letGoE_imp fun _ => Imp.then fun _ => Imp.then fun f => ?_
    cases f <;> exact Imp.refl _
noncomputable def compE (elt target iter : Expr) (scope : Scope) (pos : Pos) (it acc : Value) (env : Env) : Sem Fin := standAt iter.pos >>= fun _ => pyNext it >>= fun r => match r with
  | none => pure (.done .next)
  | some v => letGoE it v >>= fun _ => assign target env v >>= fun _ =>
    (eval elt env >>= fun x => call (.builtin "list.append") [acc, x] >>= fun _ => pure ()) >>= fun _ =>
      again (.compLoop (.ListComp elt [⟨target, iter, [], 0⟩] scope pos) 0 it acc env)
theorem compE_imp {elt iter : Expr} {elts : List Expr} {x1} {tp : Pos} {scope : Scope} {pos : Pos} {it acc : Value} {env : Env} : Imp M Γ (compE elt (.Tuple elts x1 tp) iter scope pos it acc env) (compTurn (.ListComp elt [⟨.Tuple elts x1 tp, iter, [], 0⟩] scope pos) 0 it acc env) := by
  rw [compTurn_list1]
  unfold compE
  refine Imp.then fun _ => Imp.then fun r => ?_
  cases r with
  | none => exact Imp.refl _
  | some v => exact Imp.bind letGoE_imp fun _ => Imp.refl _
noncomputable def denE (c : Code) (d : Sem Fin) : Sem Fin := match c with
  | .forLoop (.Tuple elts x1 tp) it body orelse env => (forE (.Tuple elts x1 tp) it body orelse env).onRaise (fun x => noteFrame x env >>= fun _ => theTreesLotGoes x)
  | .compLoop (.ListComp elt [⟨.Tuple elts x1 tp, iter, [], 0⟩] scope pos) 0 it acc env => (compE elt (.Tuple elts x1 tp) iter scope pos it acc env).onRaise (fun x => noteFrame x env >>= fun _ => theTreesLotGoes x)
  | _ => d
theorem denE_wp {c : Code} {d : Sem Fin} {Q : Fin → Pos → Shared → Prop} {E : Value → Pos → Shared → Prop} {p : Pos} {s : Shared} (hd : wp M Γ d Q E p s → wp M Γ (denote table c) Q E p s) (h : wp M Γ (denE c d) Q E p s) : wp M Γ (denote table c) Q E p s := by
  unfold denE at h
  split at h
  · exact Imp.onRaise forE_imp _ _ _ _ h
  · exact Imp.onRaise compE_imp _ _ _ _ h
  · exact hd h
end
end Mine
end
section
open PySem PySem.W PySem.W.X PyProof.Rows
namespace Mine
noncomputable def iterCls : Value → Bool
  | .type n => n == "list_iterator" || n == "range_iterator" || n == "enumerate" || n == "str_ascii_iterator"
  | _ => false
noncomputable def compS (e : Expr) (depth : Nat) (a : Addr) (acc : Value) (env : Env) : Sem Fin := load a >>= fun o => match iterCls o.cls with
  | true => again (.compLoop e depth (.ref a) acc env)
  | false => unsupported "mine"
noncomputable def denQ (c : Code) : Sem Fin := match c with
  | .compStart e depth it acc env => match it with
    | .ref a => compS e depth a acc env
    | _ => denote table c
  | _ => denE c (denT c (denP c))
section
variable {prog : Program} {w : World} {A : Around} {E : Value → Shared → Prop} {s : Shared}
theorem pyIter_self {a : Addr} {o : Obj} {Q : Value → Shared → Prop} (ho : s.heap.get? a = some o) (hc : iterCls o.cls = true) (h : Q (.ref a) s) : wpAny (model prog w) A (pyIter (.ref a)) Q E s := by
  unfold iterCls at hc
  split at hc
  · rename_i n hn
    rw [Bool.or_eq_true, Bool.or_eq_true, Bool.or_eq_true, beq_iff_eq, beq_iff_eq, beq_iff_eq, beq_iff_eq] at hc
    rcases hc with ((rfl | rfl) | rfl) | rfl
    · have hT : s.TypeIs (.ref a) "list_iterator" := ⟨_, ho, hn⟩
      refine wpAny_pyIter_slot hT slot_listiter_iter (wpAny_call_entry slot_listiter_iter hT entry_listiter_iter ?_ (args_listiter_iter _))
      show wpAny _ _ (ret (.ref a)) _ _ s
      exact wpAny_pure ⟨_, rfl, "list_iterator", _, hT, slot_listiter_next.lookup, h⟩
    · have hT : s.TypeIs (.ref a) "range_iterator" := ⟨_, ho, hn⟩
      refine wpAny_pyIter_slot hT F.slot_range_iterator_iter (wpAny_call_entry F.slot_range_iterator_iter hT F.entry_range_iterator_iter ?_ (F.args_range_iterator_iter_1 _))
      show wpAny _ _ (ret (.ref a)) _ _ s
      exact wpAny_pure ⟨_, rfl, "range_iterator", _, hT, F.slot_range_iterator_next.lookup, h⟩
    · have hT : s.TypeIs (.ref a) "enumerate" := ⟨_, ho, hn⟩
      refine wpAny_pyIter_slot hT F.slot_enumerate_iter (wpAny_call_entry F.slot_enumerate_iter hT F.entry_enumerate_iter ?_ (F.args_enumerate_iter_1 _))
      show wpAny _ _ (ret (.ref a)) _ _ s
      exact wpAny_pure ⟨_, rfl, "enumerate", _, hT, F.slot_enumerate_next.lookup, h⟩
    · have hT : s.TypeIs (.ref a) "str_ascii_iterator" := ⟨_, ho, hn⟩
      refine wpAny_pyIter_slot hT F.slot_str_ascii_iterator_iter (wpAny_call_entry F.slot_str_ascii_iterator_iter hT F.entry_str_ascii_iterator_iter ?_ (F.args_str_ascii_iterator_iter_1 _))
      show wpAny _ _ (ret (.ref a)) _ _ s
      exact wpAny_pure ⟨_, rfl, "str_ascii_iterator", _, hT, F.slot_str_ascii_iterator_next.lookup, h⟩
  · cases hc
theorem compStart_wp {e : Expr} {depth : Nat} {a : Addr} {acc : Value} {env : Env} {o : Obj} {Q : Fin → Shared → Prop} (ho : s.heap.get? a = some o) (hc : iterCls o.cls = true) (h : Q (.again (.compLoop e depth (.ref a) acc env)) s) :
    wpAny (model prog w) A (compStart e depth (.ref a) acc env) Q E s := by
  unfold compStart
  refine wpAny_ite ?_
  split
  · first
      | exact wpAny_bind (wpAny_pure (wpAny_pure h))
      | exact wpAny_pure h
  · refine wpAny_bind (wpAny_askSetting (wpAny_ite ?_))
    split
    · first
        | exact wpAny_bind (wpAny_pure (wpAny_pure h))
        | exact wpAny_pure h
    · refine wpAny_bind (wpAny_rule ?_)
      have last : wpAny (model prog w) A (do let it ← pyIter (.ref a); again (.compLoop e depth it acc env)) Q E s :=
        wpAny_bind (pyIter_self ho hc (wpAny_pure h))
      split
      · exact wpAny_bind (wpAny_standAt last)
      · exact last
theorem denQ_sound {c : Code} {Q : Fin → Shared → Prop} (hd : A.depth < recursionLimit) (hu : A.units < cLine) (h : wpAny (model prog w) A (denQ c) Q E s) : wpAny (model prog w) A (denote table c) Q E s := by
  unfold denQ at h
  split at h
  · rename_i e depth it acc env
    split at h
    · rename_i a
      unfold compS at h
      intro Γ p hΓ
      have h1 := h Γ p hΓ
      rw [Sem.wp_bind', Sem.wp_cmd_load] at h1
      obtain ⟨o, ho, h1⟩ := h1
      cases hc : iterCls o.cls with
      | false => rw [hc] at h1; exact h1.elim
      | true =>
        rw [hc] at h1
        have hQ : Q (.again (.compLoop e depth (.ref a) acc env)) s := h1
        refine (?_ : wpAny (model prog w) A (denote table (.compStart e depth (.ref a) acc env)) Q E s) Γ p hΓ
        show wpAny _ _ (if (Code.compStart e depth (.ref a) acc env).isFrame then (compStart e depth (.ref a) acc env).onRaise (leaving env) else (compStart e depth (.ref a) acc env).onRaise (fun x => do noteFrame x env; standAt theWindowsPlace)) _ _ s
        split
        · exact wpAny_onRaise (wpAny_mono (compStart_wp (E := fun _ _ => False) ho hc hQ) (fun _ _ x => x) fun _ _ x => x.elim)
        · exact wpAny_onRaise (wpAny_mono (compStart_wp (E := fun _ _ => False) ho hc hQ) (fun _ _ x => x) fun _ _ x => x.elim)
    · exact h
  · rename_i hnc
    unfold denE at h
    split at h
    · exact fun Γ p hΓ => Imp.onRaise forE_imp _ _ _ _ (h Γ p hΓ)
    · exact fun Γ p hΓ => Imp.onRaise compE_imp _ _ _ _ (h Γ p hΓ)
    · rename_i hne1 hne2
      unfold denT at h
      split at h
      · split at h
        · exact fun Γ p hΓ => Imp.onRaise (forQ_imp (Nat.lt_of_le_of_lt hΓ.2.2.2.2 hu)) _ _ _ _ (h Γ p hΓ)
        · exact denP_sound hd h
      · rename_i body env
        split at h
        · rename_i hq
          have hi : ∀ (M : Model) (Γ : Ctx), Γ.units < cLine → Imp M Γ (denT (.func body env) (denote table (.func body env))) (denote table (.func body env)) := fun M Γ hx => denT_imp hx (Imp.refl _)
          unfold denT at hi
          dsimp only at hi
          rw [hq] at hi
          exact fun Γ p hΓ => hi _ Γ (Nat.lt_of_le_of_lt hΓ.2.2.2.2 hu) _ _ _ _ (h Γ p hΓ)
        · exact denP_sound hd h
      · exact denP_sound hd h
end
end Mine
end
section
open PySem PySem.W PySem.W.X PyProof.Rows
namespace Mine
inductive PT where
  | nil
  | node (v : Nat × Obj) (l r : PT)
  deriving Inhabited
namespace PT
noncomputable def get : PT → Nat → Option (Nat × Obj)
  | .nil, _ => none
  | .node v l r, i => match Nat.beq i 0 with
    | true => some v
    | false => match Nat.beq (i % 2) 1 with
      | true => l.get (i / 2)
      | false => r.get (i / 2 - 1)
noncomputable def set : PT → Nat → Obj → PT
  | .nil, _, _ => .nil
  | .node v l r, i, o => match Nat.beq i 0 with
    | true => .node (v.1, o) l r
    | false => match Nat.beq (i % 2) 1 with
      | true => .node v (l.set (i / 2) o) r
      | false => .node v l (r.set (i / 2 - 1) o)
noncomputable def ins : PT → Nat → Nat × Obj → PT
  | .nil, _, o => .node o .nil .nil
  | .node v l r, i, o => match Nat.beq i 0 with
    | true => .node o l r
    | false => match Nat.beq (i % 2) 1 with
      | true => .node v (l.ins (i / 2) o) r
      | false => .node v l (r.ins (i / 2 - 1) o)
end PT
noncomputable abbrev K := Result → Sem Fin
structure Ac where
  eqs : List (Nat × Nat) := []
  oeqs : List (Obj × Obj) := []
  ceqs : List (Code × Code) := []
  bs : List Bool := []
  conds : List Prop := []
structure Eff where
  res : Result
  upd : List (Nat × Obj) := []
  new : List (Nat × Obj) := []
structure SumF where
  ac : Ac
  orc : List Nat
  eff : (Nat → Nat) → Eff
noncomputable abbrev SumFn := Nat → Code → PT → List Nat → Option SumF
structure PW where
  prog : Program
  P : Params
  kt : KT
  tabs : List Nat
  sums : List SumFn
inductive Ou where
  | fin (r : Result) (T : PT) (m n c t i : Nat) (eqs : List (Nat × Nat)) (ac : List Ac)
  | cut (co : Code) (stk : List K) (lv : Nat) (T : PT) (m n c t i : Nat) (eqs : List (Nat × Nat)) (ac : List Ac)
  | bad (n a : Nat)
noncomputable abbrev Re := PT → Nat → Nat → Nat → Nat → Nat → (Nat → Nat) → List Nat → List (Nat × Nat) → List Ac → Ou
noncomputable abbrev GoTy := Nat → Sem Fin → List K → Re
noncomputable def lookT (V : PW) (T : PT) (a j : Nat) : Option (Nat × Obj) := match Nat.beq j 0 with
  | true => match Nat.blt a 152 with
    | true => match notIn a V.tabs with
      | true => match V.kt.get a with
        | some o => some (a, o)
        | none => none
      | false => none
    | false => none
  | false => T.get (j - 1)
noncomputable def applyU : PT → List (Nat × Obj) → Option PT
  | T, [] => some T
  | T, p :: r => match T.get p.1 with
    | some _ => applyU (T.set p.1 p.2) r
    | none => none
noncomputable def applyN : PT → Nat → List (Nat × Obj) → Option PT
  | T, _, [] => some T
  | T, m, p :: r => match (T.ins m p).get m with
    | some _ => applyN (T.ins m p) (m + 1) r
    | none => none
noncomputable def shift (σ : Nat → Nat) : Nat → Nat := fun i => σ (i + 64)
noncomputable def cutS (σ : Nat → Nat) : Nat → Nat := fun i => match Nat.blt i 64 with
  | true => σ i
  | false => 0
noncomputable def resume (ih : GoTy) (lv : Nat) (r : Result) (stk : List K) : Re := match stk with
  | [] => fun T m n c t i _ _ eqs ac => .fin r T m n c t i eqs ac
  | k :: st => ih (lv + 1) (k r) st
noncomputable def applied (V : PW) (s : Nat) (kk : Result → Re) (F : SumF) (E : Eff) : Re := fun T m _ _ _ _ σ _ eqs ac => match applyU T E.upd with
  | none => .bad 62 s
  | some T1 => match applyN T1 m E.new with
    | none => .bad 63 s
    | some T2 => kk E.res T2 (m + E.new.length) (σ 0) 0 (σ 1) 0 (shift σ) F.orc eqs (F.ac :: ac)
noncomputable def summed (V : PW) (s lv : Nat) (co : Code) (kk : Result → Re) : Re := fun T m n c t i σ orc eqs ac => match V.sums[s]? with
  | none => .bad 60 s
  | some f => match f lv co T orc with
    | none => .bad 61 s
    | some F => applied V s kk F (F.eff (cutS σ)) T m n c t i σ orc eqs ac
noncomputable def stepF (V : PW) (ih : GoTy) (lv : Nat) (fin : Fin) (stk : List K) : Re := match fin with
  | .done f => resume ih lv (.ok f) stk
  | .again co => match co.quiet with
    | false => fun _ _ _ _ _ _ _ _ _ _ => .bad 31 0
    | true => match co.isCaller with
      | true => fun _ _ _ _ _ _ _ _ _ _ => .bad 33 0
      | false => fun T m n c t i σ orc eqs ac => match orc with
        | [] => .bad 34 0
        | j :: orc => match j with
          | 0 => ih lv (denQ co) stk T m n c t i σ orc eqs ac
          | 1 => .cut co stk lv T m n c t i eqs ac
          | s + 2 => summed V s lv co (fun r => resume ih lv r stk) T m n c t i σ orc eqs ac
noncomputable def stepG (V : PW) (ih : GoTy) (lv : Nat) (tr : Sem Fin) (stk : List K) : Re := match tr with
  | .pure a => stepF V ih lv a stk
  | .raise x => resume ih lv (.error x) stk
  | .rule _ k => ih lv (k ()) stk
  | .at _ k => ih lv (k ()) stk
  | .point _ k => ih lv (k ()) stk
  | .ask k => ih lv (k ⟨V.prog, V.P⟩) stk
  | .load a _ k => fun T m n c t i σ orc eqs ac => match orc with
    | [] => .bad 1 a
    | j :: orc => match lookT V T a j with
      | some p => ih lv (k p.2) stk T m n c t i σ orc ((a, p.1) :: eqs) ac
      | none => .bad 2 a
  | .alloc o k => fun T m n c t i σ orc eqs ac => match o.isFreed with
    | true => .bad 3 m
    | false => match (T.ins m (n + c, o)).get m with
      | some _ => ih lv (k (n + c)) stk (T.ins m (n + c, o)) (m + 1) n (c + 1) t i σ orc eqs ac
      | none => .bad 4 m
  | .update a _ f k => fun T m n c t i σ orc eqs ac => match orc with
    | [] => .bad 5 a
    | j :: orc => match T.get (j - 1) with
      | some p => match (f p.2).isFreed with
        | true => .bad 10 a
        | false => ih lv (k ()) stk (T.set (j - 1) (f p.2)) m n c t i σ orc ((a, p.1) :: eqs) ac
      | none => .bad 11 a
  | .fresh k => fun T m n c t i σ orc eqs ac => ih lv (k (t + i)) stk T m n c t (i + 1) σ orc eqs ac
  | .handled own k => match own with
    | false => ih lv (k none) stk
    | true => fun _ _ _ _ _ _ _ _ _ _ => .bad 12 0
  | .call co hd _ _ k => match hd with
    | some _ => fun _ _ _ _ _ _ _ _ _ _ => .bad 13 0
    | none => match co.isCaller with
      | true => fun _ _ _ _ _ _ _ _ _ _ => .bad 33 1
      | false => fun T m n c t i σ orc eqs ac => match orc with
        | [] => .bad 14 0
        | j :: orc => match j with
          | 0 => match lv with
            | 0 => .bad 30 0
            | l + 1 => ih l (denQ co) (k :: stk) T m n c t i σ orc eqs ac
          | 1 => match lv with
            | 0 => .bad 30 0
            | l + 1 => .cut co (k :: stk) l T m n c t i eqs ac
          | s + 2 => summed V s lv co (fun r => ih lv (k r) stk) T m n c t i σ orc eqs ac
  | .unsupported _ => fun _ _ _ _ _ _ _ _ _ _ => .bad 15 0
  | .finish _ => fun _ _ _ _ _ _ _ _ _ _ => .bad 16 0
  | .loadIfAlive .. => fun _ _ _ _ _ _ _ _ _ _ => .bad 17 0
  | .register .. => fun _ _ _ _ _ _ _ _ _ _ => .bad 18 0
  | .choose .. => fun _ _ _ _ _ _ _ _ _ _ => .bad 19 0
  | .os .. => fun _ _ _ _ _ _ _ _ _ _ => .bad 20 0
  | .newGen .. => fun _ _ _ _ _ _ _ _ _ _ => .bad 21 0
  | .genState .. => fun _ _ _ _ _ _ _ _ _ _ => .bad 22 0
  | .resume .. => fun _ _ _ _ _ _ _ _ _ _ => .bad 23 0
  | .yield .. => fun _ _ _ _ _ _ _ _ _ _ => .bad 24 0
  | .stack _ => fun _ _ _ _ _ _ _ _ _ _ => .bad 25 0
  | .fork .. => fun _ _ _ _ _ _ _ _ _ _ => .bad 26 0
  | .thread _ => fun _ _ _ _ _ _ _ _ _ _ => .bad 27 0
  | .await .. => fun _ _ _ _ _ _ _ _ _ _ => .bad 28 0
noncomputable def go (V : PW) : Nat → GoTy
  | 0 => fun _ _ _ _ _ _ _ _ _ _ _ _ _ => .bad 40 0
  | n + 1 => stepG V (go V n)
noncomputable def ofL : List (Nat × Obj) → Nat → PT → PT
  | [], _, T => T
  | p :: r, m, T => ofL r (m + 1) (T.ins m p)
noncomputable def goC (V : PW) (fuel lv : Nat) (co : Code) (K₀ : List (Nat × Obj)) (n t : Nat) (σ : Nat → Nat) (orc : List Nat) : Ou :=
  go V fuel lv (denQ co) [] (ofL K₀ 0 .nil) K₀.length n 0 t 0 σ orc [] []
noncomputable def goT (V : PW) (fuel lv : Nat) (tr : Sem Fin) (K₀ : List (Nat × Obj)) (n t : Nat) (σ : Nat → Nat) (orc : List Nat) : Ou :=
  go V fuel lv tr [] (ofL K₀ 0 .nil) K₀.length n 0 t 0 σ orc [] []
end Mine
lay_z Mine.go Mine.goC Mine.goT
end
section
open PySem PySem.W PySem.W.X PyProof.Rows
namespace Mine
noncomputable def normP (P : Params) (b : Bool) : Params := { P with followText := fun r => if r = "special-get-raises" then b else P.followText r }
theorem normP_eq {P : Params} {b : Bool} (h : P.followText "special-get-raises" = b) : normP P b = P := by
  have : (fun r => if r = "special-get-raises" then b else P.followText r) = P.followText := by
    funext r
    by_cases q : r = "special-get-raises"
    · rw [if_pos q, q, h]
    · rw [if_neg q]
  unfold normP
  rw [this]
noncomputable def Tops (P : Params) (h : Heap) : Prop := ∀ a o, (ktop P).get a = some o → notIn a [30, 37, 107, 136] = true → h.get? a = some o
noncomputable def AllAt (h : Heap) : List (Nat × Obj) → Prop
  | [] => True
  | p :: r => h.get? p.1 = some p.2 ∧ AllAt h r
theorem AllAt.get {h : Heap} : ∀ {l : List (Nat × Obj)}, AllAt h l → ∀ p ∈ l, h.get? p.1 = some p.2
  | [], _, p, hp => nomatch hp
  | q :: r, H, p, hp => by
    rcases List.mem_cons.mp hp with rfl | hp
    · exact H.1
    · exact H.2.get p hp
noncomputable def Ext (W : List Nat) (h h' : Heap) : Prop := (∀ (b : Nat) o, h.get? b = some o → b ∉ W → h'.get? b = some o) ∧ h.objs.size ≤ h'.objs.size
theorem Ext.refl (h : Heap) : Ext [] h h := ⟨fun _ _ e _ => e, Nat.le_refl _⟩
theorem Ext.mono {W W' : List Nat} {h h' : Heap} (e : Ext W h h') (s : ∀ a ∈ W, a ∈ W' ∨ h.objs.size ≤ a) : Ext W' h h' :=
  ⟨fun b o q hn => e.1 b o q fun hm => (s b hm).elim hn fun z => absurd (Heap.lt_size q) (Nat.not_lt.mpr z), e.2⟩
theorem Ext.trans {W W' : List Nat} {h h' h'' : Heap} (e : Ext W h h') (e' : Ext W' h' h'') : Ext (W ++ W') h h'' :=
  ⟨fun b o q hn => e'.1 b o (e.1 b o q fun hm => hn (List.mem_append_left _ hm)) fun hm => hn (List.mem_append_right _ hm), Nat.le_trans e.2 e'.2⟩
theorem Ext.tops {P : Params} {W : List Nat} {h h' : Heap} (e : Ext W h h') (t : Tops P h) (hW : ∀ a ∈ W, 152 ≤ a ∨ a ∈ [30, 37, 107, 136]) (hk : ∀ a o, (ktop P).get a = some o → a < 152) : Tops P h' :=
  fun a o q hn => e.1 a o (t a o q hn) fun hm => (hW a hm).elim (fun z => absurd (hk a o q) (Nat.not_lt.mpr z)) (notIn_iff hn)
theorem Ext.of_same {a : Addr} {h h' : Heap} (s : Heap.SameBut a h h') : Ext [a] h h' := ⟨fun b o q hn => (s.2 b fun z => hn (by simp [z])).trans q, Nat.le_of_eq s.1.symm⟩
noncomputable def Does (w : World) (A : Around) (c : Code) (s : Shared) (Post : Result → Heap → Prop) : Prop :=
  ∀ R : Result → Shared → Prop, (∀ r h' t', Post r h' → R r ⟨h', s.gens, s.drawn, t', s.os⟩) → codeAny (model theProg w) A c R s
theorem Does.mono {w : World} {A : Around} {c : Code} {s : Shared} {P P' : Result → Heap → Prop} (d : Does w A c s P) (h : ∀ r h', P r h' → P' r h') : Does w A c s P' :=
  fun R H => d R fun r h' t' p => H r h' t' (h r h' p)
noncomputable def ktLt (N : Nat) : KT → Nat → Nat → Bool
  | .nil, _, _ => true
  | .node v l r, s, b => (match v with | some _ => Nat.blt b N | none => true) && ktLt N l (2 * s) (s + b) && ktLt N r (2 * s) (2 * s + b)
theorem ktLt_get {N : Nat} : ∀ {t : KT} {s b : Nat}, ktLt N t s b = true → ∀ {j : Nat} {o : Obj}, t.get j = some o → s * j + b < N
  | .nil, _, _, _, _, _, e => by cases e
  | .node v l r, s, b, H, j, o, e => by
    unfold ktLt at H
    rw [Bool.and_eq_true, Bool.and_eq_true] at H
    rw [KT.get_node] at e
    by_cases h0 : j = 0
    · subst h0
      rw [if_pos rfl] at e
      subst e
      rw [Nat.mul_zero, Nat.zero_add]
      exact blt_true H.1.1
    · rw [if_neg h0] at e
      by_cases p : j % 2 = 1
      · rw [if_pos p] at e
        have z := ktLt_get H.1.2 e
        rw [← KT.arith1 p] at z
        exact z
      · rw [if_neg p] at e
        have z := ktLt_get H.2 e
        rw [← KT.arith2 h0 p] at z
        exact z
theorem ktop_lt (P : Params) : ∀ a o, (ktop P).get a = some o → a < 152 := fun a o e => by
  have h : ktLt 152 (ktop P) 1 0 = true := by kernel_rfl
  have := ktLt_get h e
  rw [Nat.one_mul, Nat.add_zero] at this
  exact this
theorem Ext.tops' {P : Params} {W : List Nat} {h h' : Heap} (e : Ext W h h') (t : Tops P h) (hW : ∀ a ∈ W, 152 ≤ a ∨ a ∈ [30, 37, 107, 136]) : Tops P h' := e.tops t hW (ktop_lt P)
theorem AllAt.ext {W : List Nat} {h h' : Heap} : ∀ {l : List (Nat × Obj)}, AllAt h l → Ext W h h' → (∀ p ∈ l, p.1 ∉ W) → AllAt h' l
  | [], _, _, _ => trivial
  | p :: r, H, e, d => ⟨e.1 _ _ H.1 (d p (.head _)), H.2.ext e fun q hq => d q (.tail _ hq)⟩
namespace PT
theorem get_node (v : Nat × Obj) (l r : PT) (i : Nat) : (node v l r).get i = if i = 0 then some v else if i % 2 = 1 then l.get (i / 2) else r.get (i / 2 - 1) := by
  show (match Nat.beq i 0 with | true => some v | false => match Nat.beq (i % 2) 1 with | true => l.get (i / 2) | false => r.get (i / 2 - 1)) = _
  rw [BT.beq_eq, BT.beq_eq]
  by_cases h : i = 0
  · simp [h]
  · by_cases q : i % 2 = 1 <;> simp [h, q]
theorem set_node (v : Nat × Obj) (l r : PT) (i : Nat) (o : Obj) : (node v l r).set i o = if i = 0 then node (v.1, o) l r else if i % 2 = 1 then node v (l.set (i / 2) o) r else node v l (r.set (i / 2 - 1) o) := by
  show (match Nat.beq i 0 with | true => node (v.1, o) l r | false => match Nat.beq (i % 2) 1 with | true => node v (l.set (i / 2) o) r | false => node v l (r.set (i / 2 - 1) o)) = _
  rw [BT.beq_eq, BT.beq_eq]
  by_cases h : i = 0
  · simp [h]
  · by_cases q : i % 2 = 1 <;> simp [h, q]
theorem ins_node (v : Nat × Obj) (l r : PT) (i : Nat) (o : Nat × Obj) : (node v l r).ins i o = if i = 0 then node o l r else if i % 2 = 1 then node v (l.ins (i / 2) o) r else node v l (r.ins (i / 2 - 1) o) := by
  show (match Nat.beq i 0 with | true => node o l r | false => match Nat.beq (i % 2) 1 with | true => node v (l.ins (i / 2) o) r | false => node v l (r.ins (i / 2 - 1) o)) = _
  rw [BT.beq_eq, BT.beq_eq]
  by_cases h : i = 0
  · simp [h]
  · by_cases q : i % 2 = 1 <;> simp [h, q]
theorem get_set (o : Obj) : ∀ (t : PT) (a i : Nat), (t.set a o).get i = if i = a then (t.get a).map (fun p => (p.1, o)) else t.get i
  | .nil, a, i => by show (PT.nil.get i) = _; simp [get]
  | .node v l r, a, i => by
    rw [set_node, get_node v l r a, get_node v l r i]
    by_cases ha : a = 0
    · subst ha
      rw [if_pos rfl, get_node]
      by_cases hi : i = 0
      · simp [hi]
      · simp [hi]
    · rw [if_neg ha]
      by_cases pa : a % 2 = 1
      · rw [if_pos pa, get_node]
        by_cases hi : i = 0
        · have : i ≠ a := by omega
          simp [hi, Ne.symm ha]
        · by_cases pi : i % 2 = 1
          · simp only [hi, pi, ha, pa, if_true, if_false, get_set o l]
            by_cases e : i = a
            · simp [e]
            · have : i / 2 ≠ a / 2 := by omega
              simp [e, this]
          · have : i ≠ a := fun q => pi (q ▸ pa)
            simp [hi, pi, this]
      · rw [if_neg pa, get_node]
        by_cases hi : i = 0
        · simp [hi, Ne.symm ha]
        · by_cases pi : i % 2 = 1
          · have : i ≠ a := fun q => pa (q ▸ pi)
            simp [hi, pi, this]
          · simp only [hi, pi, ha, pa, if_false, get_set o r]
            by_cases e : i = a
            · simp [e]
            · have : i / 2 - 1 ≠ a / 2 - 1 := by omega
              simp [e, this]
theorem get_ins (o : Nat × Obj) : ∀ (t : PT) (a : Nat), ((t.ins a o).get a).isSome = true → ∀ i, (t.ins a o).get i = if i = a then some o else t.get i
  | .nil, a, h, i => by
    have e : (PT.nil.ins a o) = node o nil nil := rfl
    rw [e, get_node] at h
    have ha : a = 0 := by
      by_cases q : a = 0
      · exact q
      · exfalso; revert h; by_cases p : a % 2 = 1 <;> simp [q, p, get]
    subst ha
    rw [e, get_node]
    by_cases hi : i = 0
    · simp [hi]
    · by_cases p : i % 2 = 1 <;> simp [hi, p, get]
  | .node v l r, a, h, i => by
    rw [ins_node] at h ⊢
    rw [get_node v l r i]
    by_cases ha : a = 0
    · subst ha
      rw [if_pos rfl, get_node]
      by_cases hi : i = 0
      · simp [hi]
      · simp [hi]
    · rw [if_neg ha] at h ⊢
      by_cases pa : a % 2 = 1
      · rw [if_pos pa, get_node, if_neg ha, if_pos pa] at h
        rw [if_pos pa, get_node]
        by_cases hi : i = 0
        · simp [hi, Ne.symm ha]
        · by_cases pi : i % 2 = 1
          · simp only [hi, pi, if_true, if_false, get_ins o l (a / 2) h]
            by_cases e : i = a
            · simp [e]
            · have : i / 2 ≠ a / 2 := by omega
              simp [e, this]
          · have : i ≠ a := fun q => pi (q ▸ pa)
            simp [hi, pi, this]
      · rw [if_neg pa, get_node, if_neg ha, if_neg pa] at h
        rw [if_neg pa, get_node]
        by_cases hi : i = 0
        · simp [hi, Ne.symm ha]
        · by_cases pi : i % 2 = 1
          · have : i ≠ a := fun q => pa (q ▸ pi)
            simp [hi, pi, this]
          · simp only [hi, pi, if_false, get_ins o r (a / 2 - 1) h]
            by_cases e : i = a
            · simp [e]
            · have : i / 2 - 1 ≠ a / 2 - 1 := by omega
              simp [e, this]
end PT
noncomputable def AllE {α : Type} (l : List (α × α)) : Prop := l.map (·.1) = l.map (·.2)
theorem AllE.mem {α : Type} {l : List (α × α)} (h : AllE l) : ∀ p ∈ l, p.1 = p.2 := by
  intro p hp
  obtain ⟨i, hi⟩ := List.getElem?_of_mem hp
  have h1 : (l.map (·.1))[i]? = some p.1 := by rw [List.getElem?_map, hi]; rfl
  have h2 : (l.map (·.2))[i]? = some p.2 := by rw [List.getElem?_map, hi]; rfl
  unfold AllE at h
  rw [h, h2] at h1
  exact (Option.some.inj h1).symm
noncomputable def Ac.ok (a : Ac) : Prop := AllE a.eqs ∧ AllE a.oeqs ∧ AllE a.ceqs ∧ a.bs.all (fun b => b) = true ∧ ∀ p ∈ a.conds, p
noncomputable def addrs (T : PT) (u : List (Nat × Obj)) : List Nat := u.filterMap fun p => (T.get p.1).map (·.1)
noncomputable def Newly (h h' : Heap) (l : List (Nat × Obj)) : Prop := (l.map (·.1)).Nodup ∧ ∀ p ∈ l, h.objs.size ≤ p.1 ∧ h'.get? p.1 = some p.2
structure HT (w : World) (h : Heap) (T : PT) : Prop where
  tops : Tops w.params h
  sz : 152 ≤ h.objs.size
  at_ : ∀ J a o, T.get J = some (a, o) → h.get? a = some o
  lo : ∀ J a o, T.get J = some (a, o) → 152 ≤ a ∨ a ∈ [30, 37, 107, 136]
  ne : ∀ J J' a o a' o', T.get J = some (a, o) → T.get J' = some (a', o') → J ≠ J' → a ≠ a'
noncomputable def SumOk (w : World) (f : SumFn) : Prop := ∀ lv co T orc F, f lv co T orc = some F → F.ac.ok →
  ∀ (A : Around) (h : Heap) (g : Array GenState) (d : Drawn) (t : Nat) (os : OsState) (R : Result → Shared → Prop), Room A (6 * lv) → HT w h T →
  (∀ (σ : Nat → Nat) h', (∀ i, 64 ≤ i → σ i = 0) → h'.objs.size = σ 0 → Ext (addrs T (F.eff σ).upd) h h' → (∀ J o a x, (J, o) ∈ (F.eff σ).upd → T.get J = some (a, x) → h'.get? a = some o) → Newly h h' (F.eff σ).new →
    R (F.eff σ).res ⟨h', g, d, σ 1, os⟩) →
  codeAny (model theProg w) A co R ⟨h, g, d, t, os⟩
structure PW.Ok (V : PW) (w : World) (h₀ : Heap) (rw : List Nat) : Prop where
  prog : V.prog = theProg
  P : V.P = w.params
  kt : V.kt = ktop w.params
  tb : V.tabs = [30, 37, 107, 136]
  tops : Tops w.params h₀
  sz : 152 ≤ h₀.objs.size
  lo : ∀ a ∈ rw, 152 ≤ a ∨ a ∈ [30, 37, 107, 136]
  sums : ∀ f ∈ V.sums, SumOk w f
structure Rp (rw : List Nat) (h₀ h : Heap) (T : PT) : Prop where
  at_ : ∀ J a o, T.get J = some (a, o) → h.get? a = some o
  ne : ∀ J J' a o a' o', T.get J = some (a, o) → T.get J' = some (a', o') → J ≠ J' → a ≠ a'
  old : ∀ J a o, T.get J = some (a, o) → a ∈ rw ∨ h₀.objs.size ≤ a
  ext : Ext rw h₀ h
section
variable {V : PW} {w : World} {h₀ h : Heap} {rw : List Nat} {T : PT} {m : Nat}
theorem Rp.ht (O : V.Ok w h₀ rw) (D : Rp rw h₀ h T) : HT w h T :=
  ⟨D.ext.tops' O.tops O.lo, Nat.le_trans O.sz D.ext.2, D.at_, fun J a o e => (D.old J a o e).elim (O.lo a) fun z => .inl (Nat.le_trans O.sz z), D.ne⟩
theorem Rp.look (O : V.Ok w h₀ rw) (D : Rp rw h₀ h T) {a j : Nat} {p : Nat × Obj} (e : lookT V T a j = some p) (ha : a = p.1) : h.get? a = some p.2 := by
  unfold lookT at e
  split at e
  · split at e
    · split at e
      · rename_i hn
        split at e
        · rename_i o ho
          cases e
          rw [O.kt] at ho
          rw [O.tb] at hn
          exact (D.ht O).tops a o ho hn
        · cases e
      · cases e
    · cases e
  · rw [ha]
    exact D.at_ _ _ _ e
theorem Rp.alloc (D : Rp rw h₀ h T) {o : Obj} {a : Nat} (hs : h.objs.size = a) (hf : o.isFreed = false) (hg : ((T.ins m (a, o)).get m).isSome = true) : Rp rw h₀ (h.push o) (T.ins m (a, o)) := by
  subst hs
  have G := PT.get_ins _ T m hg
  have hx : Ext [] h (h.push o) := ⟨fun b o' e _ => Heap.get?_push_of_some _ e, by rw [Heap.size_push]; exact Nat.le_succ _⟩
  refine ⟨fun J a' o' e => ?_, fun J J' a1 o1 a2 o2 e1 e2 hn => ?_, fun J a' o' e => ?_, (D.ext.trans hx).mono fun b hb => .inl (by simpa using hb)⟩
  · rw [G] at e
    by_cases q : J = m
    · rw [if_pos q] at e; cases e
      exact Heap.get?_push_size _ hf
    · rw [if_neg q] at e
      exact Heap.get?_push_of_some _ (D.at_ _ _ _ e)
  · rw [G] at e1 e2
    by_cases q1 : J = m
    · rw [if_pos q1] at e1; cases e1
      by_cases q2 : J' = m
      · exact absurd (q1.trans q2.symm) hn
      · rw [if_neg q2] at e2
        exact Nat.ne_of_gt (Heap.lt_size (D.at_ _ _ _ e2))
    · rw [if_neg q1] at e1
      by_cases q2 : J' = m
      · rw [if_pos q2] at e2; cases e2
        exact Nat.ne_of_lt (Heap.lt_size (D.at_ _ _ _ e1))
      · rw [if_neg q2] at e2
        exact D.ne _ _ _ _ _ _ e1 e2 hn
  · rw [G] at e
    by_cases q : J = m
    · rw [if_pos q] at e; cases e
      exact .inr D.ext.2
    · rw [if_neg q] at e
      exact D.old _ _ _ e
theorem Rp.set (D : Rp rw h₀ h T) {J a : Nat} {o o' : Obj} {h' : Heap} (e : T.get J = some (a, o)) (hs : Ext [a] h h') (hg : h'.get? a = some o') : Rp rw h₀ h' (T.set J o') := by
  have G : ∀ i b x, (T.set J o').get i = some (b, x) → (i = J ∧ b = a ∧ x = o') ∨ (i ≠ J ∧ T.get i = some (b, x)) := fun i b x q => by
    rw [PT.get_set] at q
    by_cases z : i = J
    · rw [if_pos z, e] at q; cases q; exact .inl ⟨z, rfl, rfl⟩
    · rw [if_neg z] at q; exact .inr ⟨z, q⟩
  have B : ∀ i b x, (T.set J o').get i = some (b, x) → ∃ y, T.get i = some (b, y) := fun i b x q => by
    rcases G i b x q with ⟨rfl, rfl, rfl⟩ | ⟨_, q⟩
    · exact ⟨_, e⟩
    · exact ⟨_, q⟩
  refine ⟨fun i b x q => ?_, fun i i' a1 o1 a2 o2 e1 e2 hn => ?_, fun i b x q => ?_, ?_⟩
  · rcases G i b x q with ⟨_, rfl, rfl⟩ | ⟨z, q⟩
    · exact hg
    · exact hs.1 _ _ (D.at_ _ _ _ q) fun hm => D.ne J i a o b x e q (Ne.symm z) (List.mem_singleton.mp hm).symm
  · obtain ⟨_, e1⟩ := B _ _ _ e1
    obtain ⟨_, e2⟩ := B _ _ _ e2
    exact D.ne _ _ _ _ _ _ e1 e2 hn
  · obtain ⟨_, q⟩ := B _ _ _ q
    exact D.old _ _ _ q
  · refine ⟨fun b x q hb => hs.1 b x (D.ext.1 b x q hb) fun hm => ?_, Nat.le_trans D.ext.2 hs.2⟩
    rw [List.mem_singleton] at hm
    subst hm
    rcases D.old _ _ _ e with z | z
    · exact hb z
    · exact absurd (Heap.lt_size q) (Nat.not_lt.mpr z)
theorem applyU_get : ∀ {u : List (Nat × Obj)} {T T' : PT}, applyU T u = some T' → ∀ J a x, T'.get J = some (a, x) → (∃ y, T.get J = some (a, y)) ∧ ((J, x) ∈ u ∨ ((∀ o, (J, o) ∉ u) ∧ T.get J = some (a, x)))
  | [], T, T', e, J, a, x, q => by
    cases e
    exact ⟨⟨_, q⟩, .inr ⟨fun _ z => (nomatch z), q⟩⟩
  | (K, o) :: r, T, T', e, J, a, x, q => by
    unfold applyU at e
    split at e
    · have ⟨⟨y, i1⟩, i2⟩ := applyU_get e J a x q
      rw [PT.get_set] at i1 i2
      by_cases z : J = K
      · subst z
        rw [if_pos rfl] at i1 i2
        rename_i p hp
        have hp : T.get J = some p := hp
        rw [hp] at i1 i2
        cases i1
        refine ⟨⟨_, hp⟩, ?_⟩
        rcases i2 with i2 | ⟨_, i2⟩
        · exact .inl (.tail _ i2)
        · cases i2; exact .inl (.head _)
      · rw [if_neg z] at i1 i2
        refine ⟨⟨_, i1⟩, ?_⟩
        rcases i2 with i2 | ⟨i2, i3⟩
        · exact .inl (.tail _ i2)
        · refine .inr ⟨fun o' hm => ?_, i3⟩
          rcases List.mem_cons.mp hm with hm | hm
          · cases hm; exact z rfl
          · exact i2 _ hm
    · cases e
theorem applyU_mem : ∀ {u : List (Nat × Obj)} {T T' : PT}, applyU T u = some T' → ∀ p ∈ u, ∃ a x, T.get p.1 = some (a, x)
  | [], _, _, _, p, hp => nomatch hp
  | q :: r, T, T', e, p, hp => by
    unfold applyU at e
    split at e
    · rename_i z hz
      rcases List.mem_cons.mp hp with rfl | hp
      · exact ⟨z.1, z.2, hz⟩
      · have ⟨a, x, i2⟩ := applyU_mem e p hp
        rw [PT.get_set] at i2
        by_cases y : p.1 = q.1
        · rw [y]; exact ⟨z.1, z.2, hz⟩
        · rw [if_neg y] at i2; exact ⟨a, x, i2⟩
    · cases e
theorem Rp.upd (D : Rp rw h₀ h T) {u : List (Nat × Obj)} {T' : PT} {h' : Heap} (e : applyU T u = some T') (hs : Ext (addrs T u) h h') (hg : ∀ J o a x, (J, o) ∈ u → T.get J = some (a, x) → h'.get? a = some o) : Rp rw h₀ h' T' := by
  have G := applyU_get e
  have M := applyU_mem e
  have am : ∀ b ∈ addrs T u, ∃ p ∈ u, ∃ x, T.get p.1 = some (b, x) := fun b hb => by
    unfold addrs at hb
    obtain ⟨p, hp, z⟩ := List.mem_filterMap.mp hb
    obtain ⟨a, x, q⟩ := M p hp
    rw [q] at z
    cases z
    exact ⟨p, hp, x, q⟩
  refine ⟨fun J a x q => ?_, fun J J' a1 o1 a2 o2 e1 e2 hn => ?_, fun J a x q => ?_, ?_⟩
  · obtain ⟨⟨y, hy⟩, i2⟩ := G J a x q
    rcases i2 with i2 | ⟨i2, i3⟩
    · exact hg J x a y i2 hy
    · refine hs.1 _ _ (D.at_ _ _ _ i3) fun hm => ?_
      obtain ⟨p, hp, x', q'⟩ := am _ hm
      by_cases z : p.1 = J
      · subst z; exact i2 p.2 hp
      · exact D.ne p.1 J a x' a x q' i3 z rfl
  · obtain ⟨⟨_, q1⟩, _⟩ := G _ _ _ e1
    obtain ⟨⟨_, q2⟩, _⟩ := G _ _ _ e2
    exact D.ne _ _ _ _ _ _ q1 q2 hn
  · obtain ⟨⟨_, q1⟩, _⟩ := G _ _ _ q
    exact D.old _ _ _ q1
  · refine ⟨fun b x q hb => hs.1 b x (D.ext.1 b x q hb) fun hm => ?_, Nat.le_trans D.ext.2 hs.2⟩
    obtain ⟨p, hp, x', q'⟩ := am _ hm
    rcases D.old _ _ _ q' with z | z
    · exact hb z
    · exact absurd (Heap.lt_size q) (Nat.not_lt.mpr z)
theorem Rp.news : ∀ {l : List (Nat × Obj)} {T T' : PT} {m : Nat} {h : Heap}, Rp rw h₀ h T → applyN T m l = some T' → (l.map (·.1)).Nodup → (∀ p ∈ l, h₀.objs.size ≤ p.1 ∧ h.get? p.1 = some p.2 ∧ ∀ J a o, T.get J = some (a, o) → a ≠ p.1) → Rp rw h₀ h T'
  | [], T, T', m, h, D, e, _, _ => by cases e; exact D
  | p :: r, T, T', m, h, D, e, hn, H => by
    unfold applyN at e
    split at e
    · rename_i q hq
      have G := PT.get_ins p T m (by rw [hq]; rfl)
      obtain ⟨H1, H2, H3⟩ := H p (.head _)
      have D' : Rp rw h₀ h (T.ins m p) := by
        refine ⟨fun J a' o' e => ?_, fun J J' a1 o1 a2 o2 e1 e2 hnn => ?_, fun J a' o' e => ?_, D.ext⟩
        · rw [G] at e
          by_cases q : J = m
          · rw [if_pos q] at e; cases e; exact H2
          · rw [if_neg q] at e; exact D.at_ _ _ _ e
        · rw [G] at e1 e2
          by_cases q1 : J = m
          · rw [if_pos q1] at e1; cases e1
            by_cases q2 : J' = m
            · exact absurd (q1.trans q2.symm) hnn
            · rw [if_neg q2] at e2; exact (H3 _ _ _ e2).symm
          · rw [if_neg q1] at e1
            by_cases q2 : J' = m
            · rw [if_pos q2] at e2; cases e2; exact H3 _ _ _ e1
            · rw [if_neg q2] at e2; exact D.ne _ _ _ _ _ _ e1 e2 hnn
        · rw [G] at e
          by_cases q : J = m
          · rw [if_pos q] at e; cases e; exact .inr H1
          · rw [if_neg q] at e; exact D.old _ _ _ e
      rw [List.map_cons, List.nodup_cons] at hn
      exact Rp.news D' e hn.2 fun p' hp' => by
        obtain ⟨K1, K2, K3⟩ := H p' (.tail _ hp')
        refine ⟨K1, K2, fun J a o q => ?_⟩
        rw [G] at q
        by_cases z : J = m
        · rw [if_pos z] at q; cases q
          exact fun y => hn.1 (by rw [List.mem_map]; exact ⟨p', hp', y.symm⟩)
        · rw [if_neg z] at q; exact K3 _ _ _ q
    · cases e
end
noncomputable def Ou.eqs : Ou → List (Nat × Nat)
  | .fin _ _ _ _ _ _ _ e _ => e
  | .cut _ _ _ _ _ _ _ _ _ e _ => e
  | .bad _ _ => []
noncomputable def Ou.ac : Ou → List Ac
  | .fin _ _ _ _ _ _ _ _ a => a
  | .cut _ _ _ _ _ _ _ _ _ _ a => a
  | .bad _ _ => []
noncomputable def Ou.ok : Ou → Bool
  | .bad _ _ => false
  | _ => true
noncomputable def bas : List (Around × K) → Around → Around
  | [], A => A
  | p :: _, _ => p.1
noncomputable def KP (w : World) : List (Around × K) → Around → (Result → Shared → Prop) → Result → Shared → Prop
  | [], _, R, r, s => R r s
  | p :: fs, A₀, R, r, s => wpAny (model theProg w) p.1 (p.2 r) (FinP theProg w (bas fs A₀) (KP w fs A₀ R)) (ErrP (KP w fs A₀ R)) s
noncomputable def Rooms : Nat → List (Around × K) → Around → Prop
  | lv, [], A₀ => Room A₀ (6 * lv + 6)
  | lv, p :: fs, A₀ => Room p.1 (6 * lv + 6) ∧ Rooms (lv + 1) fs A₀
theorem Rooms.bas {lv : Nat} {fs : List (Around × K)} {A₀ : Around} (h : Rooms lv fs A₀) : Room (bas fs A₀) (6 * lv + 6) := by
  cases fs with
  | nil => exact h
  | cons p r => exact h.1
noncomputable def Aft (w : World) (rw : List Nat) (h₀ : Heap) (g : Array GenState) (d : Drawn) (os : OsState) (A₀ : Around) (R : Result → Shared → Prop) : Ou → Prop
  | .fin r T m n c t i _ _ => ∀ h, Rp rw h₀ h T → h.objs.size = n + c → R r ⟨h, g, d, t + i, os⟩
  | .cut co stk lv T m n c t i _ _ => ∀ h fs, fs.map (·.2) = stk → Rooms lv fs A₀ → Rp rw h₀ h T → h.objs.size = n + c → codeAny (model theProg w) (bas fs A₀) co (KP w fs A₀ R) ⟨h, g, d, t + i, os⟩
  | .bad _ _ => False
theorem Aft.ok {w : World} {rw : List Nat} {h₀ : Heap} {g : Array GenState} {d : Drawn} {os : OsState} {A₀ : Around} {R : Result → Shared → Prop} {X : Ou} (h : Aft w rw h₀ g d os A₀ R X) : X.ok = true := by
  cases X <;> first | rfl | exact h.elim
noncomputable def Sub (eqs : List (Nat × Nat)) (ac : List Ac) (X : Ou) : Prop := X.ok = true → eqs <:+ X.eqs ∧ ac <:+ X.ac
theorem resume_sub {ih : GoTy} (H : ∀ lv tr stk T m n c t i σ orc eqs ac, Sub eqs ac (ih lv tr stk T m n c t i σ orc eqs ac)) (lv r stk T m n c t i σ orc eqs ac) : Sub eqs ac (resume ih lv r stk T m n c t i σ orc eqs ac) := by
  cases stk with
  | nil => exact fun _ => ⟨List.suffix_refl _, List.suffix_refl _⟩
  | cons k st => exact H _ _ _ _ _ _ _ _ _ _ _ _ _
theorem summed_sub {V : PW} {s lv : Nat} {co : Code} {kk : Result → Re} (H : ∀ r T m n c t i σ orc eqs ac, Sub eqs ac (kk r T m n c t i σ orc eqs ac)) (T m n c t i σ orc eqs ac) : Sub eqs ac (summed V s lv co kk T m n c t i σ orc eqs ac) := by
  unfold summed
  split
  · exact fun h => nomatch h
  · split
    · exact fun h => nomatch h
    · unfold applied
      split
      · exact fun h => nomatch h
      · split
        · exact fun h => nomatch h
        · exact fun h => ⟨(H _ _ _ _ _ _ _ _ _ _ _ h).1, (List.suffix_cons _ _).trans (H _ _ _ _ _ _ _ _ _ _ _ h).2⟩
theorem go_sub (V : PW) : ∀ fuel lv tr stk T m n c t i σ orc eqs ac, Sub eqs ac (go V fuel lv tr stk T m n c t i σ orc eqs ac) := by
  intro fuel
  induction fuel with
  | zero => intro lv tr stk T m n c t i σ orc eqs ac h; cases h
  | succ f ih =>
    intro lv tr stk T m n c t i σ orc eqs ac
    show Sub eqs ac (stepG V (go V f) lv tr stk T m n c t i σ orc eqs ac)
    unfold stepG
    cases tr <;> dsimp only <;> first
      | (exact ih _ _ _ _ _ _ _ _ _ _ _ _ _)
      | (exact resume_sub ih _ _ _ _ _ _ _ _ _ _ _ _ _)
      | (intro h; cases h; done)
      | skip
    case pure fin =>
      unfold stepF
      cases fin with
      | done f => exact resume_sub ih _ _ _ _ _ _ _ _ _ _ _ _ _
      | again co =>
        dsimp only
        cases co.quiet with
        | false => intro h; cases h
        | true =>
          cases co.isCaller with
          | true => intro h; cases h
          | false =>
            dsimp only
            split
            · intro h; cases h
            · split
              · exact ih _ _ _ _ _ _ _ _ _ _ _ _ _
              · exact fun _ => ⟨List.suffix_refl _, List.suffix_refl _⟩
              · exact summed_sub (fun r T m n c t i σ orc eqs ac => resume_sub ih _ _ _ _ _ _ _ _ _ _ _ _ _) _ _ _ _ _ _ _ _ _ _
    case load a q k =>
      split
      · intro h; cases h
      · split
        · exact fun h => ⟨(List.suffix_cons _ _).trans (ih _ _ _ _ _ _ _ _ _ _ _ _ _ h).1, (ih _ _ _ _ _ _ _ _ _ _ _ _ _ h).2⟩
        · intro h; cases h
    case alloc o k =>
      split
      · intro h; cases h
      · split
        · exact ih _ _ _ _ _ _ _ _ _ _ _ _ _
        · intro h; cases h
    case update a q ff k =>
      split
      · intro h; cases h
      · split
        · split
          · intro h; cases h
          · exact fun h => ⟨(List.suffix_cons _ _).trans (ih _ _ _ _ _ _ _ _ _ _ _ _ _ h).1, (ih _ _ _ _ _ _ _ _ _ _ _ _ _ h).2⟩
        · intro h; cases h
    case handled own k =>
      cases own with
      | true => intro h; cases h
      | false => exact ih _ _ _ _ _ _ _ _ _ _ _ _ _
    case call co hd gg l k =>
      cases hd with
      | some _ => intro h; cases h
      | none =>
        dsimp only
        cases co.isCaller with
        | true => intro h; cases h
        | false =>
          dsimp only
          split
          · intro h; cases h
          · split
            · cases lv with
              | zero => intro h; cases h
              | succ l => exact ih _ _ _ _ _ _ _ _ _ _ _ _ _
            · cases lv with
              | zero => intro h; cases h
              | succ l => exact fun _ => ⟨List.suffix_refl _, List.suffix_refl _⟩
            · exact summed_sub (fun r T m n c t i σ orc eqs ac => ih _ _ _ _ _ _ _ _ _ _ _ _ _) _ _ _ _ _ _ _ _ _ _
end Mine
end
section
open PySem PySem.W PySem.W.X PyProof.Rows
namespace Mine
noncomputable def Fine (w : World) (rw : List Nat) (h₀ : Heap) (g : Array GenState) (d : Drawn) (os : OsState) (A₀ : Around) (R : Result → Shared → Prop) (X : Ou) : Prop :=
  Aft w rw h₀ g d os A₀ R X ∧ AllE X.eqs ∧ ∀ a ∈ X.ac, a.ok
section
variable {V : PW} {w : World} {h₀ : Heap} {rw : List Nat} (O : V.Ok w h₀ rw) (g : Array GenState) (d : Drawn) (os : OsState) (A₀ : Around) (R : Result → Shared → Prop)
noncomputable def IH (V : PW) (w : World) (h₀ : Heap) (rw : List Nat) (g : Array GenState) (d : Drawn) (os : OsState) (A₀ : Around) (R : Result → Shared → Prop) (f : Nat) : Prop :=
  ∀ lv tr (fs : List (Around × K)) T m n c t i orc eqs ac A h, (∀ σ, Fine w rw h₀ g d os A₀ R (go V f lv tr (fs.map (·.2)) T m n c t i σ orc eqs ac)) → Rp rw h₀ h T → h.objs.size = n + c → Room A (6 * lv) → Rooms lv fs A₀ →
    wpAny (model theProg w) A tr (FinP theProg w (bas fs A₀) (KP w fs A₀ R)) (ErrP (KP w fs A₀ R)) ⟨h, g, d, t + i, os⟩
theorem resume_sound {f : Nat} (ih : IH V w h₀ rw g d os A₀ R f) {lv : Nat} {r : Result} {fs : List (Around × K)} {T : PT} {m n c t i : Nat} {orc : List Nat} {eqs : List (Nat × Nat)} {ac : List Ac} {h : Heap}
    (H : ∀ σ, Fine w rw h₀ g d os A₀ R (resume (go V f) lv r (fs.map (·.2)) T m n c t i σ orc eqs ac)) (D : Rp rw h₀ h T) (hs : h.objs.size = n + c) (hR : Rooms lv fs A₀) : KP w fs A₀ R r ⟨h, g, d, t + i, os⟩ := by
  cases fs with
  | nil => exact (H fun _ => 0).1 h D hs
  | cons p fs => exact ih _ _ _ _ _ _ _ _ _ _ _ _ _ _ H D hs hR.1 hR.2
noncomputable def comb (σ σ' : Nat → Nat) : Nat → Nat := fun i => if i < 64 then σ i else σ' (i - 64)
theorem shift_comb (σ σ' : Nat → Nat) : shift (comb σ σ') = σ' := by
  funext i
  unfold shift comb
  rw [if_neg (by omega)]
  rfl
theorem cutS_comb (σ σ' : Nat → Nat) (h : ∀ i, 64 ≤ i → σ i = 0) : cutS (comb σ σ') = σ := by
  funext i
  unfold cutS comb
  cases q : Nat.blt i 64 with
  | true => rw [if_pos (blt_true q)]
  | false =>
    have : ¬ i < 64 := fun z => by rw [Nat.blt_eq.mpr z] at q; cases q
    exact (h i (Nat.not_lt.mp this)).symm
theorem summed_sound {s lv : Nat} {co : Code} {kk : Result → Re} (hsub : ∀ r T m n c t i σ orc eqs ac, Sub eqs ac (kk r T m n c t i σ orc eqs ac)) {T : PT} {m n c t i : Nat} {orc : List Nat} {eqs : List (Nat × Nat)} {ac : List Ac} {A : Around} {h : Heap} {Post : Result → Shared → Prop}
    (O : V.Ok w h₀ rw) (H : ∀ σ, Fine w rw h₀ g d os A₀ R (summed V s lv co kk T m n c t i σ orc eqs ac)) (D : Rp rw h₀ h T) (hR : Room A (6 * lv))
    (cont : ∀ r T' m' n' t' orc' ac' h', (∀ σ, Fine w rw h₀ g d os A₀ R (kk r T' m' n' 0 t' 0 σ orc' eqs ac')) → Rp rw h₀ h' T' → h'.objs.size = n' + 0 → Post r ⟨h', g, d, t' + 0, os⟩) :
    codeAny (model theProg w) A co Post ⟨h, g, d, t + i, os⟩ := by
  unfold summed at H
  cases q : V.sums[s]? with
  | none => rw [q] at H; exact (H fun _ => 0).1.elim
  | some f =>
    rw [q] at H
    dsimp only at H
    cases q2 : f lv co T orc with
    | none => rw [q2] at H; exact (H fun _ => 0).1.elim
    | some F =>
      rw [q2] at H
      dsimp only at H
      have hok : F.ac.ok := by
        have H0 := H fun _ => 0
        revert H0
        generalize F.eff (cutS fun _ => 0) = E
        unfold applied
        cases applyU T E.upd with
        | none => intro H0; exact H0.1.elim
        | some T1 =>
          dsimp only
          cases applyN T1 m E.new with
          | none => intro H0; exact H0.1.elim
          | some T2 =>
            intro H0
            have := (hsub _ _ _ _ _ _ _ _ _ _ _ H0.1.ok).2
            exact H0.2.2 _ (this.mem (.head _))
      refine O.sums f (List.mem_of_getElem? q) lv co T orc F q2 hok A h g d _ os Post hR (D.ht O) fun σ h' h0 hs hE hU hN => ?_
      have G : ∀ σ', Fine w rw h₀ g d os A₀ R (match applyU T (F.eff σ).upd with
          | none => .bad 62 s
          | some T1 => match applyN T1 m (F.eff σ).new with
            | none => .bad 63 s
            | some T2 => kk (F.eff σ).res T2 (m + (F.eff σ).new.length) (σ 0) 0 (σ 1) 0 σ' F.orc eqs (F.ac :: ac)) := fun σ' => by
        have := H (comb σ σ')
        unfold applied at this
        rw [cutS_comb σ σ' h0, shift_comb] at this
        exact this
      generalize F.eff σ = E at hE hU hN G ⊢
      cases u : applyU T E.upd with
      | none => rw [u] at G; exact (G fun _ => 0).1.elim
      | some T1 =>
        rw [u] at G
        dsimp only at G
        cases v : applyN T1 m E.new with
        | none => rw [v] at G; exact (G fun _ => 0).1.elim
        | some T2 =>
          rw [v] at G
          dsimp only at G
          have D1 := D.upd u hE hU
          have D2 := D1.news v hN.1 fun p hp => by
            obtain ⟨a1, a2⟩ := hN.2 p hp
            refine ⟨Nat.le_trans D.ext.2 a1, a2, fun J a o z => ?_⟩
            obtain ⟨⟨y, z'⟩, _⟩ := applyU_get u J a o z
            exact Nat.ne_of_lt (Nat.lt_of_lt_of_le (Heap.lt_size (D.at_ _ _ _ z')) a1)
          exact cont E.res T2 _ (σ 0) (σ 1) F.orc _ h' G D2 hs
theorem go_sound (O : V.Ok w h₀ rw) : ∀ fuel, IH V w h₀ rw g d os A₀ R fuel := by
  intro fuel
  induction fuel with
  | zero => intro lv tr fs T m n c t i orc eqs ac A h H; exact (H fun _ => 0).1.elim
  | succ f ih =>
    intro lv tr fs T m n c t i orc eqs ac A h H D hs hA hR
    have H' : ∀ σ, Fine w rw h₀ g d os A₀ R (stepG V (go V f) lv tr (fs.map (·.2)) T m n c t i σ orc eqs ac) := H
    have sub := go_sub V f
    unfold stepG at H'
    cases tr <;> dsimp only at H' <;> first
      | (exact (H' fun _ => 0).1.elim)
      | skip
    case pure fin =>
      refine wpAny_pure ?_
      unfold stepF at H'
      cases fin with
      | done x => exact resume_sound g d os A₀ R ih H' D hs hR
      | again co =>
        dsimp only at H'
        show co.quiet = true ∧ codeAny (model theProg w) (bas fs A₀) co (KP w fs A₀ R) ⟨h, g, d, t + i, os⟩
        cases z : co.quiet with
        | false => rw [z] at H'; exact (H' fun _ => 0).1.elim
        | true =>
          rw [z] at H'
          cases y : co.isCaller with
          | true => rw [y] at H'; exact (H' fun _ => 0).1.elim
          | false =>
            rw [y] at H'
            dsimp only at H'
            refine ⟨rfl, ?_⟩
            cases orc with
            | nil => exact (H' fun _ => 0).1.elim
            | cons j orc =>
              dsimp only at H'
              match j, H' with
              | 0, H' =>
                dsimp only at H'
                have hR' := hR.bas.under y
                refine codeAny_of_tree (denQ_sound (by have := hR'.2; omega) (by have := hR'.2; omega) (wpAny_mono (ih _ _ _ _ _ _ _ _ _ _ _ _ _ _ H' D hs hR' hR) (fun f s' x => ?_) (fun _ _ x => x)))
                cases f <;> exact x
              | 1, H' => exact (H' fun _ => 0).1 h fs rfl hR D hs
              | s + 2, H' =>
                refine summed_sound g d os A₀ R (fun r T m n c t i σ orc eqs ac => resume_sub sub _ _ _ _ _ _ _ _ _ _ _ _ _) O H' D (hR.bas.mono (by omega)) fun r T' m' n' t' orc' ac' h' G D' hs' => ?_
                exact resume_sound g d os A₀ R ih G D' hs' hR
    case raise x =>
      exact wpAny_throw (resume_sound g d os A₀ R ih H' D hs hR)
    case rule tg k => exact x_rule (ih _ _ _ _ _ _ _ _ _ _ _ _ _ _ H' D hs hA hR)
    case «at» q k => exact x_at (ih _ _ _ _ _ _ _ _ _ _ _ _ _ _ H' D hs hA hR)
    case point l k => exact x_point (ih _ _ _ _ _ _ _ _ _ _ _ _ _ _ H' D hs hA hR)
    case ask k =>
      rw [O.prog, O.P] at H'
      exact x_ask (ih _ _ _ _ _ _ _ _ _ _ _ _ _ _ H' D hs hA hR)
    case load a q k =>
      cases orc with
      | nil => exact (H' fun _ => 0).1.elim
      | cons j orc =>
        dsimp only at H'
        cases z : lookT V T a j with
        | none => rw [z] at H'; exact (H' fun _ => 0).1.elim
        | some p =>
          rw [z] at H'
          dsimp only at H'
          have H0 := H' fun _ => 0
          have mono := (sub _ _ _ _ _ _ _ _ _ _ _ _ _ H0.1.ok).1
          have he := H0.2.1.mem _ (mono.mem (.head _))
          exact x_load (D.look O z he) (ih _ _ _ _ _ _ _ _ _ _ _ _ _ _ H' D hs hA hR)
    case alloc o k =>
      cases z : o.isFreed with
      | true => rw [z] at H'; exact (H' fun _ => 0).1.elim
      | false =>
        rw [z] at H'
        dsimp only at H'
        cases y : (T.ins m (n + c, o)).get m with
        | none => rw [y] at H'; exact (H' fun _ => 0).1.elim
        | some _ =>
          rw [y] at H'
          dsimp only at H'
          refine wpAny_bind (m := alloc o) (f := k) (wpAny_alloc ?_)
          show wpAny (model theProg w) A (k h.objs.size) _ _ ⟨h.push o, g, d, t + i, os⟩
          rw [hs]
          exact ih _ _ _ _ _ _ _ _ _ _ _ _ _ _ H' (D.alloc hs z (by rw [y]; rfl)) (by rw [Heap.size_push, hs]; omega) hA hR
    case update a q ff k =>
      cases orc with
      | nil => exact (H' fun _ => 0).1.elim
      | cons j orc =>
        dsimp only at H'
        cases y : T.get (j - 1) with
        | none => rw [y] at H'; exact (H' fun _ => 0).1.elim
        | some p =>
          obtain ⟨ad, o⟩ := p
          rw [y] at H'
          dsimp only at H'
          cases u : (ff o).isFreed with
          | true => rw [u] at H'; exact (H' fun _ => 0).1.elim
          | false =>
            rw [u] at H'
            dsimp only at H'
            have H0 := H' fun _ => 0
            have mono := (sub _ _ _ _ _ _ _ _ _ _ _ _ _ H0.1.ok).1
            have he : a = ad := H0.2.1.mem _ (mono.mem (.head _))
            subst he
            have hg := D.at_ _ _ _ y
            have hsm : Heap.SameBut a h (h.update a ff) := Heap.SameBut.update ..
            exact wpAny_bind (m := updatePart a q ff) (f := k) (wpAny_updatePart hg (ih _ _ _ _ _ _ _ _ _ _ _ _ _ _ H' (D.set y (Ext.of_same hsm) (Heap.get?_update_self _ hg u)) (by rw [hsm.1, hs]) hA hR))
    case fresh k => exact x_fresh (ih lv (k (t + i)) fs T m n c t (i + 1) orc eqs ac A h H' D hs hA hR)
    case handled own k =>
      cases own with
      | true => exact (H' fun _ => 0).1.elim
      | false =>
        have z := ih _ _ _ _ _ _ _ _ _ _ _ _ _ _ H' D hs hA hR
        exact x_handled (by rw [hA.1]; exact z)
    case call co hd gg l k =>
      cases hd with
      | some _ => exact (H' fun _ => 0).1.elim
      | none =>
        dsimp only at H'
        cases y : co.isCaller with
        | true => rw [y] at H'; exact (H' fun _ => 0).1.elim
        | false =>
          rw [y] at H'
          dsimp only at H'
          cases orc with
          | nil => exact (H' fun _ => 0).1.elim
          | cons j orc =>
            dsimp only at H'
            suffices hc : codeAny (model theProg w) A co (fun r s' => wpAny (model theProg w) A (k r) (FinP theProg w (bas fs A₀) (KP w fs A₀ R)) (ErrP (KP w fs A₀ R)) s') ⟨h, g, d, t + i, os⟩ from x_call (hd := none) hc (by intro x; cases x)
            match j, H' with
            | 0, H' =>
              dsimp only at H'
              cases lv with
              | zero => exact (H' fun _ => 0).1.elim
              | succ l =>
                dsimp only at H'
                have hA' : Room A (6 * l + 6) := hA.mono (by omega)
                have hU := hA'.under y
                refine codeAny_of_tree (denQ_sound (by have := hU.2; omega) (by have := hU.2; omega) (wpAny_mono (ih l (denQ co) ((A, k) :: fs) _ _ _ _ _ _ _ _ _ _ _ H' D hs hU ⟨hA', hR⟩) (fun f s' x => ?_) (fun _ _ x => x)))
                cases f <;> exact x
            | 1, H' =>
              dsimp only at H'
              cases lv with
              | zero => exact (H' fun _ => 0).1.elim
              | succ l => exact (H' fun _ => 0).1 h ((A, k) :: fs) rfl ⟨hA.mono (by omega), hR⟩ D hs
            | s + 2, H' =>
              refine summed_sound g d os A₀ R (fun r T m n c t i σ orc eqs ac => sub _ _ _ _ _ _ _ _ _ _ _ _ _) O H' D hA fun r T' m' n' t' orc' ac' h' G D' hs' => ?_
              exact ih _ _ _ _ _ _ _ _ _ _ _ _ _ _ G D' hs' hA hR
end
end Mine
end
section
open PySem PySem.W PySem.W.X PyProof.Rows
namespace Mine
noncomputable def Ou.kind : Ou → Nat
  | .fin _ _ _ _ _ _ _ _ _ => 0
  | .cut _ _ _ _ _ _ _ _ _ _ _ => 1
  | .bad _ _ => 2
noncomputable def Ou.T : Ou → PT
  | .fin _ T _ _ _ _ _ _ _ => T
  | .cut _ _ _ T _ _ _ _ _ _ _ => T
  | .bad _ _ => .nil
noncomputable def Ou.size : Ou → Nat
  | .fin _ _ _ n c _ _ _ _ => n + c
  | .cut _ _ _ _ _ n c _ _ _ _ => n + c
  | .bad _ _ => 0
noncomputable def Ou.toks : Ou → Nat
  | .fin _ _ _ _ _ t i _ _ => t + i
  | .cut _ _ _ _ _ _ _ t i _ _ => t + i
  | .bad _ _ => 0
noncomputable def Ou.res : Ou → Result
  | .fin r _ _ _ _ _ _ _ _ => r
  | _ => .ok .next
noncomputable def Ou.code : Ou → Code
  | .cut c _ _ _ _ _ _ _ _ _ _ => c
  | _ => default
noncomputable def Ou.stk : Ou → List K
  | .cut _ s _ _ _ _ _ _ _ _ _ => s
  | _ => []
noncomputable def Ou.lv : Ou → Nat
  | .cut _ _ l _ _ _ _ _ _ _ _ => l
  | _ => 0
noncomputable def bOf (w : World) : Bool := w.params.followText "special-get-raises"
noncomputable def mkW (P : Params) (b : Bool) (K : KT) (pg : Program) (sums : List SumFn) : PW := { prog := pg, P := normP P b, kt := K, tabs := [30, 37, 107, 136], sums }
noncomputable def Ou.acs (X : Ou) : (List (Nat × Nat) × List (Obj × Obj)) × (List (Code × Code) × List Bool) :=
  ((X.ac.flatMap (·.eqs), X.ac.flatMap (·.oeqs)), (X.ac.flatMap (·.ceqs), X.ac.flatMap (·.bs)))
noncomputable def Ou.conds (X : Ou) : List Prop := X.ac.flatMap (·.conds)
noncomputable def AllP : List Prop → Prop
  | [] => True
  | p :: r => p ∧ AllP r
theorem AllP.mem : ∀ {l : List Prop}, AllP l → ∀ p ∈ l, p
  | [], _, p, hp => nomatch hp
  | q :: r, H, p, hp => by
    rcases List.mem_cons.mp hp with rfl | hp
    · exact H.1
    · exact H.2.mem p hp
theorem AllP.app : ∀ {l m : List Prop}, AllP l → AllP m → AllP (l ++ m)
  | [], _, _, b => b
  | _ :: _, _, a, b => ⟨a.1, AllP.app a.2 b⟩
structure RunIs (X : Ou) (k : Nat) : Prop where
  kind : X.kind = k
  eqs : X.eqs.map (·.1) = X.eqs.map (·.2)
  a1 : X.acs.1.1.map (·.1) = X.acs.1.1.map (·.2)
  a2 : X.acs.1.2.map (·.1) = X.acs.1.2.map (·.2)
  a3 : X.acs.2.1.map (·.1) = X.acs.2.1.map (·.2)
  a4 : X.acs.2.2.all (fun b => b) = true
theorem allE_of_mem {α : Type} {l : List (α × α)} (h : ∀ p ∈ l, p.1 = p.2) : AllE l := List.map_congr_left h
theorem acs_ok {X : Ou} {k : Nat} (h : RunIs X k) (hc : AllP X.conds) : ∀ a ∈ X.ac, a.ok := fun a ha => by
  refine ⟨allE_of_mem fun p hp => AllE.mem h.a1 p (List.mem_flatMap.mpr ⟨a, ha, hp⟩), allE_of_mem fun p hp => AllE.mem h.a2 p (List.mem_flatMap.mpr ⟨a, ha, hp⟩), allE_of_mem fun p hp => AllE.mem h.a3 p (List.mem_flatMap.mpr ⟨a, ha, hp⟩), ?_, fun p hp => hc.mem p (List.mem_flatMap.mpr ⟨a, ha, hp⟩)⟩
  have h4 := h.a4
  rw [List.all_eq_true] at h4 ⊢
  exact fun b hb => h4 b (List.mem_flatMap.mpr ⟨a, ha, hb⟩)
theorem PT.ins_ok (p : Nat × Obj) : ∀ (T : PT) (m : Nat), (∀ i, i < m → (T.get i).isSome = true) → ((T.ins m p).get m).isSome = true
  | .nil, m, H => by
    have : m = 0 := Nat.eq_zero_of_not_pos fun h => by have := H 0 h; cases this
    subst this; rfl
  | .node v l r, m, H => by
    rw [PT.ins_node]
    by_cases h0 : m = 0
    · rw [if_pos h0, h0]; rfl
    · rw [if_neg h0]
      by_cases q : m % 2 = 1
      · rw [if_pos q, PT.get_node, if_neg h0, if_pos q]
        refine PT.ins_ok p l (m / 2) fun i hi => ?_
        have := H (2 * i + 1) (by omega)
        rw [PT.get_node, if_neg (by omega), if_pos (by omega), show (2 * i + 1) / 2 = i by omega] at this
        exact this
      · rw [if_neg q, PT.get_node, if_neg h0, if_neg q]
        refine PT.ins_ok p r (m / 2 - 1) fun i hi => ?_
        have := H (2 * i + 2) (by omega)
        rw [PT.get_node, if_neg (by omega), if_neg (by omega), show (2 * i + 2) / 2 - 1 = i by omega] at this
        exact this
theorem ofL_get : ∀ (l : List (Nat × Obj)) (m : Nat) (T : PT) (pre : List (Nat × Obj)), pre.length = m → (∀ i, T.get i = pre[i]?) → ∀ i, (ofL l m T).get i = (pre ++ l)[i]?
  | [], m, T, pre, hm, H, i => by rw [List.append_nil]; exact H i
  | p :: r, m, T, pre, hm, H, i => by
    have ok := PT.ins_ok p T m fun j hj => by rw [H j, List.getElem?_eq_getElem (by omega)]; rfl
    have := ofL_get r (m + 1) (T.ins m p) (pre ++ [p]) (by simp [hm]) (fun j => by
      rw [PT.get_ins p T m ok j, H j]
      by_cases q : j = m
      · rw [if_pos q, q, ← hm]; simp
      · rw [if_neg q]
        by_cases z : j < m
        · rw [List.getElem?_append_left (by omega)]
        · rw [List.getElem?_eq_none (by omega), List.getElem?_eq_none (by simp; omega)]) i
    rw [List.append_assoc] at this
    exact this
theorem AllAt.app {h : Heap} : ∀ {l l' : List (Nat × Obj)}, AllAt h l → AllAt h l' → AllAt h (l ++ l')
  | [], _, _, b => b
  | p :: r, _, a, b => ⟨a.1, AllAt.app a.2 b⟩
theorem AllAt.of {h : Heap} : ∀ {l : List (Nat × Obj)}, (∀ p ∈ l, h.get? p.1 = some p.2) → AllAt h l
  | [], _ => trivial
  | p :: r, H => ⟨H p (.head _), AllAt.of fun q hq => H q (.tail _ hq)⟩
noncomputable abbrev Sto := List (Nat × Obj)
noncomputable def Sto.ad (E : Sto) : List Nat := E.map (·.1)
structure St (w : World) (h : Heap) (E : Sto) : Prop where
  tops : Tops w.params h
  sz : 152 ≤ h.objs.size
  at_ : AllAt h E
  nd : E.ad.Nodup
  lo : ∀ a ∈ E.ad, 152 ≤ a ∨ a ∈ [30, 37, 107, 136]
structure Grow (E E' : Sto) (h h' : Heap) : Prop where
  ext : Ext E.ad h h'
  new : ∀ a ∈ E'.ad, a ∈ E.ad ∨ h.objs.size ≤ a
theorem Grow.trans {E E' E'' : Sto} {h h' h'' : Heap} (a : Grow E E' h h') (b : Grow E' E'' h' h'') : Grow E E'' h h'' :=
  ⟨(a.ext.trans b.ext).mono fun x hx => (List.mem_append.mp hx).elim .inl (a.new x), fun x hx => (b.new x hx).elim (a.new x) fun z => .inr (Nat.le_trans a.ext.2 z)⟩
theorem Rp.start {w : World} {h : Heap} {E : Sto} (S : St w h E) : Rp E.ad h h (ofL E 0 .nil) := by
  have G := ofL_get E 0 .nil [] rfl (fun i => by simp [PT.get])
  simp only [List.nil_append] at G
  have m : ∀ J p, (ofL E 0 .nil).get J = some p → E.ad[J]? = some p.1 := fun J p e => by
    rw [G] at e
    show (E.map _)[J]? = _
    rw [List.getElem?_map, e]; rfl
  refine ⟨fun J a o e => ?_, fun J J' a o a' o' e e' hn z => ?_, fun J a o e => .inl (List.mem_of_getElem? (m J _ e)), (Ext.refl _).mono fun _ hm => (nomatch hm)⟩
  · rw [G] at e
    exact S.at_.get _ (List.mem_of_getElem? e)
  · obtain ⟨l1, y1⟩ := List.getElem?_eq_some_iff.mp (m J _ e)
    obtain ⟨l2, y2⟩ := List.getElem?_eq_some_iff.mp (m J' _ e')
    exact hn ((List.getElem_inj S.nd).mp (y1.trans (z.trans y2.symm)))
theorem St.of {w : World} {V : PW} {rw : List Nat} {h₀ h : Heap} {T : PT} (O : V.Ok w h₀ rw) (D : Rp rw h₀ h T) {J : List Nat} {E' : Sto} (hJ : J.Nodup) (e : J.map T.get = E'.map some) : St w h E' ∧ ∀ a ∈ E'.ad, a ∈ rw ∨ h₀.objs.size ≤ a := by
  have H := D.ht O
  have m : ∀ p ∈ E', ∃ j ∈ J, T.get j = some p := fun p hp => by
    have : some p ∈ J.map T.get := by rw [e]; exact List.mem_map_of_mem hp
    exact List.mem_map.mp this
  refine ⟨⟨H.tops, Nat.le_trans O.sz D.ext.2, AllAt.of fun p hp => ?_, ?_, fun a ha => ?_⟩, fun a ha => ?_⟩
  · obtain ⟨j, _, q⟩ := m p hp
    exact H.at_ j _ _ q
  · clear m
    induction J generalizing E' with
    | nil =>
      cases E' with
      | nil => exact List.nodup_nil
      | cons _ _ => cases e
    | cons j J ih =>
      cases E' with
      | nil => cases e
      | cons p E' =>
        rw [List.map_cons, List.map_cons] at e
        injection e with e1 e2
        rw [List.nodup_cons] at hJ
        refine List.nodup_cons.mpr ⟨fun hm => ?_, ih hJ.2 e2⟩
        obtain ⟨q, hq, z⟩ := List.mem_map.mp hm
        have : some q ∈ J.map T.get := by rw [e2]; exact List.mem_map_of_mem hq
        obtain ⟨j', hj', y⟩ := List.mem_map.mp this
        exact H.ne j j' p.1 p.2 q.1 q.2 e1 y (fun x => hJ.1 (x ▸ hj')) z.symm
  · obtain ⟨p, hp, rfl⟩ := List.mem_map.mp ha
    obtain ⟨j, _, q⟩ := m p hp
    exact H.lo j _ _ q
  · obtain ⟨p, hp, rfl⟩ := List.mem_map.mp ha
    obtain ⟨j, _, q⟩ := m p hp
    exact D.old j _ _ q
noncomputable def Ends (w : World) (lv : Nat) (co : Code) (E : Sto) (Q : Result → Sto → Prop) : Prop :=
  ∀ (A : Around) (h : Heap) (g : Array GenState) (d : Drawn) (t : Nat) (os : OsState) (R : Result → Shared → Prop), Room A (6 * lv + 6) → St w h E →
    (∀ r h' t' E', Q r E' → St w h' E' → Grow E E' h h' → R r ⟨h', g, d, t', os⟩) → codeAny (model theProg w) A co R ⟨h, g, d, t, os⟩
noncomputable def SOk (w : World) : List SumFn → Prop
  | [] => True
  | f :: r => SumOk w f ∧ SOk w r
theorem SOk.all {w : World} : ∀ {l : List SumFn}, SOk w l → ∀ f ∈ l, SumOk w f
  | [], _, f, hf => nomatch hf
  | g :: r, H, f, hf => by
    rcases List.mem_cons.mp hf with rfl | hf
    · exact H.1
    · exact H.2.all f hf
structure Go0 (r : Result) (J : List Nat) (E : Sto) (cs : List Prop) (X : Ou) : Prop where
  run : RunIs X 0
  rs : X.res = r
  en : J.map X.T.get = E.map some
  cs : X.conds = cs
structure Go1 (C : Code) (J : List Nat) (E : Sto) (cs : List Prop) (X : Ou) : Prop where
  run : RunIs X 1
  cd : X.code = C
  sk : X.stk = []
  en : J.map X.T.get = E.map some
  cs : X.conds = cs
section
variable {w : World} {sums : List SumFn} {fuel lv : Nat} {orc : List Nat} {co : Code} {E : Sto} {Q : Result → Sto → Prop} {X : Nat → Nat → (Nat → Nat) → Ou} {J : List Nat} {E' : Nat → Nat → (Nat → Nat) → Sto} {cs : Nat → Nat → (Nat → Nat) → List Prop}
theorem mkW_ok {h : Heap} (S : St w h E) (hs : ∀ f ∈ sums, SumOk w f) : (mkW w.params (bOf w) (ktop w.params) theProg sums).Ok w h E.ad := ⟨rfl, normP_eq rfl, rfl, rfl, S.tops, S.sz, S.lo, hs⟩
theorem Ends.run (hX : ∀ n t σ, X n t σ = goC (mkW w.params (bOf w) (ktop w.params) theProg sums) fuel lv co E n t σ orc) (hc : co.isCaller = false) (hs : SOk w sums)
    (ha : ∀ n t σ, 152 ≤ n → ((∃ k, RunIs (X n t σ) k) ∧ AllP (X n t σ).conds))
    (H : ∀ n t σ, 152 ≤ n → ∀ A h g d os R, Room A (6 * lv + 6) → St w h E → h.objs.size = n → (∀ r h' t' E', Q r E' → St w h' E' → Grow E E' h h' → R r ⟨h', g, d, t', os⟩) → Aft w E.ad h g d os A R (X n t σ)) : Ends w lv co E Q := by
  intro A h g d t os R hA S hR
  have O := mkW_ok S hs.all
  have hU := hA.under hc
  refine codeAny_of_tree (denQ_sound (by have := hU.2; omega) (by have := hU.2; omega) (wpAny_mono (go_sound g d os A R O fuel lv (denQ co) [] (ofL E 0 .nil) E.length h.objs.size 0 t 0 orc [] [] _ h (fun σ => ?_) (Rp.start S) rfl hU hA) (fun f s' x => ?_) (fun _ _ x => x)))
  · show Fine _ _ _ _ _ _ _ _ (goC (mkW w.params (bOf w) (ktop w.params) theProg sums) fuel lv co E h.objs.size t σ orc)
    rw [← hX]
    obtain ⟨⟨k, r⟩, c⟩ := ha h.objs.size t σ S.sz
    exact ⟨H _ t σ S.sz A h g d os R hA S rfl hR, r.eqs, acs_ok r c⟩
  · cases f <;> exact x
theorem Ends.fin {r : Nat → Nat → (Nat → Nat) → Result} (hX : ∀ n t σ, X n t σ = goC (mkW w.params (bOf w) (ktop w.params) theProg sums) fuel lv co E n t σ orc) (hc : co.isCaller = false) (hs : SOk w sums)
    (F : ∀ n t σ, Go0 (r n t σ) J (E' n t σ) (cs n t σ) (X n t σ)) (hJ : J.Nodup) (ha : ∀ n t σ, 152 ≤ n → AllP (cs n t σ)) (H : ∀ n t σ, 152 ≤ n → Q (r n t σ) (E' n t σ)) : Ends w lv co E Q := by
  refine Ends.run hX hc hs (fun n t σ hn => ⟨⟨0, (F n t σ).run⟩, by rw [(F n t σ).cs]; exact ha n t σ hn⟩) fun n t σ hn A h g d os R hA S hz hR => ?_
  have f := F n t σ
  generalize X n t σ = Y at f
  obtain ⟨r, rs, en, -⟩ := f
  cases Y with
  | fin r' T m n' c t' i e a =>
    intro h' D hs'
    obtain ⟨S', N⟩ := St.of (mkW_ok S hs.all) D hJ en
    cases rs
    exact hR _ _ _ _ (H _ t σ hn) S' ⟨D.ext, N⟩
  | cut => cases r.kind
  | bad => cases r.kind
theorem tree_fin {r : Result} {E'' : Sto} {c : List Prop} {A A' : Around} {h : Heap} {g : Array GenState} {d : Drawn} {t : Nat} {os : OsState} {R : Result → Shared → Prop} {tr : Sem Fin} {Y : (Nat → Nat) → Ou}
    (hX : ∀ σ, Y σ = goT (mkW w.params (bOf w) (ktop w.params) theProg sums) fuel lv tr E h.objs.size t σ orc) (hs : SOk w sums) (S : St w h E) (hA : Room A (6 * lv + 6)) (hA' : Room A' (6 * lv)) (F : ∀ σ, Go0 r J E'' c (Y σ)) (hJ : J.Nodup) (hc : AllP c)
    (hR : ∀ h' t', St w h' E'' → Grow E E'' h h' → R r ⟨h', g, d, t', os⟩) : wpAny (model theProg w) A' tr (FinP theProg w A R) (ErrP R) ⟨h, g, d, t, os⟩ := by
  have O := mkW_ok S hs.all
  refine go_sound g d os A R O fuel lv tr [] (ofL E 0 .nil) E.length h.objs.size 0 t 0 orc [] [] _ h (fun σ => ?_) (Rp.start S) rfl hA' hA
  show Fine _ _ _ _ _ _ _ _ (goT (mkW w.params (bOf w) (ktop w.params) theProg sums) fuel lv tr E h.objs.size t σ orc)
  rw [← hX]
  have f := F σ
  refine ⟨?_, f.run.eqs, acs_ok f.run (by rw [f.cs]; exact hc)⟩
  generalize Y σ = Z at f
  obtain ⟨k, rs, en, -⟩ := f
  cases Z with
  | fin r' T m n' c t' i e a =>
    intro h' D hs'
    obtain ⟨S', N⟩ := St.of O D hJ en
    cases rs
    exact hR h' _ S' ⟨D.ext, N⟩
  | cut => cases k.kind
  | bad => cases k.kind
theorem Ends.turn {C : Nat → Nat → (Nat → Nat) → Code} (hX : ∀ n t σ, X n t σ = goC (mkW w.params (bOf w) (ktop w.params) theProg sums) fuel lv co E n t σ orc) (hc : co.isCaller = false) (hs : SOk w sums)
    (F : ∀ n t σ, Go1 (C n t σ) J (E' n t σ) (cs n t σ) (X n t σ)) (hJ : J.Nodup) (ha : ∀ n t σ, 152 ≤ n → AllP (cs n t σ)) (H : ∀ n t σ, 152 ≤ n → Ends w lv (C n t σ) (E' n t σ) Q) : Ends w lv co E Q := by
  refine Ends.run hX hc hs (fun n t σ hn => ⟨⟨1, (F n t σ).run⟩, by rw [(F n t σ).cs]; exact ha n t σ hn⟩) fun n t σ hn A h g d os R hA S hz hR => ?_
  have f := F n t σ
  generalize X n t σ = Y at f
  obtain ⟨r, cd, sk, en, -⟩ := f
  cases Y with
  | cut co' stk lv' T m n' c t' i e a =>
    intro h' fs hfs hRm D hs'
    cases fs with
    | cons p q => rw [← hfs] at sk; cases sk
    | nil =>
      obtain ⟨S', N⟩ := St.of (mkW_ok S hs.all) D hJ en
      cases cd
      exact H _ _ σ hn A h' g d _ os R hA S' fun r h2 t2 E2 q S2 G2 => hR r h2 t2 E2 q S2 (Grow.trans ⟨D.ext, N⟩ G2)
  | fin => cases r.kind
  | bad => cases r.kind
theorem Ends.mono {Q' : Result → Sto → Prop} (H : Ends w lv co E Q) (hq : ∀ r G, Q r G → Q' r G) : Ends w lv co E Q' := fun A h g d t os R hA S hR => H A h g d t os R hA S fun r h' t' E' q => hR r h' t' E' (hq r E' q)
theorem Ends.lift {lv' : Nat} (H : Ends w lv co E Q) (hl : lv ≤ lv') : Ends w lv' co E Q := fun A h g d t os R hA S hR => H A h g d t os R (hA.mono (by omega)) S hR
theorem Sto.ad_app (E F : Sto) : Sto.ad (E ++ F) = E.ad ++ F.ad := List.map_append
theorem Ends.frame (F : Sto) (H : Ends w lv co E Q) : Ends w lv co (E ++ F) (fun r G => ∃ E', G = E' ++ F ∧ Q r E') := by
  intro A h g d t os R hA S hR
  obtain ⟨tp, sz, at_, nd, lo⟩ := S
  rw [Sto.ad_app] at nd lo
  obtain ⟨n1, n2, n3⟩ := List.nodup_append.mp nd
  have a1 : AllAt h E := AllAt.of fun p hp => at_.get p (List.mem_append_left _ hp)
  have a2 : ∀ p ∈ F, h.get? p.1 = some p.2 := fun p hp => at_.get p (List.mem_append_right _ hp)
  refine H A h g d t os R hA ⟨tp, sz, a1, n1, fun a ha => lo a (List.mem_append_left _ ha)⟩ fun r h' t' E' q S' G => hR r h' t' (E' ++ F) ⟨E', rfl, q⟩ ⟨S'.tops, S'.sz, AllAt.of fun p hp => ?_, ?_, fun a ha => ?_⟩ ⟨?_, fun a ha => ?_⟩
  · rcases List.mem_append.mp hp with z | z
    · exact S'.at_.get p z
    · exact G.ext.1 _ _ (a2 p z) fun y => n3 _ y _ (List.mem_map_of_mem z) rfl
  · rw [Sto.ad_app]
    refine List.nodup_append.mpr ⟨S'.nd, n2, fun a ha b hb e => ?_⟩
    subst e
    rcases G.new a ha with z | z
    · exact n3 a z a hb rfl
    · obtain ⟨p, hp, rfl⟩ := List.mem_map.mp hb
      exact absurd (Heap.lt_size (a2 p hp)) (Nat.not_lt.mpr z)
  · rw [Sto.ad_app] at ha
    exact (List.mem_append.mp ha).elim (S'.lo a) fun z => lo a (List.mem_append_right _ z)
  · rw [Sto.ad_app]
    exact G.ext.mono fun a ha => .inl (List.mem_append_left _ ha)
  · rw [Sto.ad_app] at ha ⊢
    rcases List.mem_append.mp ha with z | z
    · exact (G.new a z).imp_left fun y => List.mem_append_left _ y
    · exact .inl (List.mem_append_right _ z)
theorem Ends.pick {E2 : Sto} (J : List Nat) (hJ : J.Nodup) (e : J.map (fun j => E[j]?) = E2.map some) (H : Ends w lv co E2 Q) : Ends w lv co E Q := by
  intro A h g d t os R hA S hR
  have G := ofL_get E 0 .nil [] rfl (fun i => by simp [PT.get])
  simp only [List.nil_append] at G
  obtain ⟨S', N⟩ := St.of (mkW_ok (sums := []) S (fun _ hm => nomatch hm)) (Rp.start S) hJ (show J.map (ofL E 0 .nil).get = E2.map some by rw [← e]; exact List.map_congr_left fun j _ => G j)
  exact H A h g d t os R hA S' fun r h' t' E' q S2 G2 => hR r h' t' E' q S2 (Grow.trans ⟨(Ext.refl h).mono fun _ hm => (nomatch hm), N⟩ G2)
end
noncomputable def sg (l : List Nat) : Nat → Nat := fun i => l.getD i 0
theorem sg_zero {l : List Nat} (h : l.length ≤ 64) : ∀ i, 64 ≤ i → sg l i = 0 := fun i hi => by
  unfold sg
  rw [List.getD_eq_getElem?_getD, List.getElem?_eq_none (by omega)]
  rfl
end Mine
end
section
open PySem PySem.W PySem.W.X PyProof.Rows
namespace Mine
theorem allP_of : ∀ {l : List Prop}, (∀ p ∈ l, p) → AllP l
  | [], _ => trivial
  | p :: r, H => ⟨H p (.head _), allP_of fun q hq => H q (.tail _ hq)⟩
noncomputable abbrev En := Nat × Nat × Obj
noncomputable def takeE (T : PT) : Nat → List Nat → Option (List En × List Nat)
  | 0, orc => some ([], orc)
  | n + 1, orc => match orc with
    | [] => none
    | j :: orc => match T.get j with
      | none => none
      | some p => match takeE T n orc with
        | none => none
        | some q => some ((j, p.1, p.2) :: q.1, q.2)
theorem takeE_get {T : PT} : ∀ {n : Nat} {orc : List Nat} {es : List En} {o' : List Nat}, takeE T n orc = some (es, o') → es.length = n ∧ ∀ p ∈ es, T.get p.1 = some p.2
  | 0, orc, es, o', h => by cases h; exact ⟨rfl, fun p hp => (nomatch hp)⟩
  | n + 1, orc, es, o', h => by
    unfold takeE at h
    split at h
    · cases h
    · rename_i j orc
      split at h
      · cases h
      · rename_i p hp
        split at h
        · cases h
        · rename_i q hq
          obtain ⟨es', o''⟩ := q
          cases h
          obtain ⟨i1, i2⟩ := takeE_get hq
          exact ⟨by simp [i1], fun r hr => by
            rcases List.mem_cons.mp hr with rfl | hr
            · exact hp
            · exact i2 r hr⟩
noncomputable def eA (es : List En) (i : Nat) : Nat := (es.getD i default).2.1
noncomputable def eO (es : List En) (i : Nat) : Obj := (es.getD i default).2.2
noncomputable def zipW {α β γ : Type} (f : α → β → γ) : List α → List β → List γ
  | [], _ => []
  | a :: l, m => match m with
    | [] => []
    | b :: m => f a b :: zipW f l m
noncomputable def freshIn (a : Nat) : List En → Bool
  | [] => true
  | p :: r => match Nat.beq a p.1 with
    | true => false
    | false => freshIn a r
noncomputable def nodupE : List En → Bool
  | [] => true
  | p :: r => match freshIn p.1 r with
    | true => nodupE r
    | false => false
noncomputable def lenE {α β : Type} : List α → List β → Bool
  | [], m => match m with
    | [] => true
    | _ :: _ => false
  | _ :: l, m => match m with
    | [] => false
    | _ :: m => lenE l m
structure Con (P : Type) where
  lv : Nat
  co : P → Code
  E : P → Sto
  cs : P → List Prop
  res : P → (Nat → Nat) → Result
  E' : P → (Nat → Nat) → Sto
noncomputable def QS (res : (Nat → Nat) → Result) (E' : (Nat → Nat) → Sto) : Result → Sto → Prop := fun r G => ∃ σ : Nat → Nat, (∀ i, 62 ≤ i → σ i = 0) ∧ r = res σ ∧ G = E' σ
theorem sg_z {l : List Nat} (h : l.length ≤ 62) : ∀ i, 62 ≤ i → sg l i = 0 := fun i hi => by
  unfold sg
  rw [List.getD_eq_getElem?_getD, List.getElem?_eq_none (by omega)]
  rfl
noncomputable def two (a b : Nat) (σ : Nat → Nat) : Nat → Nat
  | 0 => a
  | 1 => b
  | i + 2 => σ i
structure Con.Holds {P : Type} (c : Con P) (w : World) : Prop where
  ad : ∀ p σ, ∃ N, Sto.ad (c.E' p σ) = Sto.ad (c.E p) ++ N
  does : ∀ p, AllP (c.cs p) → Ends w c.lv (c.co p) (c.E p) (QS (c.res p) (c.E' p))
noncomputable def sumE {P : Type} (c : Con P) (n : Nat) (get : Code → List En → P) : SumFn := fun lv co T orc => match takeE T n orc with
  | none => none
  | some q => some { ac := { eqs := zipW (fun e p => (e.2.1, p.1)) q.1 (c.E (get co q.1)), oeqs := zipW (fun e p => (e.2.2, p.2)) q.1 (c.E (get co q.1)), ceqs := [(co, c.co (get co q.1))],
                             bs := [Nat.blt c.lv lv, lenE q.1 (c.E (get co q.1)), nodupE q.1], conds := c.cs (get co q.1) }
                     orc := q.2
                     eff := fun σ => { res := c.res (get co q.1) (fun i => σ (i + 2)), upd := zipW (fun e p => (e.1, p.2)) q.1 (c.E' (get co q.1) (fun i => σ (i + 2))), new := (c.E' (get co q.1) (fun i => σ (i + 2))).drop n } }
theorem lenE_iff {α β : Type} : ∀ {l : List α} {m : List β}, lenE l m = true → l.length = m.length
  | [], [], _ => rfl
  | [], _ :: _, h => nomatch h
  | _ :: _, [], h => nomatch h
  | _ :: l, _ :: m, h => congrArg (· + 1) (lenE_iff (l := l) (m := m) h)
theorem freshIn_iff {a : Nat} : ∀ {l : List En}, freshIn a l = true → ∀ p ∈ l, a ≠ p.1
  | [], _, p, hp => nomatch hp
  | q :: r, h, p, hp => by
    unfold freshIn at h
    cases z : Nat.beq a q.1 with
    | true => rw [z] at h; cases h
    | false =>
      rw [z] at h
      rcases List.mem_cons.mp hp with rfl | hp
      · exact Nat.ne_of_beq_eq_false z
      · exact freshIn_iff h p hp
theorem nodupE_iff : ∀ {l : List En}, nodupE l = true → (l.map (·.1)).Nodup
  | [], _ => List.nodup_nil
  | p :: r, h => by
    unfold nodupE at h
    cases z : freshIn p.1 r with
    | false => rw [z] at h; cases h
    | true =>
      rw [z] at h
      refine List.nodup_cons.mpr ⟨fun hm => ?_, nodupE_iff h⟩
      obtain ⟨q, hq, e⟩ := List.mem_map.mp hm
      exact freshIn_iff z q hq e.symm
theorem zip_eq {l : List En} {m : Sto} (h1 : AllE (zipW (fun e p => (e.2.1, p.1)) l m)) (h2 : AllE (zipW (fun e p => (e.2.2, p.2)) l m)) (hl : lenE l m = true) : l.map (·.2) = m := by
  induction l generalizing m with
  | nil =>
    cases m with
    | nil => rfl
    | cons _ _ => cases hl
  | cons e l ih =>
    cases m with
    | nil => cases hl
    | cons p m =>
      unfold AllE at h1 h2
      simp only [zipW, List.map_cons, List.cons.injEq] at h1 h2
      rw [List.map_cons, ih h1.2 h2.2 hl, ← Prod.eta p, ← Prod.eta e.2, h1.1, h2.1]
theorem upd_mem {l : List En} {m : Sto} {J : Nat} {o : Obj} (h : (J, o) ∈ zipW (fun e p => (e.1, p.2)) l m) (he : ∃ N, Sto.ad m = l.map (·.2.1) ++ N) : ∃ e ∈ l, e.1 = J ∧ (e.2.1, o) ∈ m := by
  induction l generalizing m with
  | nil => cases h
  | cons e l ih =>
    cases m with
    | nil => cases h
    | cons p m =>
      obtain ⟨N, hN⟩ := he
      have hN : p.1 :: m.map (·.1) = e.2.1 :: (l.map (·.2.1) ++ N) := hN
      injection hN with n1 n2
      rcases List.mem_cons.mp (show (J, o) ∈ (e.1, p.2) :: zipW _ l m from h) with z | z
      · cases z
        exact ⟨e, .head _, rfl, by rw [← n1]; exact .head _⟩
      · obtain ⟨e', h1, h2, h3⟩ := ih z ⟨N, n2⟩
        exact ⟨e', .tail _ h1, h2, .tail _ h3⟩
theorem es_nd {T : PT} : ∀ {es : List En}, (∀ J J' a o a' o', T.get J = some (a, o) → T.get J' = some (a', o') → J ≠ J' → a ≠ a') → (∀ p ∈ es, T.get p.1 = some p.2) → (es.map (·.1)).Nodup → (es.map (·.2.1)).Nodup
  | [], _, _, _ => List.nodup_nil
  | e :: es, ne, e2, hnd => by
    have hnd : (e.1 :: es.map (·.1)).Nodup := hnd
    rw [List.nodup_cons] at hnd
    refine List.nodup_cons.mpr ⟨fun hm => ?_, es_nd ne (fun p hp => e2 p (.tail _ hp)) hnd.2⟩
    obtain ⟨e', he', z⟩ := List.mem_map.mp hm
    exact ne e'.1 e.1 _ _ _ _ (e2 e' (.tail _ he')) (e2 e (.head _)) (fun x => hnd.1 (x ▸ List.mem_map_of_mem he')) z
theorem addrs_zip {T : PT} {a : Nat} : ∀ {es : List En} {m : Sto}, (∀ p ∈ es, T.get p.1 = some p.2) → es.length ≤ m.length → a ∈ es.map (·.2.1) → a ∈ addrs T (zipW (fun e p => (e.1, p.2)) es m)
  | [], _, _, _, ha => nomatch ha
  | _ :: _, [], _, hl, _ => absurd hl (by simp)
  | e :: es, y :: m, e2, hl, ha => by
    show a ∈ List.filterMap (fun p : Nat × Obj => (T.get p.1).map (·.1)) ((e.1, y.2) :: zipW _ es m)
    rw [List.filterMap_cons]
    dsimp only
    rw [e2 e (.head _)]
    rcases List.mem_cons.mp ha with rfl | ha
    · exact .head _
    · exact .tail _ (addrs_zip (fun p hp => e2 p (.tail _ hp)) (by simpa using hl) ha)
theorem Con.Holds.ok {P : Type} {c : Con P} {w : World} (H : c.Holds w) (n : Nat) (get : Code → List En → P) : SumOk w (sumE c n get) := by
  intro lv co T orc F hF hok A h g d t os R hR D HR
  unfold sumE at hF
  split at hF
  · cases hF
  · rename_i q hq
    obtain ⟨es, o'⟩ := q
    cases hF
    obtain ⟨e1, e2⟩ := takeE_get hq
    obtain ⟨h1, h2, h3, h4, h5⟩ := hok
    dsimp only at h1 h2 h3 h4 h5 HR
    generalize get co es = p at h1 h2 h3 h4 h5 HR
    simp only [List.all_cons, List.all_nil, Bool.and_eq_true, and_true] at h4
    obtain ⟨k1, k2, k3⟩ := h4
    have hE := zip_eq h1 h2 k2
    have hco : co = c.co p := h3.mem (co, c.co p) (.head _)
    have hlv := blt_true k1
    have hEa : Sto.ad (c.E p) = es.map (·.2.1) := by rw [← hE]; show ((es.map (·.2)).map (·.1)) = _; rw [List.map_map]; rfl
    have S : St w h (c.E p) := by
      refine ⟨D.tops, D.sz, AllAt.of fun q hq => ?_, ?_, fun a ha => ?_⟩
      · rw [← hE] at hq
        obtain ⟨e, he, rfl⟩ := List.mem_map.mp hq
        exact D.at_ _ _ _ (e2 e he)
      · rw [hEa]; exact es_nd D.ne e2 (nodupE_iff k3)
      · rw [hEa] at ha
        obtain ⟨e, he, rfl⟩ := List.mem_map.mp ha
        exact D.lo _ _ _ (e2 e he)
    rw [hco]
    refine H.does p (allP_of h5) A h g d t os R (hR.mono (by omega)) S fun r h' t' G q S' gr => ?_
    obtain ⟨σ, hl, rfl, rfl⟩ := q
    obtain ⟨N, hN⟩ := H.ad p σ
    have key := HR (two h'.objs.size t' σ) h' (fun i hi => by
      obtain ⟨j, rfl⟩ : ∃ j, i = j + 2 := ⟨i - 2, by omega⟩
      exact hl j (by omega)) rfl
    rw [show (fun i => two h'.objs.size t' σ (i + 2)) = σ from rfl] at key
    have hlen : es.length ≤ (c.E' p σ).length := by
      have := congrArg List.length (hN.trans (congrArg (· ++ N) hEa))
      simp only [Sto.ad, List.length_map, List.length_append] at this
      omega
    refine key (gr.ext.mono fun a ha => .inl (addrs_zip e2 hlen (hEa ▸ ha))) (fun J o a x hm hT => ?_) ⟨?_, fun y hy => ?_⟩
    · obtain ⟨e, he, rfl, hm'⟩ := upd_mem hm ⟨N, by rw [hN, hEa]⟩
      have z := (e2 e he).symm.trans hT
      injection z with z
      rw [z] at hm'
      exact S'.at_.get _ hm'
    · have : Sto.ad ((c.E' p σ).drop n) = (Sto.ad (c.E' p σ)).drop n := List.map_drop
      show (Sto.ad _).Nodup
      rw [this]
      exact S'.nd.sublist (List.drop_sublist ..)
    · have hd : y ∈ c.E' p σ := List.mem_of_mem_drop hy
      refine ⟨(gr.new y.1 (List.mem_map_of_mem hd)).resolve_left fun z => ?_, S'.at_.get _ hd⟩
      have nd := S'.nd
      rw [hN] at nd
      have hy' : y.1 ∈ Sto.ad ((c.E' p σ).drop n) := List.mem_map_of_mem hy
      rw [show Sto.ad ((c.E' p σ).drop n) = (Sto.ad (c.E' p σ)).drop n from List.map_drop, hN] at hy'
      have hln : (Sto.ad (c.E p)).length = n := by rw [hEa, List.length_map, e1]
      rw [List.drop_append_of_le_length (by omega), List.drop_eq_nil_of_le (by omega), List.nil_append] at hy'
      exact (List.nodup_append.mp nd).2.2 _ z _ hy' rfl
end Mine
end
section
open PySem PySem.W PySem.W.X PyProof.Rows
namespace Mine
noncomputable def lst (vs : List Value) (ep : Nat) : Obj := { cls := .type "list", data := .seq vs.toArray ep }
noncomputable def instOf (d : Nat) : Obj := { cls := .ref 94, dict := some d }
structure LexD where
  (h0 h1 h2 h3 : Int) (k0 k1 k2 k3 lt wt : Tok) (line : Int)
noncomputable def lexD (x : LexD) (st pl : Nat) : Obj := { cls := .type "dict", data := .dict #[⟨x.h0, .str "lineno" x.k0, .int x.line x.lt⟩, ⟨x.h1, .str "instream" x.k1, .ref st⟩, ⟨x.h2, .str "whitespace" x.k2, .str "\n\t\r " x.wt⟩, ⟨x.h3, .str "pushback" x.k3, .ref pl⟩] 4 }
noncomputable def entryAt (o : Obj) (i : Nat) : DictEntry := match o.data with
  | .dict es _ => es.toList.getD i default
  | _ => default
noncomputable def tokV : Value → Tok
  | .int _ t => t
  | .str _ t => t
  | _ => 0
noncomputable def refV : Value → Nat
  | .ref a => a
  | _ => 0
noncomputable def intV : Value → Int
  | .int i _ => i
  | _ => 0
noncomputable def lexOf (o : Obj) : LexD := ⟨(entryAt o 0).hash, (entryAt o 1).hash, (entryAt o 2).hash, (entryAt o 3).hash, tokV (entryAt o 0).key, tokV (entryAt o 1).key, tokV (entryAt o 2).key, tokV (entryAt o 3).key, tokV (entryAt o 0).val, tokV (entryAt o 2).val, intV (entryAt o 0).val⟩
noncomputable def cellOf (v : Value) : Obj := { cls := .type "cell", data := .cell (some v) }
noncomputable def tableOf (vs : List Value) : Obj := { cls := .none, data := .fields vs.toArray }
noncomputable def getV (o : Obj) : List Value := match o.data with
  | .seq xs _ => xs.toList
  | _ => []
noncomputable def epO (o : Obj) : Nat := match o.data with
  | .seq _ e => e
  | _ => 0
noncomputable def sOf : Value → Str
  | .str s _ => s
  | _ => ⟨#[]⟩
noncomputable def argsOf : Code → List Value
  | .call _ a => a.pos
  | _ => []
structure VOp where
  id : String
  n : Nat
  ac : List Value → List En → Ac
  val : List Value → List En → Nat → Value
noncomputable def posOf : Code → List Value
  | .builtin _ a => a.pos
  | _ => []
noncomputable def VOp.acc (o : VOp) (co : Code) (es : List En) : Ac :=
  { eqs := (o.ac (posOf co) es).eqs, oeqs := (o.ac (posOf co) es).oeqs, ceqs := (co, .builtin o.id ⟨posOf co, []⟩) :: (o.ac (posOf co) es).ceqs, bs := (o.ac (posOf co) es).bs, conds := (o.ac (posOf co) es).conds }
theorem allE_cons {α : Type} {a b : α} {l : List (α × α)} (h : AllE ((a, b) :: l)) : a = b ∧ AllE l := by
  unfold AllE at h
  simp only [List.map_cons, List.cons.injEq] at h
  exact h
theorem allE1 {α : Type} {a b : α} (h : AllE [(a, b)]) : a = b := (allE_cons h).1
theorem allE2 {α : Type} {a b c d : α} (h : AllE [(a, b), (c, d)]) : a = b ∧ c = d := ⟨(allE_cons h).1, allE1 (allE_cons h).2⟩
theorem all2 {a b : Bool} (h : [a, b].all (fun b => b) = true) : a = true ∧ b = true := by simpa using h
theorem all1 {a : Bool} (h : [a].all (fun b => b) = true) : a = true := by simpa using h
noncomputable def sV (o : VOp) : SumFn := fun lv co T orc => match takeE T o.n orc with
  | none => none
  | some q => some { ac := o.acc co q.1, orc := q.2, eff := fun σ => { res := .ok (.ret (o.val (posOf co) q.1 (σ 2))) } }
structure VOp.Good (o : VOp) (w : World) : Prop where
  does : ∀ args es A h g d t os, es.length = o.n → (o.ac args es).ok → (∀ p ∈ es, h.get? p.2.1 = some p.2.2) → Does w A (.builtin o.id ⟨args, []⟩) ⟨h, g, d, t, os⟩ (fun r h' => h' = h ∧ ∃ k, r = .ok (.ret (o.val args es k)))
theorem newly_nil {h h' : Heap} : Newly h h' [] := ⟨by simp, fun _ hp => (nomatch hp)⟩
theorem sV_ok {w : World} {o : VOp} (G : o.Good w) : SumOk w (sV o) := by
  intro lv co T orc F hF hok A h g d t os R hR D HR
  unfold sV at hF
  split at hF
  · cases hF
  · rename_i q hq
    cases hF
    obtain ⟨e1, e2⟩ := takeE_get hq
    obtain ⟨h1, h2, h3, h4, h5⟩ := hok
    obtain ⟨c1, c2⟩ := allE_cons h3
    rw [c1]
    refine G.does (posOf co) q.1 A h g d t os e1 ⟨h1, h2, c2, h4, h5⟩ (fun p hp => D.at_ _ _ _ (e2 p hp)) R fun r h' t' P => ?_
    obtain ⟨rfl, k, rfl⟩ := P
    exact HR (sg [h'.objs.size, t', k]) h' (sg_zero (by simp)) rfl ((Ext.refl h').mono fun _ hm => (nomatch hm)) (fun _ _ _ _ hm => (nomatch hm)) newly_nil
theorem does_made {w : World} {A : Around} {id : String} {B : Builtin} {args : Args} {m : Made} {h : Heap} {g : Array GenState} {d : Drawn} {t : Nat} {os : OsState} {Post : Result → Heap → Prop}
    (entry : entryFor table id = some B) (plain : plainId id = true) (G : Gives (B args) m) (hp : ∀ (R : Result → Shared → Prop), (∀ r h' t', Post r h' → R r ⟨h', g, d, t', os⟩) → m.post (fun v s' => R (.ok (.ret v)) s') ⟨h, g, d, t, os⟩) :
    Does w A (.builtin id args) ⟨h, g, d, t, os⟩ Post := by
  intro R H
  refine codeAny_builtin entry ?_
  rw [Around.under_plainId plain]
  exact G _ _ A R _ (hp R H)
theorem does_int {w : World} {A : Around} {id : String} {B : Builtin} {args : Args} {i : Int} {h : Heap} {g : Array GenState} {d : Drawn} {t : Nat} {os : OsState}
    (entry : entryFor table id = some B) (plain : plainId id = true) (G : Gives (B args) (.int i)) :
    Does w A (.builtin id args) ⟨h, g, d, t, os⟩ (fun r h' => h' = h ∧ ∃ k, r = .ok (.ret (.int i k))) :=
  does_made entry plain G fun R H => H _ _ _ ⟨rfl, _, rfl⟩
theorem does_val {w : World} {A : Around} {id : String} {B : Builtin} {args : Args} {v : Value} {h : Heap} {g : Array GenState} {d : Drawn} {t : Nat} {os : OsState}
    (entry : entryFor table id = some B) (plain : plainId id = true) (G : Gives (B args) (.val v)) :
    Does w A (.builtin id args) ⟨h, g, d, t, os⟩ (fun r h' => h' = h ∧ r = .ok (.ret v)) :=
  does_made entry plain G fun R H => H _ _ _ ⟨rfl, rfl⟩
noncomputable def i0 (as : List Value) : Int := intV (as.getD 0 .none)
noncomputable def i1 (as : List Value) : Int := intV (as.getD 1 .none)
noncomputable def tk0 (as : List Value) : Tok := tokV (as.getD 0 .none)
noncomputable def tk1 (as : List Value) : Tok := tokV (as.getD 1 .none)
noncomputable def isInts2 : List Value → Bool
  | [.int _ _, .int _ _] => true
  | _ => false
noncomputable def isInts1 : List Value → Bool
  | [.int _ _] => true
  | _ => false
theorem isInts2_eq {as : List Value} (h : isInts2 as = true) : ∃ a t b u, as = [.int a t, .int b u] := by
  unfold isInts2 at h
  split at h
  · exact ⟨_, _, _, _, rfl⟩
  · cases h
theorem isInts1_eq {as : List Value} (h : isInts1 as = true) : ∃ a t, as = [.int a t] := by
  unfold isInts1 at h
  split at h
  · exact ⟨_, _, rfl⟩
  · cases h
noncomputable def iop2 (id : String) (bs : Int → Int → List Bool) (cs : Int → Int → List Prop) (v : Int → Int → Nat → Value) : VOp :=
  { id, n := 0, ac := fun as _ => { bs := isInts2 as :: bs (i0 as) (i1 as), conds := cs (i0 as) (i1 as) }, val := fun as _ k => v (i0 as) (i1 as) k }
noncomputable def iop1 (id : String) (bs : Int → List Bool) (cs : Int → List Prop) (v : Int → Nat → Value) : VOp :=
  { id, n := 0, ac := fun as _ => { bs := isInts1 as :: bs (i0 as), conds := cs (i0 as) }, val := fun as _ k => v (i0 as) k }
theorem iop2_good {w : World} {id : String} {bs : Int → Int → List Bool} {cs : Int → Int → List Prop} {v : Int → Int → Nat → Value} {B : Builtin} (entry : entryFor table id = some B) (plain : plainId id = true)
    (G : ∀ a t b u, (bs a b).all (fun b => b) = true → (∀ p ∈ cs a b, p) → (∃ i, Gives (B ⟨[.int a t, .int b u], []⟩) (.int i) ∧ ∀ k, v a b k = .int i k) ∨ (∃ x, Gives (B ⟨[.int a t, .int b u], []⟩) (.val x) ∧ ∀ k, v a b k = x)) : (iop2 id bs cs v).Good w := by
  refine ⟨fun as es A h g d t os hl hok hg => ?_⟩
  obtain ⟨-, -, -, h4, h5⟩ := hok
  dsimp only [iop2] at h4 h5 ⊢
  rw [List.all_cons, Bool.and_eq_true] at h4
  obtain ⟨a, t1, b, u, rfl⟩ := isInts2_eq h4.1
  rcases G a t1 b u h4.2 h5 with ⟨i, gi, hv⟩ | ⟨x, gx, hv⟩
  · exact (does_int entry plain gi).mono fun r h' P => ⟨P.1, by obtain ⟨_, k, rfl⟩ := P; exact ⟨k, by rw [← hv k]; rfl⟩⟩
  · exact (does_val entry plain gx).mono fun r h' P => ⟨P.1, by obtain ⟨_, rfl⟩ := P; exact ⟨0, by rw [← hv 0]; rfl⟩⟩
theorem iop1_good {w : World} {id : String} {bs : Int → List Bool} {cs : Int → List Prop} {v : Int → Nat → Value} {B : Builtin} (entry : entryFor table id = some B) (plain : plainId id = true)
    (G : ∀ a t, (bs a).all (fun b => b) = true → (∀ p ∈ cs a, p) → (∃ i, Gives (B ⟨[.int a t], []⟩) (.int i) ∧ ∀ k, v a k = .int i k) ∨ (∃ x, Gives (B ⟨[.int a t], []⟩) (.val x) ∧ ∀ k, v a k = x)) : (iop1 id bs cs v).Good w := by
  refine ⟨fun as es A h g d t os hl hok hg => ?_⟩
  obtain ⟨-, -, -, h4, h5⟩ := hok
  dsimp only [iop1] at h4 h5 ⊢
  rw [List.all_cons, Bool.and_eq_true] at h4
  obtain ⟨a, t1, rfl⟩ := isInts1_eq h4.1
  rcases G a t1 h4.2 h5 with ⟨i, gi, hv⟩ | ⟨x, gx, hv⟩
  · exact (does_int entry plain gi).mono fun r h' P => ⟨P.1, by obtain ⟨_, k, rfl⟩ := P; exact ⟨k, by rw [← hv k]; rfl⟩⟩
  · exact (does_val entry plain gx).mono fun r h' P => ⟨P.1, by obtain ⟨_, rfl⟩ := P; exact ⟨0, by rw [← hv 0]; rfl⟩⟩
theorem code_meets {w : World} {A : Around} {id : String} {B : Builtin} {args : Args} {S : PySem.Spec} {R : Result → Shared → Prop} {s : Shared} (entry : entryFor table id = some B) (plain : plainId id = true) (g : Meets (B args) S) (h : S A R s) :
    codeAny (model theProg w) A (.builtin id args) R s := by
  refine codeAny_builtin entry ?_
  rw [Around.under_plainId plain]
  exact g _ _ A R s h
theorem Ends.of {w : World} {lv : Nat} {co : Code} {E : Sto} {res : (Nat → Nat) → Result} {E' : (Nat → Nat) → Sto}
    (H : ∀ A h g d t os, Room A (6 * lv + 6) → St w h E → Does w A co ⟨h, g, d, t, os⟩ (fun r h' => ∃ l : List Nat, l.length ≤ 62 ∧ r = res (sg l) ∧ Ext E.ad h h' ∧ AllAt h' (E' (sg l)) ∧ ∃ N, Sto.ad (E' (sg l)) = E.ad ++ N ∧ N.Nodup ∧ ∀ a ∈ N, h.objs.size ≤ a)) :
    Ends w lv co E (QS res E') := by
  intro A h g d t os R hA S hR
  refine H A h g d t os hA S R fun r h' t' P => ?_
  obtain ⟨l, hl, rfl, e, at', N, hN, nd, lo⟩ := P
  have old : ∀ a ∈ E.ad, a < h.objs.size := fun a ha => by
    obtain ⟨p, hp, rfl⟩ := List.mem_map.mp ha
    exact Heap.lt_size (S.at_.get p hp)
  refine hR _ h' t' _ ⟨sg l, sg_z hl, rfl, rfl⟩ ⟨e.tops' S.tops S.lo, Nat.le_trans S.sz e.2, at', ?_, fun a ha => ?_⟩ ⟨e, fun a ha => ?_⟩
  · rw [hN]
    exact List.nodup_append.mpr ⟨S.nd, nd, fun a ha b hb q => absurd (old a ha) (Nat.not_lt.mpr (q ▸ lo b hb))⟩
  · rw [hN] at ha
    exact (List.mem_append.mp ha).elim (S.lo a) fun z => .inl (Nat.le_trans S.sz (lo a z))
  · rw [hN] at ha
    exact (List.mem_append.mp ha).elim .inl fun z => .inr (lo a z)
theorem Ends.one {w : World} {lv : Nat} {co : Code} {a : Nat} {o : Obj} {res : (Nat → Nat) → Result} {o' : (Nat → Nat) → Obj}
    (H : ∀ A h g d t os, Room A (6 * lv + 6) → h.get? a = some o → Does w A co ⟨h, g, d, t, os⟩ (fun r h' => ∃ l : List Nat, l.length ≤ 62 ∧ r = res (sg l) ∧ Ext [a] h h' ∧ h'.get? a = some (o' (sg l)))) :
    Ends w lv co [(a, o)] (QS res (fun σ => [(a, o' σ)])) :=
  Ends.of fun A h g d t os hA S => (H A h g d t os hA S.at_.1).mono fun r h' P => by
    obtain ⟨l, hl, hr, e, q⟩ := P
    exact ⟨l, hl, hr, e, ⟨q, trivial⟩, [], rfl, List.nodup_nil, fun _ hm => (nomatch hm)⟩
end Mine
end
section
open PySem PySem.W PySem.W.X PyProof.Rows
namespace Mine
noncomputable def posB : Int → Bool
  | .ofNat (_ + 1) => true
  | _ => false
theorem posB_pos {a : Int} (h : posB a = true) : 0 < a := by
  unfold posB at h
  split at h
  · rename_i n; show (0 : Int) < ((n + 1 : Nat) : Int); omega
  · cases h
noncomputable def nnB : Int → Bool
  | .ofNat _ => true
  | _ => false
theorem nnB_nn {a : Int} (h : nnB a = true) : 0 ≤ a := by
  unfold nnB at h
  split at h
  · exact Int.natCast_nonneg _
  · cases h
noncomputable def smallB (a : Int) : Bool := Nat.blt a.natAbs 1024
theorem smallB_lt {a : Int} (h : smallB a = true) : a.natAbs < 1024 := blt_true h
theorem bits_small {a : Int} (h : a.natAbs < 1024) : Builtin.Int.intBits a ≤ 64 := intBits_le_64 (by omega) (by omega)
noncomputable def opMod : VOp := iop2 "int.__mod__" (fun a b => [posB b]) (fun a b => []) (fun a b k => .int (a % b) k)
noncomputable def opModL (r : Int) : VOp := iop2 "int.__mod__" (fun a b => []) (fun a b => [0 < b ∧ a % b = r]) (fun a b k => .int r k)
noncomputable def opModS : VOp := iop2 "int.__mod__" (fun a b => []) (fun a b => [0 < b]) (fun a b k => .int (a % b) k)
noncomputable def opMul : VOp := iop2 "int.__mul__" (fun a b => [smallB a]) (fun a b => []) (fun a b k => .int (a * b) k)
noncomputable def opMulR : VOp := iop2 "int.__mul__" (fun a b => [smallB b]) (fun a b => []) (fun a b k => .int (a * b) k)
noncomputable def opMulS : VOp := iop2 "int.__mul__" (fun a b => []) (fun a b => [b.natAbs < 1024]) (fun a b k => .int (a * b) k)
noncomputable def opDivL (r : Int) : VOp := iop2 "int.__floordiv__" (fun a b => []) (fun a b => [0 < b ∧ b < 1024 ∧ a / b = r]) (fun a b k => .int r k)
noncomputable def opBits (bl : Int → Int) : VOp := iop1 "int.bit_length" (fun a => []) (fun a => []) (fun a k => .int (bl a) k)
noncomputable def opShrB : VOp := iop2 "int.__rshift__" (fun a b => [nnB a, nnB b]) (fun a b => []) (fun a b k => .int (a / 2 ^ b.toNat) k)
noncomputable def opShr : VOp := iop2 "int.__rshift__" (fun a b => []) (fun a b => [0 ≤ a ∧ 0 ≤ b]) (fun a b k => .int (a / 2 ^ b.toNat) k)
noncomputable def opShl : VOp := iop2 "int.__lshift__" (fun a b => []) (fun a b => [0 ≤ a ∧ a < 2 ^ 64 ∧ 0 ≤ b ∧ b < 64]) (fun a b k => .int (a * 2 ^ b.toNat) k)
noncomputable def opXor (xr : Int → Int → Int) : VOp := iop2 "int.__xor__" (fun a b => []) (fun a b => []) (fun a b k => .int (xr a b) k)
noncomputable def opBoolL (r : Bool) : VOp := iop1 "int.__bool__" (fun a => []) (fun a => [(a ≠ 0) = (r = true)]) (fun a k => .bool r)
noncomputable def opEqL (r : Bool) : VOp := iop2 "int.__eq__" (fun a b => []) (fun a b => [(a = b) = (r = true)]) (fun a b k => .bool r)
noncomputable def opNeL (r : Bool) : VOp := iop2 "int.__ne__" (fun a b => []) (fun a b => [(a ≠ b) = (r = true)]) (fun a b k => .bool r)
noncomputable def opLtL (r : Bool) : VOp := iop2 "int.__lt__" (fun a b => []) (fun a b => [(a < b) = (r = true)]) (fun a b k => .bool r)
noncomputable def opLeL (r : Bool) : VOp := iop2 "int.__le__" (fun a b => []) (fun a b => [(a ≤ b) = (r = true)]) (fun a b k => .bool r)
noncomputable def opGeL (r : Bool) : VOp := iop2 "int.__ge__" (fun a b => []) (fun a b => [(a ≥ b) = (r = true)]) (fun a b k => .bool r)
section
variable {w : World}
theorem fmod_pos {a b : Int} (h : 0 < b) : a.fmod b = a % b := Int.fmod_eq_emod_of_nonneg a (Int.le_of_lt h)
theorem opMod_good : opMod.Good w := iop2_good F.entry_int_mod (by decide +kernel) fun a t b u hb hc => by
  have := posB_pos (all1 hb)
  exact .inl ⟨_, AutoIntG6.int___mod___int_int_1 a t b u (by simp; omega), fun k => by rw [fmod_pos this]⟩
theorem opModL_good {r : Int} : (opModL r).Good w := iop2_good F.entry_int_mod (by decide +kernel) fun a t b u hb hc => by
  obtain ⟨h1, h2⟩ := hc _ (.head _)
  exact .inl ⟨_, AutoIntG6.int___mod___int_int_1 a t b u (by simp; omega), fun k => by rw [fmod_pos h1, h2]⟩
theorem opModS_good : opModS.Good w := iop2_good F.entry_int_mod (by decide +kernel) fun a t b u hb hc => by
  have h1 : 0 < b := hc _ (.head _)
  exact .inl ⟨_, AutoIntG6.int___mod___int_int_1 a t b u (by simp; omega), fun k => by rw [fmod_pos h1]⟩
theorem opMul_good : opMul.Good w := iop2_good F.entry_int_mul (by decide +kernel) fun a t b u hb hc =>
  .inl ⟨_, AutoIntG1.int___mul___int_int_0 a t b u (.of_left (bits_small (smallB_lt (all1 hb)))), fun k => rfl⟩
theorem opMulR_good : opMulR.Good w := iop2_good F.entry_int_mul (by decide +kernel) fun a t b u hb hc =>
  .inl ⟨_, AutoIntG1.int___mul___int_int_0 a t b u (.of_right (bits_small (smallB_lt (all1 hb)))), fun k => rfl⟩
theorem opMulS_good : opMulS.Good w := iop2_good F.entry_int_mul (by decide +kernel) fun a t b u hb hc =>
  .inl ⟨_, AutoIntG1.int___mul___int_int_0 a t b u (.of_right (bits_small (hc _ (.head _)))), fun k => rfl⟩
theorem no_pylong {a b : Int} (h : b.natAbs < 1024) : ¬ (Builtin.divisionGoesByPylong a b) = true := by
  unfold Builtin.divisionGoesByPylong
  have : (if b == 0 then 0 else b.natAbs.log2 / 30 + 1) ≤ 300 := by
    split
    · omega
    · rename_i h0
      have : b.natAbs ≠ 0 := by simpa using h0
      have := (Nat.log2_lt this (k := 10)).mpr h
      omega
  simp only [decide_eq_true_eq, Bool.and_eq_true, not_and]
  intro q
  exact absurd q (by omega)
theorem opDivL_good {r : Int} : (opDivL r).Good w := iop2_good F.entry_int_floordiv (by decide +kernel) fun a t b u hb hc => by
  obtain ⟨h1, h2, h3⟩ := hc _ (.head _)
  exact .inl ⟨_, AutoIntG4.int___floordiv___int_int_1 a t b u (by simp; omega) (no_pylong (by omega)), fun k => by rw [← h3, Int.fdiv_eq_ediv_of_nonneg _ (Int.le_of_lt h1)]⟩
theorem opBits_good : (opBits (fun a => ((Builtin.Int.intBits a : Nat) : Int))).Good w := iop1_good F.entry_int_bit_length (by decide +kernel) fun a t hb hc =>
  .inl ⟨_, AutoIntG2.int_bit_length_int_0 a t, fun k => rfl⟩
theorem lt_two_pow_bits (a : Int) : a.natAbs < 2 ^ (Builtin.Int.intBits a) := by
  unfold Builtin.Int.intBits
  split
  · rename_i h; have : a = 0 := by simpa using h
    subst this; decide
  · exact Nat.lt_log2_self
theorem gives_shr (a : Int) (t : Tok) (b : Int) (u : Tok) (ha : 0 ≤ a) (hb : 0 ≤ b) : Gives (Builtin.«int.__rshift__» ⟨[.int a t, .int b u], []⟩) (.int (a / 2 ^ b.toNat)) := by
  have hp : (0 : Int) < 2 ^ b.toNat := Int.pow_pos (by decide)
  by_cases q : b ≥ ((Builtin.Int.intBits a : Nat) : Int)
  · have := AutoIntG9.int___rshift___int_int_1 a t b u (by omega) q
    have e : a / 2 ^ b.toNat = if a < 0 then -1 else 0 := by
      rw [if_neg (by omega)]
      refine Int.ediv_eq_zero_of_lt ha ?_
      have h1 := lt_two_pow_bits a
      have h2 : 2 ^ Builtin.Int.intBits a ≤ 2 ^ b.toNat := Nat.pow_le_pow_right (by decide) (by omega)
      have h3 : a.natAbs < 2 ^ b.toNat := by omega
      have h4 : ((2 ^ b.toNat : Nat) : Int) = (2 : Int) ^ b.toNat := by push_cast; rfl
      omega
    rw [e]; exact this
  · have := AutoIntG0.int___rshift___int_int_2 a t b u (by omega) q
    rw [Int.fdiv_eq_ediv_of_nonneg _ (Int.le_of_lt hp)] at this
    exact this
theorem opShr_good : opShr.Good w := iop2_good F.entry_int_rshift (by decide +kernel) fun a t b u hb hc => by
  obtain ⟨h1, h2⟩ := hc _ (.head _)
  exact .inl ⟨_, gives_shr a t b u h1 h2, fun k => rfl⟩
theorem opShrB_good : opShrB.Good w := iop2_good F.entry_int_rshift (by decide +kernel) fun a t b u hb hc => by
  obtain ⟨h1, h2⟩ := all2 hb
  exact .inl ⟨_, gives_shr a t b u (nnB_nn h1) (nnB_nn h2), fun k => rfl⟩
theorem gives_shl (a : Int) (t : Tok) (n : Int) (u : Tok) (ha : a.natAbs < 2 ^ 64) (hn : 0 ≤ n) (hn2 : n < 64) : Gives (Builtin.«int.__lshift__» ⟨[.int a t, .int n u], []⟩) (.int (a * 2 ^ n.toNat)) := by
  have hb : Builtin.Int.intBits a ≤ 64 := intBits_le_64 (by omega) (by omega)
  refine .of_wp fun M A E s Q h => ?_
  obtain ⟨hp, g, d, tk, os⟩ := s
  show wpAny _ _ (if n < 0 then _ else _) _ _ _
  rw [if_neg (by omega)]
  show wpAny _ _ (if (a == 0) = true then _ else _) _ _ _
  by_cases h0 : a = 0
  · rw [if_pos (by simpa using h0)]
    have e : a * 2 ^ n.toNat = 0 := by subst h0; exact Int.zero_mul _
    rw [e] at h
    repeat (first | refine wpAny_pure ?_ | refine wpAny_mkInt ?_ | refine wpAny_rule ?_ | refine wpAny_bind ?_)
    exact ⟨_, rfl, h⟩
  rw [if_neg (by simpa using h0)]
  have h3 : ¬ (((Builtin.Int.intBits a : Int) + 29) / 30 + n / 30 + (if n % 30 == 0 then 0 else 1) > Builtin.maxDigits) := by
    unfold Builtin.maxDigits
    split <;> omega
  show wpAny _ _ (if ((Builtin.Int.intBits a : Int) + 29) / 30 + n / 30 + (if n % 30 == 0 then 0 else 1) > Builtin.maxDigits then _ else _) _ _ _
  rw [if_neg h3]
  have hbig : Builtin.Int.intTooBig ((Builtin.Int.intBits a : Int) + n) = false := decide_eq_false (Int.not_lt.mpr (by unfold bitsLine; omega))
  show wpAny _ _ (if Builtin.Int.intTooBig ((Builtin.Int.intBits a : Int) + n) = true then _ else _) _ _ _
  rw [if_neg (by rw [hbig]; exact Bool.false_ne_true)]
  repeat (first | refine wpAny_pure ?_ | refine wpAny_mkInt ?_ | refine wpAny_rule ?_ | refine wpAny_bind ?_)
  exact ⟨_, rfl, h⟩
theorem opShl_good : opShl.Good w := iop2_good F.entry_int_lshift (by decide +kernel) fun a t b u hb hc => by
  obtain ⟨h1, h2, h3, h4⟩ := hc _ (.head _)
  exact .inl ⟨_, gives_shl a t b u (by omega) h3 h4, fun k => rfl⟩
theorem gives_xor (a : Int) (t : Tok) (b : Int) (u : Tok) : Gives (Builtin.«int.__xor__» ⟨[.int a t, .int b u], []⟩) (.int (Builtin.bitXor a b)) :=
  .of_wp fun M A E s Q h => show wpAny _ _ (do ret (← mkInt (Builtin.bitXor a b))) _ _ s from wpAny_bind (wpAny_mkInt (wpAny_pure ⟨_, rfl, h⟩))
theorem opXor_good : (opXor Builtin.bitXor).Good w := iop2_good F.entry_int_xor (by decide +kernel) fun a t b u hb hc =>
  .inl ⟨_, gives_xor a t b u, fun k => rfl⟩
theorem opBoolL_good {r : Bool} : (opBoolL r).Good w := iop1_good F.entry_int_bool (by decide +kernel) fun a t hb hc => by
  have h := hc _ (.head _)
  have e : (a != 0) = r := by rw [Bool.eq_iff_iff]; simp; exact iff_of_eq h
  exact .inr ⟨_, AutoIntG0.int___bool___int_0 a t, fun k => by show _ = Value.bool (a != 0); rw [e]⟩
theorem opEqL_good {r : Bool} : (opEqL r).Good w := iop2_good F.entry_int_eq (by decide +kernel) fun a t b u hb hc => by
  have h := hc _ (.head _)
  have e : (a == b) = r := by rw [Bool.eq_iff_iff]; simp; exact iff_of_eq h
  exact .inr ⟨_, AutoIntG7.int___eq___int_int_0 a t b u, fun k => by show _ = Value.bool (a == b); rw [e]⟩
theorem opNeL_good {r : Bool} : (opNeL r).Good w := iop2_good F.entry_int_ne (by decide +kernel) fun a t b u hb hc => by
  have h := hc _ (.head _)
  have e : (a != b) = r := by rw [Bool.eq_iff_iff]; simp; exact iff_of_eq h
  exact .inr ⟨_, AutoIntG6.int___ne___int_int_0 a t b u, fun k => by show _ = Value.bool (a != b); rw [e]⟩
theorem opLtL_good {r : Bool} : (opLtL r).Good w := iop2_good F.entry_int_lt (by decide +kernel) fun a t b u hb hc => by
  have h := hc _ (.head _)
  have e : decide (a < b) = r := by rw [Bool.eq_iff_iff]; simp; exact iff_of_eq h
  exact .inr ⟨_, AutoIntG1.int___lt___int_int_0 a t b u, fun k => by show _ = Value.bool (decide (a < b)); rw [e]⟩
theorem opLeL_good {r : Bool} : (opLeL r).Good w := iop2_good F.entry_int_le (by decide +kernel) fun a t b u hb hc => by
  have h := hc _ (.head _)
  have e : decide (a ≤ b) = r := by rw [Bool.eq_iff_iff]; simp; exact iff_of_eq h
  exact .inr ⟨_, AutoIntG1.int___le___int_int_0 a t b u, fun k => by show _ = Value.bool (decide (a ≤ b)); rw [e]⟩
theorem opGeL_good {r : Bool} : (opGeL r).Good w := iop2_good F.entry_int_ge (by decide +kernel) fun a t b u hb hc => by
  have h := hc _ (.head _)
  have e : decide (a ≥ b) = r := by rw [Bool.eq_iff_iff]; simp; exact iff_of_eq h
  exact .inr ⟨_, AutoIntG9.int___ge___int_int_0 a t b u, fun k => by show _ = Value.bool (decide (a ≥ b)); rw [e]⟩
end
end Mine
end
section
open PySem PySem.W PySem.W.X PyProof.Rows PySem.SeqAt
namespace Mine
structure ItemIs (vs : List Value) (k : Int) (r : Value) : Prop where
  lo : 0 ≤ k
  fit : k < 2 ^ 63
  item : vs[k.toNat]? = some r
structure ItemV (vs : List Value) (v r : Value) : Prop where
  it : ∃ k t, v = .int k t ∧ ItemIs vs k r
structure LsP where
  (a : Nat) (vs : List Value) (ep : Nat) (v : Value)
noncomputable def LsP.E (p : LsP) : Sto := [(p.a, lst p.vs p.ep)]
noncomputable def gLs (co : Code) (es : List En) : LsP := ⟨refV ((posOf co).getD 0 .none), getV (eO es 0), epO (eO es 0), (posOf co).getD 1 .none⟩
noncomputable def cLs (id : String) (cs : List Value → Value → Prop) (res : List Value → Value → Nat → Value) : Con LsP where
  lv := 0
  co p := .builtin id ⟨[.ref p.a, p.v], []⟩
  E p := p.E
  cs p := [cs p.vs p.v]
  res p σ := .ok (.ret (res p.vs p.v (σ 0)))
  E' p σ := p.E
noncomputable def cItem (r : Value) : Con LsP := cLs "list.__getitem__" (fun vs v => ItemV vs v r) (fun _ _ _ => r)
noncomputable abbrev sItem (r : Value) : SumFn := sumE (cItem r) 1 gLs
structure LenIs (vs : List Value) (ct : Int) : Prop where
  eq : ((vs.length : Nat) : Int) = ct
  le : vs.length ≤ 100000
noncomputable def cLen (ct : Int) : Con LsP := { cLs "len" (fun vs _ => LenIs vs ct) (fun _ _ k => .int ct k) with co := fun p => .builtin "len" ⟨[.ref p.a], []⟩ }
noncomputable abbrev sLen (ct : Int) : SumFn := sumE (cLen ct) 1 gLs
structure CT (vs : List Value) (x : Value) (r : Bool) : Prop where
  ct : ∃ ss y t, StrsAre vs ss ∧ x = .str y t ∧ (decide (y ∈ ss)) = r
noncomputable def cCont (r : Bool) : Con LsP := cLs "list.__contains__" (fun vs x => CT vs x r) (fun _ _ _ => .bool r)
noncomputable abbrev sCont (r : Bool) : SumFn := sumE (cCont r) 1 gLs
structure IX (vs : List Value) (x : Value) (j : Int) : Prop where
  ix : ∃ (ss : List Str) (y : Str) (t : Tok) (k : Nat), StrsAre vs ss ∧ x = .str y t ∧ j = (k : Int) ∧ k < 2 ^ 32 ∧ ss[k]? = some y ∧ ∀ m, m < k → ss[m]? ≠ some y
noncomputable def cIdx (j : Int) : Con LsP := cLs "list.index" (fun vs x => IX vs x j) (fun _ _ k => .int j k)
noncomputable abbrev sIdx (j : Int) : SumFn := sumE (cIdx j) 1 gLs
structure JoinIs (vs : List Value) (tx : Str) : Prop where
  join : ∃ ss, StrsAre vs ss ∧ 2 ≤ ss.length ∧ PySem.Builtin.Str.glued ⟨#[]⟩ ss = tx ∧ PySem.Builtin.Str.tooLong (ss.toArray.foldl (· + ·.length + 0) 0) = false ∧ tx.length ≤ sizeLine
structure JoinV (vs : List Value) (v : Value) (tx : Str) : Prop where
  jn : JoinIs vs tx ∧ ∃ t, v = .str ⟨#[]⟩ t
noncomputable def cJoin (tx : Str) : Con LsP := { cLs "str.join" (fun vs v => JoinV vs v tx) (fun _ _ k => .str tx k) with co := fun p => .builtin "str.join" ⟨[p.v, .ref p.a], []⟩ }
noncomputable def gJn (co : Code) (es : List En) : LsP := ⟨refV ((posOf co).getD 1 .none), getV (eO es 0), epO (eO es 0), (posOf co).getD 0 .none⟩
noncomputable abbrev sJoin (tx : Str) : SumFn := sumE (cJoin tx) 1 gJn
noncomputable def cApp (ap : List Value → Value → List Value) : Con LsP where
  lv := 0
  co p := .builtin "list.append" ⟨[.ref p.a, p.v], []⟩
  E p := p.E
  cs p := [p.vs.length ≤ 100000]
  res p σ := .ok (.ret .none)
  E' p σ := [(p.a, lst (ap p.vs p.v) (σ 0))]
noncomputable abbrev sApp (ap : List Value → Value → List Value) : SumFn := sumE (cApp ap) 1 gLs
noncomputable def apI (vs : List Value) (v : Value) : List Value := vs ++ [v]
structure PopV (vs : List Value) (v : Value) : Prop where
  pv : vs.length ≤ 100000 ∧ ∃ u x r, v = .int 0 u ∧ vs = x :: r
noncomputable def cPop : Con LsP where
  lv := 0
  co p := .builtin "list.pop" ⟨[.ref p.a, p.v], []⟩
  E p := p.E
  cs p := [PopV p.vs p.v]
  res p σ := .ok (.ret (p.vs.headD .none))
  E' p σ := [(p.a, lst p.vs.tail (σ 0))]
noncomputable abbrev sPop0 : SumFn := sumE cPop 1 gLs
structure L2P where
  (a : Nat) (vs : List Value) (ep : Nat) (b : Nat) (us : List Value) (eq : Nat)
noncomputable def L2P.E (p : L2P) : Sto := [(p.a, lst p.vs p.ep), (p.b, lst p.us p.eq)]
noncomputable def gL2 (co : Code) (es : List En) : L2P := ⟨refV ((posOf co).getD 0 .none), getV (eO es 0), epO (eO es 0), refV ((posOf co).getD 1 .none), getV (eO es 1), epO (eO es 1)⟩
structure SameT (vs vs' : List Value) : Prop where
  same : ∃ ss, StrsAre vs ss ∧ StrsAre vs' ss
noncomputable def cL2 (id : String) (r : Bool) : Con L2P where
  lv := 0
  co p := .builtin id ⟨[.ref p.a, .ref p.b], []⟩
  E p := p.E
  cs p := [SameT p.vs p.us]
  res p σ := .ok (.ret (.bool r))
  E' p σ := p.E
noncomputable abbrev sListNe : SumFn := sumE (cL2 "list.__ne__" false) 2 gL2
noncomputable abbrev sListEq : SumFn := sumE (cL2 "list.__eq__" true) 2 gL2
structure CatIs (vs us xs : List Value) : Prop where
  eq : vs ++ us = xs
  le : vs.length + us.length ≤ 100000
noncomputable def cCat (xs : List Value) : Con L2P where
  lv := 0
  co p := .builtin "list.__add__" ⟨[.ref p.a, .ref p.b], []⟩
  E p := p.E
  cs p := [CatIs p.vs p.us xs]
  res p σ := .ok (.ret (.ref (σ 0)))
  E' p σ := [(p.a, lst p.vs p.ep), (p.b, lst p.us p.eq), (σ 0, lst xs 0)]
noncomputable abbrev sCat (xs : List Value) : SumFn := sumE (cCat xs) 2 gL2
noncomputable def tup (vs : List Value) : Obj := { cls := .type "tuple", data := .seq vs.toArray }
noncomputable def fldF (o : Obj) (i : Nat) : Value := match o.data with
  | .fields xs => xs.toList.getD i .none
  | _ => .none
noncomputable def itemV (o : Obj) (i : Nat) : Value := (getV o).getD i .none
structure T2P where
  (a : Nat) (x y : Int) (k l : Tok) (b : Nat) (x' y' : Int) (k' l' : Tok)
noncomputable def T2P.E (p : T2P) : Sto := [(p.a, tup [.int p.x p.k, .int p.y p.l]), (p.b, tup [.int p.x' p.k', .int p.y' p.l'])]
structure PairEq (x y x' y' : Int) : Prop where
  h1 : x = x'
  h2 : y = y'
noncomputable def cTupNe : Con T2P where
  lv := 0
  co p := .builtin "tuple.__ne__" ⟨[.ref p.a, .ref p.b], []⟩
  E p := p.E
  cs p := [PairEq p.x p.y p.x' p.y']
  res p σ := .ok (.ret (.bool false))
  E' p σ := p.E
noncomputable def gT2 (co : Code) (es : List En) : T2P := ⟨refV ((posOf co).getD 0 .none), intV (itemV (eO es 0) 0), intV (itemV (eO es 0) 1), tokV (itemV (eO es 0) 0), tokV (itemV (eO es 0) 1), refV ((posOf co).getD 1 .none), intV (itemV (eO es 1) 0), intV (itemV (eO es 1) 1), tokV (itemV (eO es 1) 0), tokV (itemV (eO es 1) 1)⟩
noncomputable abbrev sTupNe : SumFn := sumE cTupNe 2 gT2
noncomputable def slO (a b : Value) : Obj := { cls := .type "slice", data := .fields #[a, b, .none] }
noncomputable def partV : Value → Option Int
  | .int i _ => some i
  | _ => none
noncomputable def isPartB : Value → Bool
  | .int _ _ => true
  | .none => true
  | _ => false
structure SlIs (vs : List Value) (lo hi : Option Int) (xs : List Value) : Prop where
  sl : (slicePick vs.toArray lo hi none).toList = xs
  le : vs.length ≤ 100000
structure SlP where
  (a : Nat) (vs : List Value) (ep : Nat) (s : Nat) (lo hi : Value)
noncomputable def cSl (xs : List Value) : Con SlP where
  lv := 0
  co p := .builtin "list.__getitem__" ⟨[.ref p.a, .ref p.s], []⟩
  E p := [(p.a, lst p.vs p.ep), (p.s, slO p.lo p.hi)]
  cs p := [SlIs p.vs (partV p.lo) (partV p.hi) xs, (isPartB p.lo && isPartB p.hi) = true]
  res p σ := .ok (.ret (.ref (σ 0)))
  E' p σ := [(p.a, lst p.vs p.ep), (p.s, slO p.lo p.hi), (σ 0, lst xs 0)]
noncomputable def gSl (co : Code) (es : List En) : SlP := ⟨refV ((posOf co).getD 0 .none), getV (eO es 0), epO (eO es 0), refV ((posOf co).getD 1 .none), fldF (eO es 1) 0, fldF (eO es 1) 1⟩
noncomputable abbrev sSl (xs : List Value) : SumFn := sumE (cSl xs) 2 gSl
noncomputable def stopObj (a : Nat) : Obj := { cls := .type "StopIteration", data := .fields #[.ref a, .none, .none, .none, .bool false, .none] }
noncomputable def liO (l : Nat) (i : Int) : Obj := { cls := .type "list_iterator", data := .fields #[.ref l, rawInt i] }
noncomputable def liEnd (i : Int) : Obj := { cls := .type "list_iterator", data := .fields #[.none, rawInt i] }
structure LiP where
  (it l : Nat) (i : Int) (vs : List Value) (ep : Nat)
noncomputable def gLi (co : Code) (es : List En) : LiP := ⟨refV ((posOf co).getD 0 .none), refV (fldF (eO es 0) 0), intV (fldF (eO es 0) 1), getV (eO es 1), epO (eO es 1)⟩
noncomputable def cNext (v : Value) : Con LiP where
  lv := 0
  co p := .builtin "list_iterator.__next__" ⟨[.ref p.it], []⟩
  E p := [(p.it, liO p.l p.i), (p.l, lst p.vs p.ep)]
  cs p := [ItemIs p.vs p.i v]
  res p σ := .ok (.ret v)
  E' p σ := [(p.it, liO p.l (p.i + 1)), (p.l, lst p.vs p.ep)]
noncomputable abbrev sNext (v : Value) : SumFn := sumE (cNext v) 2 gLi
structure AtEnd (vs : List Value) (i : Int) : Prop where
  le : vs.length ≤ i.toNat
noncomputable def cNextEnd : Con LiP where
  lv := 7
  co p := .builtin "list_iterator.__next__" ⟨[.ref p.it], []⟩
  E p := [(p.it, liO p.l p.i), (p.l, lst p.vs p.ep)]
  cs p := [AtEnd p.vs p.i]
  res p σ := .error (.ref (σ 1))
  E' p σ := [(p.it, liEnd p.i), (p.l, lst p.vs p.ep), (σ 0, tup []), (σ 1, stopObj (σ 0))]
noncomputable abbrev sNextEnd : SumFn := sumE cNextEnd 2 gLi
noncomputable def liTail (it : Nat) : Sem PySem.Fin := do
  rule "list_iterator.__next__.end"
  setField (.ref it) 0 .none
  Builtin.SmallTypes.stopIteration
noncomputable def siO (x : Str) (t : Tok) (i : Int) : Obj := { cls := .type "str_ascii_iterator", data := .fields #[.str x t, rawInt i] }
noncomputable def enO (it : Nat) (k : Int) (v : Value) : Obj := { cls := .type "enumerate", data := .fields #[.none, .bool false, .ref it, rawInt k, .none, v] }
noncomputable def enG (a it : Nat) (k : Int) (v : Value) : Obj := { cls := .type "enumerate", data := .fields #[goneV (rawInt (a : Int)) a, .bool false, .ref it, rawInt k, .none, v] }
structure Ascii (x : Str) : Prop where
  all : strIterType x = "str_ascii_iterator"
structure SiP where
  (it : Nat) (x : Str) (t : Tok) (i : Int)
noncomputable def cEnumS : Con SiP where
  lv := 0
  co p := .builtin "enumerate.__new__" ⟨[.type "enumerate", .str p.x p.t], []⟩
  E p := []
  cs p := [Ascii p.x]
  res p σ := .ok (.ret (.ref (σ 1)))
  E' p σ := [(σ 0, siO p.x p.t 0), (σ 1, enO (σ 0) 0 .none)]
noncomputable def gEs (co : Code) (es : List En) : SiP := ⟨0, sOf ((posOf co).getD 1 .none), tokV ((posOf co).getD 1 .none), 0⟩
noncomputable abbrev sEnumS : SumFn := sumE cEnumS 0 gEs
noncomputable def cEnumL : Con LsP where
  lv := 0
  co p := .builtin "enumerate.__new__" ⟨[.type "enumerate", .ref p.a], []⟩
  E p := p.E
  cs p := []
  res p σ := .ok (.ret (.ref (σ 1)))
  E' p σ := [(p.a, lst p.vs p.ep), (σ 0, liO p.a 0), (σ 1, enO (σ 0) 0 .none)]
noncomputable def gEl (co : Code) (es : List En) : LsP := ⟨refV ((posOf co).getD 1 .none), getV (eO es 0), epO (eO es 0), .none⟩
noncomputable abbrev sEnumL : SumFn := sumE cEnumL 1 gEl
structure SignIs (x : Str) (i : Int) (y : Str) : Prop where
  at_ : ∃ c, 0 ≤ i ∧ x.cps[i.toNat]? = some c ∧ y = ⟨#[c]⟩
noncomputable def cNextS (y : Str) : Con SiP where
  lv := 0
  co p := .builtin "str_ascii_iterator.__next__" ⟨[.ref p.it], []⟩
  E p := [(p.it, siO p.x p.t p.i)]
  cs p := [SignIs p.x p.i y]
  res p σ := .ok (.ret (.str y (σ 0)))
  E' p σ := [(p.it, siO p.x p.t (p.i + 1))]
noncomputable def gSi (co : Code) (es : List En) : SiP := ⟨refV ((posOf co).getD 0 .none), sOf (fldF (eO es 0) 0), tokV (fldF (eO es 0) 0), intV (fldF (eO es 0) 1)⟩
noncomputable abbrev sNextS (y : Str) : SumFn := sumE (cNextS y) 1 gSi
noncomputable def riO (k left : Int) : Obj := { cls := .type "range_iterator", data := .fields #[rawInt k, rawInt left, rawInt 1] }
noncomputable def rangeO (n : Int) (a b c : Tok) : Obj := { cls := .type "range", data := .fields #[.int 0 a, .int n b, .int 1 c] }
structure RangeOk (n : Int) : Prop where
  lo : 0 < n
  hi : n < 1000
structure RaP where
  (a : Nat) (n : Int) (x y z : Tok)
noncomputable def cRIter : Con RaP where
  lv := 0
  co p := .builtin "range.__iter__" ⟨[.ref p.a], []⟩
  E p := [(p.a, rangeO p.n p.x p.y p.z)]
  cs p := [RangeOk p.n]
  res p σ := .ok (.ret (.ref (σ 0)))
  E' p σ := [(p.a, rangeO p.n p.x p.y p.z), (σ 0, riO 0 p.n)]
noncomputable def gRa (co : Code) (es : List En) : RaP := ⟨refV ((posOf co).getD 0 .none), intV (fldF (eO es 0) 1), tokV (fldF (eO es 0) 0), tokV (fldF (eO es 0) 1), tokV (fldF (eO es 0) 2)⟩
noncomputable abbrev sRIter : SumFn := sumE cRIter 1 gRa
structure IiP where
  (a : Int) (t : Tok) (b : Int) (u : Tok)
structure DivOk (b : Int) : Prop where
  dv : 0 < b ∧ b < 1024
noncomputable def cDivmod : Con IiP where
  lv := 0
  co p := .builtin "int.__divmod__" ⟨[.int p.a p.t, .int p.b p.u], []⟩
  E p := []
  cs p := [DivOk p.b]
  res p σ := .ok (.ret (.ref (σ 0)))
  E' p σ := [(σ 0, tup [.int (p.a / p.b) (σ 1), .int (p.a % p.b) (σ 2)])]
noncomputable def gIi (co : Code) (es : List En) : IiP := ⟨i0 (posOf co), tk0 (posOf co), i1 (posOf co), tk1 (posOf co)⟩
noncomputable abbrev sDivmod : SumFn := sumE cDivmod 0 gIi
theorem Ends.val {w : World} {lv : Nat} {co : Code} {E : Sto} {res : Nat → Value} (H : ∀ A h g d t os, AllAt h E → Does w A co ⟨h, g, d, t, os⟩ (fun r h' => h' = h ∧ ∃ k, r = .ok (.ret (res k)))) :
    Ends w lv co E (QS (fun σ => .ok (.ret (res (σ 0)))) (fun _ => E)) :=
  Ends.of fun A h g d t os hA S => (H A h g d t os S.at_).mono fun r h' P => by
    obtain ⟨rfl, k, rfl⟩ := P
    exact ⟨[k], by simp, rfl, (Ext.refl h').mono fun _ hm => (nomatch hm), S.at_, [], (List.append_nil _).symm, List.nodup_nil, fun _ hm => (nomatch hm)⟩
theorem Ends.make {w : World} {lv : Nat} {co : Code} {E : Sto} {o : (Nat → Nat) → Obj} (hf : ∀ σ, (o σ).isFreed = false)
    (H : ∀ A h g d t os, AllAt h E → Does w A co ⟨h, g, d, t, os⟩ (fun r h' => ∃ l : List Nat, l.length ≤ 60 ∧ r = .ok (.ret (.ref h.objs.size)) ∧ h' = h.push (o (sg (h.objs.size :: l))))) :
    Ends w lv co E (QS (fun σ => .ok (.ret (.ref (σ 0)))) (fun σ => E ++ [(σ 0, o σ)])) :=
  Ends.of fun A h g d t os hA S => (H A h g d t os S.at_).mono fun r h' P => by
    obtain ⟨l, hl, rfl, rfl⟩ := P
    refine ⟨h.objs.size :: l, by simp; omega, rfl, ⟨fun b x e _ => Heap.get?_push_of_some _ e, by rw [Heap.size_push]; omega⟩, AllAt.of fun p hp => ?_, [h.objs.size], Sto.ad_app _ _, by simp, fun a ha => by rw [List.mem_singleton.mp ha]; exact Nat.le_refl _⟩
    rcases List.mem_append.mp hp with z | z
    · exact Heap.get?_push_of_some _ (S.at_.get p z)
    · rw [List.mem_singleton.mp z]
      exact Heap.get?_push_size _ (hf _)
theorem plain_append : plainId "list.append" = true := by decide +kernel
theorem upd_lst {h : Heap} {l : Addr} {vs vs' : List Value} {ep : Nat} {f : Array Value → Array Value} (hl : h.get? l = some (lst vs ep)) (hf : f vs.toArray = vs'.toArray) :
    ∃ ep', (h.update l (Obj.mapSeq f)).get? l = some (lst vs' ep') := by
  refine ⟨if (f vs.toArray).size == vs.toArray.size then ep else ep + 1, (Heap.get?_update_self _ hl rfl).trans ?_⟩
  show some ({ cls := .type "list", data := .seq (f vs.toArray) (if (f vs.toArray).size == vs.toArray.size then ep else ep + 1) } : Obj) = _
  unfold lst
  rw [← hf]
theorem does_append {w : World} {A : Around} {l : Addr} {v : Value} {vs : List Value} {ep : Nat} {h : Heap} {g : Array GenState} {d : Drawn} {t : Nat} {os : OsState} (hl : h.get? l = some (lst vs ep)) (hsz : vs.length ≤ 100000) :
    Does w A (.builtin "list.append" ⟨[.ref l, v], []⟩) ⟨h, g, d, t, os⟩ (fun r h' => r = .ok (.ret .none) ∧ h'.objs.size = h.objs.size ∧ Ext [l] h h' ∧ ∃ ep', h'.get? l = some (lst (vs ++ [v]) ep')) := by
  intro R H
  refine code_meets F.entry_list_append plain_append (AutoListH.list_append_list_val_0 l vs.toArray ep v (by rw [List.size_toArray]; exact Nat.le_trans hsz (by decide))) ⟨hl, H _ _ _ ⟨rfl, ?_, ?_, ?_⟩⟩
  · exact (Heap.SameBut.update ..).1
  · exact Ext.of_same (Heap.SameBut.update ..)
  · exact upd_lst hl (by simp)
theorem plain_pop : plainId "list.pop" = true := by decide +kernel
open Builtin in
theorem meets_pop0 (l : Addr) (v : Value) (vs : List Value) (n : Nat) (u : Tok) (hsz : vs.length ≤ 100000) :
    Meets (Builtin.«list.pop» ⟨[.ref l, .int 0 u], []⟩) (fun _ R s => s.heap.get? l = some (lst (v :: vs) n) ∧ R (.ok (.ret v)) { s with heap := s.heap.update l (Obj.mapSeq fun x => x.eraseIdxIfInBounds 0), toks := s.toks }) :=
  .of_wp fun prog w A R s h => by
    obtain ⟨hp, g, d, tk, os⟩ := s; obtain ⟨hl, h⟩ := h
    have h1 : (v :: vs).toArray.size ≤ sizeLine := by rw [List.size_toArray]; simp only [List.length_cons]; exact Nat.le_trans (Nat.succ_le_succ hsz) (by decide)
    have h2 : ((v :: vs).toArray.eraseIdxIfInBounds 0).size ≤ sizeLine + 1 := by simp; exact Nat.le_trans hsz (by decide)
    unfold lst at hl
    have e : ((seqIndex? 0 (v :: vs).toArray.size).bind fun k => Option.map (fun x => (k, x)) (v :: vs).toArray[k]?) = some (0, v) := by
      have : seqIndex? 0 (v :: vs).toArray.size = some 0 := by unfold seqIndex?; simp
      rw [this]; rfl
    wp_walk
    rw [e]
    dsimp only
    wp_walk using (wpAny_updateSeq hl rfl (hz := h1) (_hz' := h2))
    exact ⟨_, rfl, h⟩
theorem does_pop {w : World} {A : Around} {l : Addr} {v : Value} {vs : List Value} {ep : Nat} {u : Tok} {h : Heap} {g : Array GenState} {d : Drawn} {t : Nat} {os : OsState} (hl : h.get? l = some (lst (v :: vs) ep)) (hsz : vs.length ≤ 100000) :
    Does w A (.builtin "list.pop" ⟨[.ref l, .int 0 u], []⟩) ⟨h, g, d, t, os⟩ (fun r h' => r = .ok (.ret v) ∧ h'.objs.size = h.objs.size ∧ Ext [l] h h' ∧ ∃ ep', h'.get? l = some (lst vs ep')) := by
  intro R H
  refine code_meets F.entry_list_pop plain_pop (meets_pop0 l v vs ep u hsz) ⟨hl, H _ _ _ ⟨rfl, ?_, ?_, ?_⟩⟩
  · exact (Heap.SameBut.update ..).1
  · exact Ext.of_same (Heap.SameBut.update ..)
  · exact upd_lst hl (by simp)
open Builtin in
theorem meets_item (l : Addr) (k : Int) (t : Tok) (vs : List Value) (ep : Nat) (r : Value) (hi : ItemIs vs k r) :
    Meets (Builtin.«list.__getitem__» ⟨[.ref l, .int k t], []⟩) (fun _ R s => s.heap.get? l = some (lst vs ep) ∧ R (.ok (.ret r)) s) :=
  .of_wp fun prog w A R s h => by
    obtain ⟨hp, g, d, tk, os⟩ := s; obtain ⟨hl, h⟩ := h
    obtain ⟨h0, hfit, hx⟩ := hi
    unfold lst at hl
    show wpAny _ _ (Builtin.List.listSubscript? (.int k t) >>= _) _ _ _
    refine wpAny_bind (wpAny_listSubscript_int (fitsIndex_of h0 hfit) ?_)
    obtain ⟨j, rfl⟩ := Int.eq_ofNat_of_zero_le h0
    have hx' : vs.toArray[j]? = some r := by simpa using hx
    show wpAny _ _ ((seqItemAt l j >>= fun r => pure (r.map (j, ·))) >>= _) _ _ _
    refine wpAny_bind (wpAny_bind (wpAny_seqItemAt hl rfl (wpAny_pure ?_)))
    rw [hx']
    exact wpAny_pure ⟨_, rfl, h⟩
theorem plain_getitem : plainId "list.__getitem__" = true := by decide +kernel
theorem cLs_ok {w : World} {id : String} {cs : List Value → Value → Prop} {res : List Value → Value → Nat → Value} (H : ∀ a vs ep v, cs vs v → ∀ A h g d t os, h.get? a = some (lst vs ep) → Does w A (.builtin id ⟨[.ref a, v], []⟩) ⟨h, g, d, t, os⟩ (fun r h' => h' = h ∧ ∃ k, r = .ok (.ret (res vs v k)))) : (cLs id cs res).Holds w where
  ad p σ := ⟨[], (List.append_nil _).symm⟩
  does p hc := Ends.val (E := p.E) (res := res p.vs p.v) fun A h g d t os hE => H p.a p.vs p.ep p.v hc.1 A h g d t os hE.1
theorem cItem_ok {w : World} {r : Value} : (cItem r).Holds w := cLs_ok fun a vs ep v hc A h g d t' os hE R H => by
  obtain ⟨k, t, rfl, hi⟩ := hc
  exact code_meets F.entry_list_getitem plain_getitem (meets_item a k t vs ep r hi) ⟨hE, H _ _ _ ⟨rfl, 0, rfl⟩⟩
theorem cLen_ok {w : World} {ct : Int} : (cLen ct).Holds w where
  ad p σ := ⟨[], (List.append_nil _).symm⟩
  does p hc := by
    obtain ⟨⟨he, hle⟩, -⟩ := hc
    obtain ⟨a, vs, ep, v⟩ := p
    refine Ends.val (E := [(a, lst vs ep)]) (res := fun k => .int ct k) fun A h g d t os hE R H => codeAny_builtin entry_len ?_
    have hsz : vs.toArray.size = vs.length := List.size_toArray
    refine wpAny_mono (wpAny_len_body_list (E := fun e s' => R (.error e) s') (Q := fun v s' => R (.ok (.ret v)) s') (items := vs.toArray) ⟨_, hE.1, rfl, ep, rfl⟩ (by have : vs.length ≤ 100000 := hle; rw [hsz]; omega) ?_) (fun fin s' q => ?_) (fun _ _ x => x)
    · rw [hsz, show ((vs.length : Nat) : Int) = ct from he]
      exact H _ _ _ ⟨rfl, _, rfl⟩
    · obtain ⟨r, rfl, q⟩ := q
      exact q
theorem eqAt_str (A : Around) (s : Shared) (a : Str) (t : Tok) (b : Str) (u : Tok) : EqAt A s (.str a t) (.str b u) (decide (a = b)) := fun prog w E Q hq => wpAny_eqBool_str hq
theorem eqAt_int (A : Around) (s : Shared) (a : Int) (t : Tok) (b : Int) (u : Tok) : EqAt A s (.int a t) (.int b u) (decide (a = b)) := fun prog w E Q hq => wpAny_eqBool_int hq
theorem strsAre_mem {vs : List Value} {ss : List Str} (h : StrsAre vs ss) : ∀ v ∈ vs, ∃ t, v = .str (sOf v) t := by
  induction h with
  | nil => intro v hv; cases hv
  | cons y t _ ih =>
    intro v hv
    rcases List.mem_cons.mp hv with rfl | hv
    · exact ⟨t, rfl⟩
    · exact ih v hv
theorem strsAre_any {vs : List Value} {ss : List Str} (h : StrsAre vs ss) (y : Str) : (vs.any fun v => decide (sOf v = y)) = decide (y ∈ ss) := by
  induction h with
  | nil => rfl
  | cons z t _ ih =>
    rw [List.any_cons, ih]
    by_cases e : z = y
    · subst e; simp [sOf]
    · have : y ≠ z := fun q => e q.symm
      simp [sOf, e, this]
theorem strsAre_get {vs : List Value} {ss : List Str} (h : StrsAre vs ss) : ∀ (i : Nat) (v : Value), vs[i]? = some v → ∃ y t, v = .str y t ∧ ss[i]? = some y := by
  induction h with
  | nil => intro i v e; simp at e
  | cons z t _ ih =>
    intro i v e
    cases i with
    | zero => cases e; exact ⟨z, t, rfl, rfl⟩
    | succ i => exact ih i v e
theorem strsAre_len {vs : List Value} {ss : List Str} (h : StrsAre vs ss) : vs.length = ss.length := by
  induction h with
  | nil => rfl
  | cons _ _ _ ih => simp [ih]
theorem plain_contains : plainId "list.__contains__" = true := by decide +kernel
theorem plain_index : plainId "list.index" = true := by decide +kernel
theorem plain_listne : plainId "list.__ne__" = true := by decide +kernel
theorem plain_listeq : plainId "list.__eq__" = true := by decide +kernel
theorem plain_tupne : plainId "tuple.__ne__" = true := by decide +kernel
theorem cCont_ok {w : World} {r : Bool} : (cCont r).Holds w := cLs_ok fun l vs ep v hc A h g d t os hE R H => by
  obtain ⟨ss, y, u, hs, rfl, hr⟩ := hc
  refine code_meets F.entry_list_contains plain_contains (list_containsAt l vs.toArray ep none #[] (.str y u) (fun v => decide (sOf v = y))) ⟨hE, fun v hv => ?_, ?_⟩
  · obtain ⟨k, e⟩ := strsAre_mem hs v (by simpa using hv)
    rw [e]
    exact eqAt_str _ _ _ _ _ _
  · have : (vs.toArray.any fun v => decide (sOf v = y)) = r := by
      rw [← hr, ← strsAre_any hs y]; simp
    rw [this]
    exact H _ _ _ ⟨rfl, 0, rfl⟩
theorem cIdx_ok {w : World} {j : Int} : (cIdx j).Holds w := cLs_ok fun l vs ep v hc A h g d t os hE R H => by
  obtain ⟨ss, y, u, k, hs, rfl, rfl, hk, hi, hn⟩ := hc
  have hlen := strsAre_len hs
  have hkl : k < ss.length := (List.getElem?_eq_some_iff.mp hi).1
  have hv : ∀ m (hm : m < vs.toArray.size), decide (sOf vs.toArray[m] = y) = decide (ss[m]? = some y) := fun m hm => by
    have hm' : m < vs.length := by simpa using hm
    obtain ⟨z, t', q1, q2⟩ := strsAre_get hs m vs[m] (by simp [hm'])
    rw [q2]
    simp [q1, sOf]
  refine code_meets F.entry_list_index plain_index (list_indexAt l vs.toArray ep none #[] (.str y u) (fun v => decide (sOf v = y)) k (by simp; omega) (by omega) (by rw [hv]; simp [hi]) (fun m hm hlt => by rw [hv]; simp [hn m hlt])) ⟨hE, fun v hv => ?_, H _ _ _ ⟨rfl, _, rfl⟩⟩
  obtain ⟨k', e⟩ := strsAre_mem hs v (by simpa using hv)
  rw [e]
  exact eqAt_str _ _ _ _ _ _
theorem plain_join : plainId "str.join" = true := by decide +kernel
theorem strs_values {vs : List Value} {ss : List Str} (h : StrsAre vs ss) : ∃ l : List (Str × Tok), strValues l = vs ∧ l.map (·.1) = ss := by
  induction h with
  | nil => exact ⟨[], rfl, rfl⟩
  | cons y t _ ih =>
    obtain ⟨l, h1, h2⟩ := ih
    exact ⟨(y, t) :: l, by rw [← h1]; rfl, by rw [← h2]; rfl⟩
theorem cJoin_ok {w : World} {tx : Str} : (cJoin tx).Holds w where
  ad p σ := ⟨[], (List.append_nil _).symm⟩
  does p hc := by
    obtain ⟨⟨⟨ss, hs, h2s, hgl, htl, hzl⟩, tk, hv⟩, -⟩ := hc
    obtain ⟨a, vs, ep, v⟩ := p
    cases hv
    have hs : StrsAre vs ss := hs
    obtain ⟨l, hl1, hl2⟩ := strs_values hs
    refine Ends.val (E := [(a, lst vs ep)]) (res := fun k => .str tx k) fun A h g d t os hE R H => ?_
    refine code_meets F.entry_str_join plain_join (meets_str_join_list ⟨#[]⟩ tk a l (by rw [hl2]; exact htl)) ⟨⟨_, hE.1, rfl, ep, by rw [hl1]; rfl⟩, ?_⟩
    match l, hl2 with
    | [], q => subst q; simp at h2s
    | [x], q => subst q; simp at h2s
    | x :: y :: r, q =>
      have e : joinMade ⟨#[]⟩ (x :: y :: r) = .str tx := by rw [← hgl, ← q]; rfl
      rw [e]
      exact ⟨hzl, H _ _ _ ⟨rfl, t, rfl⟩⟩
theorem cApp_ok {w : World} : (cApp apI).Holds w where
  ad p σ := ⟨[], rfl⟩
  does p hc := Ends.one fun A h g d t os hA hg => (does_append hg hc.1).mono fun r h' P => by
    obtain ⟨rfl, -, e, ep, q⟩ := P
    exact ⟨[ep], by simp, rfl, e, q⟩
theorem cPop_ok {w : World} : cPop.Holds w where
  ad p σ := ⟨[], rfl⟩
  does p hc := by
    obtain ⟨⟨hl, u, v, r, h1, h2⟩, -⟩ := hc
    obtain ⟨a, vs, ep, x⟩ := p
    dsimp only at h1 h2
    subst h1 h2
    exact Ends.one fun A h g d t os hA hg => (does_pop hg (by have : r.length + 1 ≤ 100000 := hl; omega)).mono fun r h' P => by
      obtain ⟨rfl, -, e, ep, q⟩ := P
      exact ⟨[ep], by simp, rfl, e, q⟩
theorem same_eq {vs vs' : List Value} {ss : List Str} (h : StrsAre vs ss) (h' : StrsAre vs' ss) {A : Around} {s : Shared} : ∀ j (h1 : j < vs.toArray.size) (h2 : j < vs'.toArray.size), EqAt A s vs.toArray[j] vs'.toArray[j] true := fun j h1 h2 => by
  have h1' : j < vs.length := by simpa using h1
  have h2' : j < vs'.length := by simpa using h2
  obtain ⟨y, t, q1, q2⟩ := strsAre_get h j vs[j] (by simp [h1'])
  obtain ⟨y', t', q1', q2'⟩ := strsAre_get h' j vs'[j] (by simp [h2'])
  rw [q2] at q2'
  cases q2'
  have := eqAt_str A s y t y t'
  rw [decide_eq_true rfl] at this
  have e1 : vs.toArray[j] = .str y t := by simpa using q1
  have e2 : vs'.toArray[j] = .str y t' := by simpa using q1'
  rw [e1, e2]
  exact this
theorem cListNe_ok {w : World} : (cL2 "list.__ne__" false).Holds w where
  ad p σ := ⟨[], (List.append_nil _).symm⟩
  does p hc := by
    obtain ⟨⟨ss, hs, hs'⟩, -⟩ := hc
    obtain ⟨l, vs, ep, l', vs', ep'⟩ := p
    have hs : StrsAre vs ss := hs
    have hs' : StrsAre vs' ss := hs'
    refine Ends.val (E := [(l, lst vs ep), (l', lst vs' ep')]) (res := fun _ => .bool false) fun A h g d t os hE R H => ?_
    refine code_meets F.entry_list_ne plain_listne (list_neAt l l' vs.toArray vs'.toArray ep ep' none none #[] #[] (by simp [strsAre_len hs, strsAre_len hs']) (fun _ => true)) ⟨hE.1, hE.2.1, same_eq hs hs', ?_⟩
    have : (!(List.range vs.toArray.size).all fun _ => true) = false := by simp
    rw [this]
    exact H _ _ _ ⟨rfl, 0, rfl⟩
theorem cListEq_ok {w : World} : (cL2 "list.__eq__" true).Holds w where
  ad p σ := ⟨[], (List.append_nil _).symm⟩
  does p hc := by
    obtain ⟨⟨ss, hs, hs'⟩, -⟩ := hc
    obtain ⟨l, vs, ep, l', vs', ep'⟩ := p
    have hs : StrsAre vs ss := hs
    have hs' : StrsAre vs' ss := hs'
    refine Ends.val (E := [(l, lst vs ep), (l', lst vs' ep')]) (res := fun _ => .bool true) fun A h g d t os hE R H => ?_
    refine code_meets F.entry_list_eq plain_listeq (list_eqAt l l' vs.toArray vs'.toArray ep ep' none none #[] #[] (by simp [strsAre_len hs, strsAre_len hs']) (fun _ => true)) ⟨hE.1, hE.2.1, same_eq hs hs', ?_⟩
    have : ((List.range vs.toArray.size).all fun _ => true) = true := by simp
    rw [this]
    exact H _ _ _ ⟨rfl, 0, rfl⟩
theorem plain_ladd : plainId "list.__add__" = true := by decide +kernel
theorem cCat_ok {w : World} {xs : List Value} : (cCat xs).Holds w where
  ad p σ := ⟨[σ 0], rfl⟩
  does p hc := by
    obtain ⟨⟨rfl, hle⟩, -⟩ := hc
    obtain ⟨a, vs, ep, b, us, eq⟩ := p
    refine Ends.make (E := [(a, lst vs ep), (b, lst us eq)]) (o := fun _ => lst (vs ++ us) 0) (fun _ => rfl) fun A h g d t os hE R HR => ?_
    refine code_meets F.entry_list_add plain_ladd (AutoSeq1.list___add___list_list_0 a vs.toArray ep b us.toArray eq (by rw [List.size_toArray, List.size_toArray]; exact Nat.le_trans hle (by decide))) ⟨hE.1, hE.2.1, ?_⟩
    have e : (vs.toArray ++ us.toArray) = (vs ++ us).toArray := by simp
    rw [e]
    exact HR _ _ _ ⟨[], by simp, rfl, rfl⟩
theorem cTupNe_ok {w : World} : cTupNe.Holds w where
  ad p σ := ⟨[], (List.append_nil _).symm⟩
  does p hc := by
    obtain ⟨⟨h1, h2⟩, -⟩ := hc
    obtain ⟨a, x, y, k0, k1, b, x', y', k2, k3⟩ := p
    cases h1
    cases h2
    refine Ends.val (E := [(a, tup [.int x k0, .int y k1]), (b, tup [.int x k2, .int y k3])]) (res := fun _ => .bool false) fun A h g d t os hE R H => ?_
    refine code_meets F.entry_tuple_ne plain_tupne (tuple_neAt a b #[.int x k0, .int y k1] #[.int x k2, .int y k3] 0 0 none none #[] #[] (fun _ => true)) ⟨hE.1, hE.2.1, fun j h1 h2 => ?_, ?_⟩
    · have : j = 0 ∨ j = 1 := by simp at h1; omega
      rcases this with rfl | rfl
      · have := eqAt_int A.in1 ⟨h, g, d, t, os⟩ x k0 x k2
        rw [decide_eq_true rfl] at this
        exact this
      · have := eqAt_int A.in1 ⟨h, g, d, t, os⟩ y k1 y k3
        rw [decide_eq_true rfl] at this
        exact this
    · exact H _ _ _ ⟨rfl, 0, by simp⟩
theorem isPart_of {v : Value} (h : isPartB v = true) : IsPart v (partV v) := by
  unfold isPartB at h
  split at h
  · exact .int _ _
  · exact .none
  · cases h
theorem does_slice {w : World} {A : Around} {l sl : Nat} {vs xs : List Value} {ep : Nat} {a b : Value} {h : Heap} {g : Array GenState} {dr : Drawn} {t : Nat} {os : OsState} (gl : h.get? l = some (lst vs ep)) (gs : h.get? sl = some (slO a b)) (pa : isPartB a = true) (pb : isPartB b = true) (hc : SlIs vs (partV a) (partV b) xs) :
    Does w A (.builtin "list.__getitem__" ⟨[.ref l, .ref sl], []⟩) ⟨h, g, dr, t, os⟩ (fun r h' => r = .ok (.ret (.ref h.objs.size)) ∧ h' = h.push (lst xs 0)) := by
  intro R H
  refine codeAny_builtin entry_list_getitem ?_
  generalize A.under (.builtin "list.__getitem__" ⟨[.ref l, .ref sl], []⟩) = A'
  obtain ⟨p3, hle⟩ := hc
  have p1 := isPart_of pa
  have p2 := isPart_of pb
  generalize partV a = lo, partV b = hi at p1 p2 p3
  have hTs : Shared.TypeIs (⟨h, g, dr, t, os⟩ : Shared) (.ref sl) "slice" := ⟨_, gs, rfl⟩
  have gs' := gs
  unfold slO at gs'
  have gl' := gl
  unfold lst at gl'
  show wpAny _ _ (Builtin.List.listSubscript? (.ref sl) >>= _) _ _ _
  refine wpAny_bind ?_
  unfold Builtin.List.listSubscript?
  refine wpAny_bind (wpAny_specialOf hTs slice_no_index ?_)
  simp only [Option.isNone_none, if_true]
  refine wpAny_pure ?_
  show wpAny _ _ (typeOf (.ref sl) >>= _) _ _ _
  refine wpAny_bind (wpAny_typeOf hTs ?_)
  rw [if_neg (by decide)]
  rw [listSliceParts_eq]
  refine wpAny_bind (wpAny_bind (wpAny_field gs' rfl (x := .none) rfl (wpAny_bind (wpAny_listPart .none ?_))))
  rw [if_neg (by decide)]
  refine wpAny_bind (wpAny_field gs' rfl (x := a) rfl (wpAny_bind (wpAny_listPart p1 ?_)))
  refine wpAny_bind (wpAny_field gs' rfl (x := b) rfl (wpAny_bind (wpAny_listPart p2 (wpAny_pure ?_))))
  refine wpAny_bind (m := Builtin.List.listItems (.ref l)) ?_
  unfold Builtin.List.listItems
  refine wpAny_bind (wpAny_seqItems gl' rfl (wpAny_pure ?_))
  refine wpAny_bind (wpAny_of_eq (sliceIndices_raw lo hi none vs.toArray.size (by decide)) ?_)
  have hsz : vs.toArray.size ≤ sizeLine := by rw [List.size_toArray]; exact Nat.le_trans hle (by decide)
  refine wpAny_bind (wpAny_newObj_type (wpAny_pure ?_) (Nat.le_trans (slicePick_size_le vs.toArray lo hi none) hsz))
  refine H _ _ _ ⟨rfl, ?_⟩
  rw [← p3]
  rfl
theorem cSl_ok {w : World} {xs : List Value} : (cSl xs).Holds w where
  ad p σ := ⟨[σ 0], rfl⟩
  does p hc := by
    obtain ⟨c1, c2, -⟩ := hc
    obtain ⟨b1, b2⟩ := Bool.and_eq_true_iff.mp c2
    refine Ends.make (E := [(p.a, lst p.vs p.ep), (p.s, slO p.lo p.hi)]) (o := fun _ => lst xs 0) (fun _ => rfl) fun A h g d t os hE => ?_
    refine (does_slice hE.1 hE.2.1 b1 b2 c1).mono fun r h' P => ?_
    obtain ⟨rfl, rfl⟩ := P
    exact ⟨[], by simp, rfl, rfl⟩
theorem isCaller_ne {id : String} {args : Args} (h : id ≠ "claim.caller") : (Code.builtin id args).isCaller = false := by
  unfold Code.isCaller
  split
  · rename_i q; cases q; exact absurd rfl h
  · rfl
theorem plain_linext : plainId "list_iterator.__next__" = true := by decide +kernel
theorem upd_li {h : Heap} {it l : Nat} {i j : Int} (hi : h.get? it = some (liO l i)) : (h.update it (Obj.mapFields fun x => x.setIfInBounds 1 (rawInt j))).get? it = some (liO l j) :=
  Heap.get?_update_self _ hi rfl
theorem does_next {w : World} {A : Around} {it l : Nat} {i : Int} {vs : List Value} {ep : Nat} {v : Value} {h : Heap} {g : Array GenState} {dr : Drawn} {t : Nat} {os : OsState}
    (hi : h.get? it = some (liO l i)) (hl : h.get? l = some (lst vs ep)) (hv : ItemIs vs i v) :
    Does w A (.builtin "list_iterator.__next__" ⟨[.ref it], []⟩) ⟨h, g, dr, t, os⟩ (fun r h' => r = .ok (.ret v) ∧ Ext [it] h h' ∧ h'.get? it = some (liO l (i + 1))) := by
  intro R H
  refine codeAny_builtin entry_listiter_next ?_
  generalize A.under (.builtin "list_iterator.__next__" ⟨[.ref it], []⟩) = A'
  obtain ⟨h0, hfit, hx⟩ := hv
  have hx' : vs.toArray[i.toNat]? = some v := by simpa using hx
  have hi' := hi
  unfold liO at hi'
  have hl' := hl
  unfold lst at hl'
  unfold Builtin.«list_iterator.__next__»
  wp_walk
  rw [hx']
  wp_walk
  exact H _ _ _ ⟨rfl, Ext.of_same (Heap.SameBut.update ..), upd_li hi⟩
theorem cNext_ok {w : World} {v : Value} : (cNext v).Holds w where
  ad p σ := ⟨[], rfl⟩
  does p hc := Ends.of fun A h g d t os hA S => (does_next S.at_.1 S.at_.2.1 hc.1).mono fun r h' P => by
    obtain ⟨rfl, k1, k2⟩ := P
    refine ⟨[], by simp, rfl, k1.mono fun a ha => .inl (by rw [List.mem_singleton.mp ha]; exact .head _), ⟨k2, ?_, trivial⟩, [], rfl, List.nodup_nil, fun _ hm => (nomatch hm)⟩
    exact k1.1 _ _ S.at_.2.1 fun hm => (List.nodup_cons.mp S.nd).1 (show p.it ∈ [p.l] from (show p.l = p.it from List.mem_singleton.mp hm) ▸ .head _)
@[irreducible] noncomputable def le (P : Params) (b : Bool) (K : KT) (pg : Program) (it l : Nat) (i : Int) (vs : List Value) (ep : Nat) (n t : Nat) (σ : Nat → Nat) : Ou :=
  goT (mkW P b K pg []) 4000 6 (liTail it)
  [(it, liO l i), (l, lst vs ep)] n t σ
  [1,1]
theorem le_id : @le = @le := rfl
lay_z Mine.le
end Mine
name_z leY for Mine.le by Mine.le_id
namespace Mine
theorem le_r (P : Params) (b : Bool) (it l : Nat) (i : Int) (vs : List Value) (ep : Nat) (n t : Nat) (σ : Nat → Nat) : Go0 (.error (.ref (n + 1))) [0, 1, 2, 3] [(it, liEnd i), (l, lst vs ep), (n, tup []), (n + 1, stopObj n)] [] (le P b (ktop P) theProg it l i vs ep n t σ) := by
  rw [PySem.W.ZFast.leY_eq]
  cases b <;> refine ⟨⟨?_, ?_, ?_, ?_, ?_, ?_⟩, ?_, ?_, ?_⟩ <;> kernel_rfl
theorem cNextEnd_ok {w : World} : cNextEnd.Holds w where
  ad p σ := ⟨[σ 0, σ 1], rfl⟩
  does p hc := by
    obtain ⟨it, l, i, vs, ep⟩ := p
    have hv : vs.length ≤ i.toNat := hc.1.le
    intro A h g d t os R hA S hR
    refine codeAny_builtin entry_listiter_next ?_
    have hR' : Room (A.under (.builtin "list_iterator.__next__" ⟨[.ref it], []⟩)) 42 := (hA.mono (by decide : 48 ≤ 48)).under (isCaller_ne (by decide))
    generalize A.under (.builtin "list_iterator.__next__" ⟨[.ref it], []⟩) = A' at hR'
    have hx' : vs.toArray[i.toNat]? = none := by simp; exact hv
    have hi' : h.get? it = some (liO l i) := S.at_.1
    unfold liO at hi'
    have hl' : h.get? l = some (lst vs ep) := S.at_.2.1
    unfold lst at hl'
    show wpAny (model theProg w) A' (Builtin.«list_iterator.__next__» ⟨[.ref it], []⟩) (FinP theProg w A R) (ErrP R) _
    unfold Builtin.«list_iterator.__next__»
    wp_walk
    rw [hx']
    show wpAny _ A' (liTail it) _ _ _
    exact tree_fin (fun σ => le.eq_1 w.params (bOf w) (ktop w.params) theProg it l i vs ep h.objs.size t σ) trivial S (hA.mono (by decide)) (hR'.mono (by decide)) (fun σ => le_r w.params (bOf w) it l i vs ep h.objs.size t σ) (by decide) trivial fun h' t' S' G => hR _ _ _ _ ⟨sg [h.objs.size, h.objs.size + 1], sg_z (by simp), rfl, rfl⟩ S' G
theorem enG_eq (a it : Nat) (k : Int) (v : Value) : enG a it k v = enO it k v := by unfold enG enO; rw [goneV_self]
theorem plain_enew : plainId "enumerate.__new__" = true := by decide +kernel
theorem plain_sinext : plainId "str_ascii_iterator.__next__" = true := by decide +kernel
theorem ext_push2 {h : Heap} {o1 o2 : Obj} : Ext [] h ((h.push o1).push o2) :=
  ⟨fun b o e _ => Heap.get?_push_of_some _ (Heap.get?_push_of_some _ e), by rw [Heap.size_push, Heap.size_push]; omega⟩
theorem Ends.make2 {w : World} {lv : Nat} {co : Code} {E : Sto} {o1 o2 : Nat → Obj} (f1 : ∀ a, (o1 a).isFreed = false) (f2 : ∀ a, (o2 a).isFreed = false)
    (H : ∀ A h g d t os, AllAt h E → Does w A co ⟨h, g, d, t, os⟩ (fun r h' => r = .ok (.ret (.ref (h.objs.size + 1))) ∧ h' = (h.push (o1 h.objs.size)).push (o2 h.objs.size))) :
    Ends w lv co E (QS (fun σ => .ok (.ret (.ref (σ 1)))) (fun σ => E ++ [(σ 0, o1 (σ 0)), (σ 1, o2 (σ 0))])) :=
  Ends.of fun A h g d t os hA S => (H A h g d t os S.at_).mono fun r h' P => by
    obtain ⟨rfl, rfl⟩ := P
    have z : (h.push (o1 h.objs.size)).objs.size = h.objs.size + 1 := Heap.size_push ..
    refine ⟨[h.objs.size, h.objs.size + 1], by simp, rfl, ext_push2.mono fun _ hm => (nomatch hm), AllAt.of fun p hp => ?_, [h.objs.size, h.objs.size + 1], Sto.ad_app _ _, by simp, fun a ha => ?_⟩
    · rcases List.mem_append.mp hp with q | q
      · exact Heap.get?_push_of_some _ (Heap.get?_push_of_some _ (S.at_.get p q))
      · simp only [List.mem_cons, List.not_mem_nil, or_false] at q
        rcases q with rfl | rfl
        · exact Heap.get?_push_of_some _ (Heap.get?_push_size _ (f1 _))
        · show Heap.get? _ (h.objs.size + 1) = _
          rw [← z]; exact Heap.get?_push_size _ (f2 _)
    · simp only [List.mem_cons, List.not_mem_nil, or_false] at ha
      omega
theorem cEnumS_ok {w : World} : cEnumS.Holds w where
  ad p σ := ⟨[σ 0, σ 1], rfl⟩
  does p hc := Ends.make2 (E := []) (o1 := fun _ => siO p.x p.t 0) (o2 := fun a => enO a 0 .none) (fun _ => rfl) (fun _ => rfl) fun A h g d t os hE R H => by
    refine code_meets F.entry_enumerate_new plain_enew (meets_enumerate_newS p.x p.t) ?_
    rw [hc.1.all]
    exact H _ _ _ ⟨by rw [Heap.size_push], rfl⟩
theorem cEnumL_ok {w : World} : cEnumL.Holds w where
  ad p σ := ⟨[σ 0, σ 1], rfl⟩
  does p hc := Ends.make2 (E := p.E) (o1 := fun _ => liO p.a 0) (o2 := fun a => enO a 0 .none) (fun _ => rfl) (fun _ => rfl) fun A h g d t os hE R H => by
    refine code_meets F.entry_enumerate_new plain_enew (meets_enumerate_newL p.a p.vs.toArray p.ep none #[]) ⟨hE.1, ?_⟩
    exact H _ _ _ ⟨by rw [Heap.size_push], rfl⟩
theorem does_nextS {w : World} {A : Around} {it : Nat} {i : Int} {x : Str} {tx : Tok} {y : Str} {h : Heap} {g : Array GenState} {dr : Drawn} {t : Nat} {os : OsState}
    (hi : h.get? it = some (siO x tx i)) (hv : SignIs x i y) :
    Does w A (.builtin "str_ascii_iterator.__next__" ⟨[.ref it], []⟩) ⟨h, g, dr, t, os⟩ (fun r h' => (∃ k, r = .ok (.ret (.str y k))) ∧ Ext [it] h h' ∧ h'.get? it = some (siO x tx (i + 1))) := by
  intro R H
  refine codeAny_builtin F.entry_str_ascii_iterator_next ?_
  generalize A.under (.builtin "str_ascii_iterator.__next__" ⟨[.ref it], []⟩) = A'
  obtain ⟨c, h0, hx, rfl⟩ := hv
  have hi' := hi
  unfold siO at hi'
  show wpAny _ _ (field (.ref it) 0 >>= _) _ _ _
  refine wpAny_bind (wpAny_field hi' rfl (x := .str x tx) rfl ?_)
  show wpAny _ _ (field (.ref it) 1 >>= _) _ _ _
  refine wpAny_bind (wpAny_field hi' rfl (x := .int i 0) rfl ?_)
  simp only [hx]
  refine wpAny_bind (wpAny_setField hi' rfl (by simp) (wpAny_bind (wpAny_mkStr (wpAny_pure (H _ _ _ ⟨⟨_, rfl⟩, Ext.of_same (Heap.SameBut.update ..), ?_⟩)))))
  exact Heap.get?_update_self _ hi rfl
theorem cNextS_ok {w : World} {y : Str} : (cNextS y).Holds w where
  ad p σ := ⟨[], rfl⟩
  does p hc := Ends.one fun A h g d t os hA hg => (does_nextS hg hc.1).mono fun r h' P => by
    obtain ⟨⟨k, rfl⟩, e, q⟩ := P
    exact ⟨[k], by simp, rfl, e, q⟩
theorem range_size {n : Int} (h : 0 < n) (h2 : n < 1000) : Builtin.Range.rangeSize 0 n 1 = n ∧ (Builtin.Range.rangeFitsLong 0 && Builtin.Range.rangeFitsLong n && Builtin.Range.rangeFitsLong 1 && Builtin.Range.rangeFitsLong (Builtin.Range.rangeSize 0 n 1) && (Builtin.Range.rangeSize 0 n 1 == 0 || if (1 : Int) > 0 then Builtin.Range.rangeFitsLong (n + (1 - 1)) else Builtin.Range.rangeFitsLong (n + (1 + 1)))) = true := by
  have e : Builtin.Range.rangeSize 0 n 1 = n := by
    unfold Builtin.Range.rangeSize
    rw [if_pos (by decide), if_pos h]
    omega
  have f : ∀ m : Int, 0 ≤ m → m < 2000 → Builtin.Range.rangeFitsLong m = true := fun m a b => by
    unfold Builtin.Range.rangeFitsLong
    rw [Bool.and_eq_true, decide_eq_true_eq, decide_eq_true_eq]
    omega
  refine ⟨e, ?_⟩
  rw [e, f 0 (by decide) (by decide), f n (by omega) (by omega), f 1 (by decide) (by decide), if_pos (by decide), f (n + (1 - 1)) (by omega) (by omega)]
  simp
theorem cRIter_ok {w : World} : cRIter.Holds w where
  ad p σ := ⟨[σ 0], rfl⟩
  does p hc := Ends.make (E := [(p.a, rangeO p.n p.x p.y p.z)]) (o := fun _ => riO 0 p.n) (fun _ => rfl) fun A h g d t os hE R HR => by
    obtain ⟨z1, z2⟩ := range_size hc.1.lo hc.1.hi
    refine code_meets F.entry_range_iter (by decide +kernel) (AutoRange.range___iter___range_1 p.a 0 p.n 1 p.x p.y p.z (by rw [z2]; simp)) ⟨hE.1, ?_⟩
    rw [z2, z1]
    exact HR _ _ _ ⟨[], by simp, rfl, rfl⟩
open Builtin in
theorem meets_divmod (a : Int) (t : Tok) (b : Int) (u : Tok) (h0 : 0 < b) (h1 : b < 1024) :
    Meets (Builtin.«int.__divmod__» ⟨[.int a t, .int b u], []⟩) (fun _ R s => R (.ok (.ret (.ref s.heap.objs.size))) { s with heap := s.heap.push (tup [.int (a.fdiv b) s.toks, .int (a.fmod b) (s.toks + 1)]), toks := s.toks + 2 }) :=
  .of_wp fun prog w A R s h => by
    obtain ⟨hp, g, d, tk, os⟩ := s
    have hz : ¬ (b == 0) = true := by simp; omega
    have hpy := no_pylong (a := a) (b := b) (by omega)
    wp_walk
    exact ⟨_, rfl, h⟩
theorem cDivmod_ok {w : World} : cDivmod.Holds w where
  ad p σ := ⟨[σ 0], rfl⟩
  does p hc := Ends.make (E := []) (o := fun σ => tup [.int (p.a / p.b) (σ 1), .int (p.a % p.b) (σ 2)]) (fun _ => rfl) fun A h g d t os hE R HR => by
    obtain ⟨⟨h1, h2⟩, -⟩ := hc
    refine code_meets F.entry_int_divmod (by decide +kernel) (meets_divmod p.a p.t p.b p.u h1 h2) (HR _ _ _ ⟨[t, t + 1], by simp, rfl, ?_⟩)
    rw [fmod_pos h1, Int.fdiv_eq_ediv_of_nonneg _ (Int.le_of_lt h1)]
    rfl
end Mine
end
section
open PySem PySem.W PySem.W.X PyProof.Rows
namespace Mine
structure LxP where
  (lx d st pl : Nat) (x : LexD) (vs : List Value) (ep : Nat) (y : Str) (ty : Tok)
noncomputable def LxP.E (p : LxP) : Sto := [(p.lx, instOf p.d), (p.d, lexD p.x p.st p.pl), (p.pl, lst p.vs p.ep)]
noncomputable def dictN (o : Obj) : Nat := o.dict.getD 0
noncomputable def cPush (ap : List Value → Value → List Value) : Con LxP where
  lv := 6
  co p := .call (.ref 91) ⟨[.ref p.lx, .str p.y p.ty], []⟩
  E p := p.E
  cs p := [p.vs.length ≤ 100000]
  res p σ := .ok (.ret .none)
  E' p σ := [(p.lx, instOf p.d), (p.d, lexD p.x p.st p.pl), (p.pl, lst (ap p.vs (.str p.y p.ty)) (σ 0))]
noncomputable def cPopT : Con LxP where
  lv := 6
  co p := .call (.ref 84) ⟨[.ref p.lx], []⟩
  E p := [(p.lx, instOf p.d), (p.d, lexD p.x p.st p.pl), (p.pl, lst (.str p.y p.ty :: p.vs) p.ep)]
  cs p := [p.vs.length ≤ 1000]
  res p σ := .ok (.ret (.str p.y p.ty))
  E' p σ := [(p.lx, instOf p.d), (p.d, lexD p.x p.st p.pl), (p.pl, lst p.vs (σ 0))]
noncomputable def gLx (co : Code) (es : List En) : LxP := ⟨refV ((argsOf co).getD 0 .none), dictN (eO es 0), refV (entryAt (eO es 1) 1).val, refV (entryAt (eO es 1) 3).val, lexOf (eO es 1), getV (eO es 2), epO (eO es 2), sOf ((argsOf co).getD 1 .none), tokV ((argsOf co).getD 1 .none)⟩
noncomputable abbrev sPush (ap : List Value → Value → List Value) : SumFn := sumE (cPush ap) 3 gLx
noncomputable def gPx (co : Code) (es : List En) : LxP := ⟨refV ((argsOf co).getD 0 .none), dictN (eO es 0), refV (entryAt (eO es 1) 1).val, refV (entryAt (eO es 1) 3).val, lexOf (eO es 1), (getV (eO es 2)).tail, epO (eO es 2), sOf ((getV (eO es 2)).headD .none), tokV ((getV (eO es 2)).headD .none)⟩
noncomputable abbrev sPopT : SumFn := sumE cPopT 3 gPx
@[irreducible] noncomputable def pu (P : Params) (b : Bool) (K : KT) (pg : Program) (p : LxP) (ap : List Value → Value → List Value) (n t : Nat) (σ : Nat → Nat) : Ou :=
  goC (mkW P b K pg [sApp ap]) 4000 6 (.call (.ref 91) ⟨[.ref p.lx, .str p.y p.ty], []⟩)
  (p.E) n t σ
  [0,0,4,4,4,4,0,0,4,1,0,0,0,0,1,0,0,0,1,1,0,2,3,3,3,3,4,0,3,2,2]
theorem pu_id : @pu = @pu := rfl
lay_z Mine.pu
end Mine
name_z puY for Mine.pu by Mine.pu_id
namespace Mine
theorem pu_r (P : Params) (b : Bool) (p : LxP) (ap : List Value → Value → List Value) (n t : Nat) (σ : Nat → Nat) : Go0 (.ok (.ret .none)) [0, 1, 2] [(p.lx, instOf p.d), (p.d, lexD p.x p.st p.pl), (p.pl, lst (ap p.vs (.str p.y p.ty)) (cutS σ 2))] [p.vs.length ≤ 100000] (pu P b (ktop P) theProg p ap n t σ) := by
  rw [PySem.W.ZFast.puY_eq]
  cases b <;> refine ⟨⟨?_, ?_, ?_, ?_, ?_, ?_⟩, ?_, ?_, ?_⟩ <;> kernel_rfl
theorem cPush_ok {w : World} : (cPush apI).Holds w where
  ad p σ := ⟨[], rfl⟩
  does p hc := Ends.fin (fun n t σ => pu.eq_1 w.params (bOf w) (ktop w.params) theProg p apI n t σ) rfl ⟨cApp_ok.ok _ _, trivial⟩ (fun n t σ => pu_r w.params (bOf w) p apI n t σ) (by decide) (fun _ _ _ _ => hc) fun n t σ _ => ⟨sg [cutS σ 2], sg_z (by simp), rfl, rfl⟩
@[irreducible] noncomputable def gp (P : Params) (b : Bool) (K : KT) (pg : Program) (p : LxP) (k : Nat) (n t : Nat) (σ : Nat → Nat) : Ou :=
  goC (mkW P b K pg [sLen (Int.ofNat (k + 1)), sPop0]) 4000 6 (.call (.ref 84) ⟨[.ref p.lx], []⟩)
  [(p.lx, instOf p.d), (p.d, lexD p.x p.st p.pl), (p.pl, lst (.str p.y p.ty :: p.vs) p.ep)] n t σ
  [0,0,4,4,0,0,4,1,0,0,0,0,1,0,0,0,1,1,0,2,3,3,2,2,4,1,0,0,0,0,1,0,0,0,1,1,0,2,3,3,3,3,0,3,3,2]
theorem gp_id : @gp = @gp := rfl
lay_z Mine.gp
end Mine
name_z gpY for Mine.gp by Mine.gp_id
namespace Mine
theorem gp_r (P : Params) (b : Bool) (p : LxP) (k : Nat) (n t : Nat) (σ : Nat → Nat) : Go0 (.ok (.ret (.str p.y p.ty))) [0, 1, 2] [(p.lx, instOf p.d), (p.d, lexD p.x p.st p.pl), (p.pl, lst p.vs (cutS (shift σ) 2))] [PopV (.str p.y p.ty :: p.vs) (.int 0 (cutS σ 1 + 1)), LenIs (.str p.y p.ty :: p.vs) (Int.ofNat (k + 1))] (gp P b (ktop P) theProg p k n t σ) := by
  rw [PySem.W.ZFast.gpY_eq]
  cases b <;> refine ⟨⟨?_, ?_, ?_, ?_, ?_, ?_⟩, ?_, ?_, ?_⟩ <;> kernel_rfl
theorem cPopT_ok {w : World} : cPopT.Holds w where
  ad p σ := ⟨[], rfl⟩
  does p hc := by
    have hl : p.vs.length ≤ 1000 := hc.1
    exact Ends.fin (fun n t σ => gp.eq_1 w.params (bOf w) (ktop w.params) theProg p p.vs.length n t σ) rfl ⟨cLen_ok.ok _ _, cPop_ok.ok _ _, trivial⟩ (fun n t σ => gp_r w.params (bOf w) p p.vs.length n t σ) (by decide) (fun _ _ _ _ => ⟨⟨by simp; omega, _, _, _, rfl, rfl⟩, ⟨rfl, by simp; omega⟩, trivial⟩) fun n t σ _ => ⟨sg [cutS (shift σ) 2], sg_z (by simp), rfl, rfl⟩
end Mine
end
section
open PySem PySem.W PySem.W.X PyProof.Rows
namespace Mine
noncomputable def fdK (K : KT) (a : Nat) : FuncData := match K.get a with
  | some o => match o.data with
    | .func fd => fd
    | _ => default
  | none => default
noncomputable def stmtsOf (fd : FuncData) : List Stmt := match fd.body with
  | .stmts l => l
  | _ => []
noncomputable def valS : Stmt → Expr
  | .Assign _ e _ => e
  | .Return (some e) _ => e
  | _ => .Constant .none 0 ⟨0, 0, 0, 0⟩
noncomputable def lamArgs : Expr → Arguments
  | .Lambda a _ _ _ => a
  | _ => default
noncomputable def lamBody : Expr → Expr
  | .Lambda _ b _ _ => b
  | e => e
noncomputable def lamScope : Expr → Scope
  | .Lambda _ _ s _ => s
  | _ => default
noncomputable def fnD (K : KT) (f i : Nat) (nm q : Str) (cl : List (Str × Nat)) (c ct : Value) : FuncData :=
  { name := nm, qualname := q, params := argsS (nthS (stmtsOf (fdK K f)) i), body := .stmts (bodyS (nthS (stmtsOf (fdK K f)) i)), scope := scopeS (nthS (stmtsOf (fdK K f)) i), globals := 3, closure := cl, defaults := .none, kwdefaults := .none, pyModule := (fdK K f).pyModule, code := c, closureTuple := ct, builtins := 0 }
noncomputable def laD (K : KT) (f : Nat) (e : Expr) (q : Str) (cl : List (Str × Nat)) (c ct : Value) : FuncData :=
  { name := "<lambda>", qualname := q, params := lamArgs e, body := .expr (lamBody e), scope := lamScope e, globals := 3, closure := cl, defaults := .none, kwdefaults := .none, pyModule := (fdK K f).pyModule, code := c, closureTuple := ct, builtins := 0 }
noncomputable def codeK (nm q : Str) (ln ac fl : Int) (k : Nat → Nat) : Obj := { cls := .type "code", data := .fields #[.str nm (k 0), .str q (k 1), .str "/claim/cut.py" (k 2), rawInt ln, rawInt ac, rawInt 0, rawInt 0, rawInt fl, .ref (k 3), .bool true, rawInt 181, .ref (k 4), .none, .ref (k 5), .ref (k 6), .ref (k 7), .int (k 8) 0, rawInt ln, .str "/claim/cut.py" (k 9)] }
noncomputable def hK (P : Params) (s : Str) : Int := PySem.PyData.keyHash P s
theorem hK_id : @hK = @hK := rfl
lay_z Mine.hK
end Mine
name_z hKY for Mine.hK by Mine.hK_id
namespace Mine
noncomputable def kL (l : List Nat) (i : Nat) : Nat := l.getD i 0
structure Mc where
  (lx d st pl at_ sd rd rc ca cs ct lc : Nat) (k : Nat → Nat) (hr : Int) (kr : Tok) (sheet : Str) (tk : Tok)
noncomputable def oRd (K : KT) (m : Mc) : Obj := { cls := .type "function", data := .func (fnD K 112 1 "_law_read_on" "_law_machine.<locals>._law_read_on" [("sheet", m.cs), ("at", m.ca)] (.ref m.rc) (.ref m.ct)) }
noncomputable def oSt (K : KT) (m : Mc) : Obj := { cls := .type "function", dict := some m.sd, data := .func (laD K 112 (valS (nthS (stmtsOf (fdK K 112)) 2)) "_law_machine.<locals>.<lambda>" [] (.ref m.lc) .none) }
noncomputable def oSd (m : Mc) : Obj := { cls := .type "dict", data := .dict #[⟨m.hr, .str "read" m.kr, .ref m.rd⟩] 1 }
noncomputable def oRc (k : Nat → Nat) : Obj := codeK "_law_read_on" "_law_machine.<locals>._law_read_on" 134 1 19 k
noncomputable def Mc.C (K : KT) (m : Mc) : Sto := [(m.lx, instOf m.d), (m.st, oSt K m), (m.sd, oSd m), (m.rd, oRd K m), (m.ca, cellOf (.ref m.at_)), (m.cs, cellOf (.str m.sheet m.tk))]
noncomputable def Mc.V (m : Mc) (x : LexD) (pos : Int) (tp : Tok) (vs : List Value) (ep : Nat) : Sto := [(m.d, lexD x m.st m.pl), (m.at_, lst [.int pos tp] 0), (m.pl, lst vs ep)]
noncomputable def table107 (rc lc : Nat) : Obj := tableOf [rawInt 134, rawInt 4, .ref rc, rawInt 138, rawInt 13, .ref lc]
noncomputable def kA (n t : Nat) : Nat → Nat := kL [t + 1, t + 2, t + 3, n + 5, n + 6, n + 7, n + 8, n + 9, t + 8, t + 9]
noncomputable def mcA (hf : Str → Int) (n t : Nat) (sheet : Str) (tk : Tok) : Mc := ⟨n + 21, n + 20, n + 18, n + 23, n + 3, n + 19, n + 11, n + 10, n + 2, n + 1, n + 4, n + 17, kA n t, hf "read", t + 18, sheet, tk⟩
noncomputable def mcB (hf : Str → Int) (n t rc lc : Nat) (k : Nat → Nat) (sheet : Str) (tk : Tok) : Mc := ⟨n + 9, n + 8, n + 6, n + 11, n + 3, n + 7, n + 5, rc, n + 2, n + 1, n + 4, lc, k, hf "read", t + 4, sheet, tk⟩
noncomputable def lxN (hf : Str → Int) (t : Nat) : LexD := ⟨hf "lineno", hf "instream", hf "whitespace", hf "pushback", t + 2, t + 4, t + 7, t + 9, t, t + 5, 1⟩
structure ShP where
  (sheet : Str) (tk : Tok)
noncomputable def eA0 (K : KT) (m : Mc) (lx : LexD) (tp : Tok) : Sto := [(107, table107 m.rc m.lc), (m.lx, instOf m.d), (m.st, oSt K m), (m.sd, oSd m), (m.rd, oRd K m), (m.ca, cellOf (.ref m.at_)), (m.cs, cellOf (.str m.sheet m.tk)), (m.d, lexD lx m.st m.pl), (m.at_, lst [.int 0 tp] 0), (m.pl, lst [] 0), (m.rc, oRc m.k)]
noncomputable def eB0 (K : KT) (m : Mc) (lx : LexD) (tp : Tok) : Sto := [(107, table107 m.rc m.lc), (m.lx, instOf m.d), (m.st, oSt K m), (m.sd, oSd m), (m.rd, oRd K m), (m.ca, cellOf (.ref m.at_)), (m.cs, cellOf (.str m.sheet m.tk)), (m.d, lexD lx m.st m.pl), (m.at_, lst [.int 0 tp] 0), (m.pl, lst [] 0)]
noncomputable def gSh (co : Code) (es : List En) : ShP := ⟨sOf ((argsOf co).getD 0 .none), tokV ((argsOf co).getD 0 .none)⟩
noncomputable def cMachA (K : KT) (hf : Str → Int) : Con ShP where
  lv := 6
  co p := .call (.ref 112) ⟨[.str p.sheet p.tk], []⟩
  E p := [(107, tableOf [])]
  cs p := []
  res p σ := .ok (.ret (.ref (σ 0 + 21)))
  E' p σ := eA0 K (mcA hf (σ 0) (σ 1) p.sheet p.tk) (lxN hf (σ 1 + 21)) (σ 1)
noncomputable abbrev sMachA (K : KT) (hf : Str → Int) : SumFn := sumE (cMachA K hf) 1 gSh
structure MbP where
  (rc lc : Nat) (k : Nat → Nat) (sheet : Str) (tk : Tok)
noncomputable def cMachB (K : KT) (hf : Str → Int) (k : Nat → Nat) : Con MbP where
  lv := 6
  co p := .call (.ref 112) ⟨[.str p.sheet p.tk], []⟩
  E p := [(107, table107 p.rc p.lc)]
  cs p := []
  res p σ := .ok (.ret (.ref (σ 0 + 9)))
  E' p σ := eB0 K (mcB hf (σ 0) (σ 1) p.rc p.lc k p.sheet p.tk) (lxN hf (σ 1 + 7)) (σ 1)
noncomputable def gMb (co : Code) (es : List En) : MbP := ⟨refV (fldF (eO es 0) 2), refV (fldF (eO es 0) 5), fun _ => 0, sOf ((argsOf co).getD 0 .none), tokV ((argsOf co).getD 0 .none)⟩
noncomputable abbrev sMachB (K : KT) (hf : Str → Int) (k : Nat → Nat) : SumFn := sumE (cMachB K hf k) 1 gMb
@[irreducible] noncomputable def mA (P : Params) (b : Bool) (K : KT) (pg : Program) (sheet : Str) (tk : Tok) (n t : Nat) (σ : Nat → Nat) : Ou :=
  goC (mkW P b K pg []) 4000 6 (.call (.ref 112) ⟨[.str sheet tk], []⟩)
  [(107, tableOf [])] n t σ
  [0,0,3,3,0,0,4,4,0,1,1,1,1,0,0,0,2,2,0,1,1,1,1,0,0,0,2,2,2,2,20,0,20,0,20,20,20,20,21,21,21,0,2,0,0,0,0,0,0,0,0,0,0,0,0,0,0,0,0,0,0,0,0,0,0,0,0,0,0,0,0,0,0,0,0,0,0,23,0,23,0,0,0,0,0,0,0,24,24,24,24,0,0,24,23,0,0,0,0,23,0,0,23,0,23,0,0,0,23,0,22,22,22,24,24,23,0,0,0,0,23,0,0,23,0,23,0,0,0,23,0,22,22,22,24,23,0,0,0,0,23,0,0,23,0,23,0,0,0,23,0,22,22,22,24,23,0,0,0,0,23,0,0,23,0,23,0,0,0,23,0,22,22,22]
theorem mA_id : @mA = @mA := rfl
lay_z Mine.mA
end Mine
name_z mAY for Mine.mA by Mine.mA_id
namespace Mine
theorem mA_r (P : Params) (b : Bool) (sheet : Str) (tk : Tok) (n t : Nat) (σ : Nat → Nat) : Go0 (.ok (.ret (.ref (n + 21)))) [0, 22, 19, 20, 12, 3, 2, 21, 4, 24, 11] (eA0 (ktop P) (mcA (PySem.W.ZFast.hKY P) n t sheet tk) (lxN (PySem.W.ZFast.hKY P) (t + 21)) t) [] (mA P b (ktop P) theProg sheet tk n t σ) := by
  rw [PySem.W.ZFast.mAY_eq]
  cases b <;> refine ⟨⟨?_, ?_, ?_, ?_, ?_, ?_⟩, ?_, ?_, ?_⟩ <;> kernel_rfl
theorem cMachA_ok {w : World} : (cMachA (ktop w.params) (PySem.W.ZFast.hKY w.params)).Holds w where
  ad p σ := ⟨_, rfl⟩
  does p hc := Ends.fin (fun n t σ => mA.eq_1 w.params (bOf w) (ktop w.params) theProg p.sheet p.tk n t σ) rfl trivial (fun n t σ => mA_r w.params (bOf w) p.sheet p.tk n t σ) (by decide) (fun _ _ _ _ => trivial) fun n t σ _ => ⟨sg [n, t], sg_z (by simp), rfl, rfl⟩
@[irreducible] noncomputable def mB (P : Params) (b : Bool) (K : KT) (pg : Program) (p : MbP) (n t : Nat) (σ : Nat → Nat) : Ou :=
  goC (mkW P b K pg []) 4000 6 (.call (.ref 112) ⟨[.str p.sheet p.tk], []⟩)
  [(107, table107 p.rc p.lc)] n t σ
  [0,0,3,3,0,0,4,4,0,1,0,0,0,2,2,0,1,0,0,0,2,2,2,2,8,0,8,0,8,8,8,8,9,9,9,0,2,0,0,0,0,0,0,0,0,0,0,0,0,0,0,0,0,0,0,0,0,0,0,0,0,0,0,0,0,0,0,0,0,0,0,11,0,11,0,0,0,0,0,0,0,12,12,12,12,0,0,12,11,0,0,0,0,11,0,0,11,0,11,0,0,0,11,0,10,10,10,12,12,11,0,0,0,0,11,0,0,11,0,11,0,0,0,11,0,10,10,10,12,11,0,0,0,0,11,0,0,11,0,11,0,0,0,11,0,10,10,10,12,11,0,0,0,0,11,0,0,11,0,11,0,0,0,11,0,10,10,10]
theorem mB_id : @mB = @mB := rfl
lay_z Mine.mB
end Mine
name_z mBY for Mine.mB by Mine.mB_id
namespace Mine
theorem mB_r (P : Params) (b : Bool) (p : MbP) (n t : Nat) (σ : Nat → Nat) : Go0 (.ok (.ret (.ref (n + 9)))) [0, 10, 7, 8, 6, 3, 2, 9, 4, 12] (eB0 (ktop P) (mcB (PySem.W.ZFast.hKY P) n t p.rc p.lc p.k p.sheet p.tk) (lxN (PySem.W.ZFast.hKY P) (t + 7)) t) [] (mB P b (ktop P) theProg p n t σ) := by
  rw [PySem.W.ZFast.mBY_eq]
  cases b <;> refine ⟨⟨?_, ?_, ?_, ?_, ?_, ?_⟩, ?_, ?_, ?_⟩ <;> kernel_rfl
theorem cMachB_ok {w : World} {k : Nat → Nat} : (cMachB (ktop w.params) (PySem.W.ZFast.hKY w.params) k).Holds w where
  ad p σ := ⟨_, rfl⟩
  does p hc := Ends.fin (fun n t σ => mB.eq_1 w.params (bOf w) (ktop w.params) theProg { p with k := k } n t σ) rfl trivial (fun n t σ => mB_r w.params (bOf w) { p with k := k } n t σ) (by decide) (fun _ _ _ _ => trivial) fun n t σ _ => ⟨sg [n, t], sg_z (by simp), rfl, rfl⟩
end Mine
end
section
open PySem PySem.W PySem.W.X PyProof.Rows
namespace Mine
noncomputable def rowT (k : Nat) : List Nat := match k % 3 with
  | 0 => [97 + k, 10]
  | 1 => [34, 97 + k, 32, 34, 10]
  | _ => [92, 97 + k, 92, 34, 10]
noncomputable def preT : Nat → List Nat
  | 0 => rowT 0
  | k + 1 => preT k ++ rowT (k + 1)
noncomputable def nameT (k : Nat) : List Nat := match k % 3 with
  | 0 => [97 + k]
  | 1 => [97 + k, 32]
  | _ => [97 + k, 34]
noncomputable def posT (k : Nat) : Int := kL [0, 2, 6, 12, 14, 18, 24, 26, 30, 36, 38, 42, 48, 50, 54, 60, 62] k
noncomputable def lineT (k : Nat) : Int := match k % 3 with
  | 0 => 1
  | 1 => 0
  | _ => 2
noncomputable def sheetT (k : Nat) (rest : List Nat) : Str := ⟨(preT k ++ rest).toArray⟩
noncomputable def nmS (k : Nat) : Str := ⟨(nameT k).toArray⟩
noncomputable def Mc.E (K : KT) (m : Mc) (x : LexD) (pos : Int) (tp : Tok) (vs : List Value) (ep : Nat) : Sto := [(m.lx, instOf m.d), (m.st, oSt K m), (m.sd, oSd m), (m.rd, oRd K m), (m.ca, cellOf (.ref m.at_)), (m.cs, cellOf (.str m.sheet m.tk)), (m.rc, oRc m.k), (m.d, lexD x m.st m.pl), (m.at_, lst [.int pos tp] 0), (m.pl, lst vs ep)]
noncomputable def mcDev : Mc := ⟨1001, 1002, 1003, 1004, 1005, 1006, 1007, 1008, 1009, 1010, 1011, 1012, fun i => 2000 + i, 0, 2100, "", 2101⟩
noncomputable def lxDev : LexD := ⟨1, 2, 3, 4, 5, 6, 7, 8, 9, 10, 11⟩
@[irreducible] noncomputable def gs0 (P : Params) (b : Bool) (K : KT) (pg : Program) (k : Nat) (m : Mc) (rest : List Nat) (x : LexD) (tp : Tok) (ep : Nat) (n t : Nat) (σ : Nat → Nat) : Ou :=
  goC (mkW P b K pg []) 4000 12 (.call (.ref 84) ⟨[.ref m.lx], []⟩)
  (Mc.E K { m with sheet := sheetT k rest } x (posT k) tp [] ep) n t σ
  [0,0,11,11,0,0,11,1,0,0,0,0,1,0,0,0,1,1,0,8,10,10,0,10,0,10,0,10,11,11,0,0,11,1,0,0,0,0,1,0,0,0,0,0,0,1,1,0,8,0,0,0,0,0,0,0,0,12,11,11,11,13,13,0,13,0,13,0,13,0,13,0,13,13,12,0,0,12,12,0,0,0,14,14,0,0,14,1,0,0,0,0,1,0,0,0,1,1,0,8,2,2,2,2,0,2,0,2,2,2,3,4,0,4,7,15,15,0,0,6,5,9,9,9,0,9,0,9,5,9,9,9,0,9,0,9,15,0,0,0,0,16,16,16,16,15,15,5,9,9,9,0,9,0,9,0,0,15,0,0,0,0,0,0,5,9,9,0,9,0,9,9,9,15,14,14,14,0,0,14,13,13,0,0,11,11,11,11,1,0,0,0,0,1,0,0,0,1,1,0,8,0,0,11,0,0,11,0,0,11,11,0,0,11,11,11,13,13,0,13,0,13,0,13,0,13,0,13,13,12,0,0,12,12,0,0,0,17,17,0,0,17,1,0,0,0,0,1,0,0,0,1,1,0,8,2,2,2,2,0,2,0,2,2,2,3,4,0,4,7,18,18,0,0,6,5,9,9,9,0,9,0,9,5,9,9,9,0,9,0,9,18,0,0,0,0,19,19,19,19,18,18,5,9,9,9,0,9,0,9,0,0,18,0,0,0,0,0,0,5,9,9,0,9,0,9,9,9,18,17,17,17,0,0,17,1,0,0,0,0,1,0,0,0,1,1,0,8,0,0,1,0,0,0,0,1,0,0,1,0,1,0,0,0,1,0,8,8,8,17,13,13,0,0,11,11,11,11,1,0,0,0,0,1,0,0,0,1,1,0,8,0,0,11]
theorem gs0_id : @gs0 = @gs0 := rfl
lay_z Mine.gs0
end Mine
name_z gs0Y for Mine.gs0 by Mine.gs0_id
namespace Mine
theorem gs0_r (P : Params) (b : Bool) (k : Nat) (m : Mc) (rest : List Nat) (x : LexD) (tp : Tok) (ep : Nat) (n t : Nat) (σ : Nat → Nat) (hk : k = 0 ∨ k = 3 ∨ k = 6 ∨ k = 9 ∨ k = 12 ∨ k = 15) : Go0 (.ok (.ret (.str (nmS k) (t + 17)))) [0, 1, 2, 3, 4, 5, 6, 7, 8, 9] (Mc.E (ktop P) { m with sheet := sheetT k rest } { x with line := x.line + 1, lt := t + 50 } (posT (k + 1)) (t + 44) [] ep) [] (gs0 P b (ktop P) theProg k m rest x tp ep n t σ) := by
  rw [PySem.W.ZFast.gs0Y_eq]
  rcases hk with rfl | rfl | rfl | rfl | rfl | rfl <;> cases b <;> refine ⟨⟨?_, ?_, ?_, ?_, ?_, ?_⟩, ?_, ?_, ?_⟩ <;> kernel_rfl
@[irreducible] noncomputable def gs1 (P : Params) (b : Bool) (K : KT) (pg : Program) (k : Nat) (m : Mc) (rest : List Nat) (x : LexD) (tp : Tok) (ep : Nat) (n t : Nat) (σ : Nat → Nat) : Ou :=
  goC (mkW P b K pg []) 4000 12 (.call (.ref 84) ⟨[.ref m.lx], []⟩)
  (Mc.E K { m with sheet := sheetT k rest } x (posT k) tp [] ep) n t σ
  [0,0,11,11,0,0,11,1,0,0,0,0,1,0,0,0,1,1,0,8,10,10,0,10,0,10,0,10,11,11,0,0,11,1,0,0,0,0,1,0,0,0,0,0,0,1,1,0,8,0,0,0,0,0,0,0,0,12,11,11,11,13,13,0,13,0,13,0,13,0,13,0,13,13,12,0,0,12,12,0,0,0,14,14,0,0,14,1,0,0,0,0,1,0,0,0,1,1,0,8,2,2,2,2,0,2,0,2,2,2,3,4,0,4,7,15,15,0,0,6,5,9,9,9,0,9,0,9,5,9,9,9,0,9,0,9,15,0,0,0,0,16,16,16,16,15,15,5,9,9,9,0,9,0,9,0,0,15,0,0,0,0,0,0,5,9,9,0,9,0,9,9,9,15,14,14,14,0,0,14,13,13,0,0,11,11,11,11,1,0,0,0,0,1,0,0,0,1,1,0,8,0,0,11,0,0,11,13,13,0,13,0,13,0,13,0,13,0,13,13,12,0,0,12,12,0,0,0,17,17,0,0,17,1,0,0,0,0,1,0,0,0,1,1,0,8,2,2,2,2,0,2,0,2,2,2,3,4,0,4,7,18,18,0,0,6,5,9,9,9,0,9,0,9,5,9,9,9,0,9,0,9,18,0,0,0,0,19,19,19,19,18,18,5,9,9,9,0,9,0,9,0,0,18,0,0,0,0,0,0,5,9,9,0,9,0,9,9,9,18,17,17,17,0,0,17,13,13,0,0,11,11,11,0,0,11,0,0,11,11,0,0,11,11,0,13,0,13,0,13,13,12,0,0,12,12,0,0,0,20,20,0,0,20,1,0,0,0,0,1,0,0,0,1,1,0,8,2,2,2,2,0,2,0,2,2,2,3,4,0,4,7,21,21,0,0,6,5,9,9,9,0,9,0,9,5,9,9,9,0,9,0,9,21,0,0,0,0,22,22,22,22,21,21,5,9,9,9,0,9,0,9,0,0,21,0,0,0,0,0,0,5,9,9,0,9,0,9,9,9,21,20,20,20,0,0,20,13,13,0,0,11,11,11,0,0,11,0,0,11,11,0,0,11,11,0,13,0,13,0,13,13,12,0,0,12,12,0,0,0,23,23,0,0,23,1,0,0,0,0,1,0,0,0,1,1,0,8,2,2,2,2,0,2,0,2,2,2,3,4,0,4,7,24,24,0,0,6,5,9,9,9,0,9,0,9,5,9,9,9,0,9,0,9,24,0,0,0,0,25,25,25,25,24,24,5,9,9,9,0,9,0,9,0,0,24,0,0,0,0,0,0,5,9,9,0,9,0,9,9,9,24,23,23,23,0,0,23,13,13,0,0,11,11,11,0,0,11]
theorem gs1_id : @gs1 = @gs1 := rfl
lay_z Mine.gs1
end Mine
name_z gs1Y for Mine.gs1 by Mine.gs1_id
namespace Mine
theorem gs1_r (P : Params) (b : Bool) (k : Nat) (m : Mc) (rest : List Nat) (x : LexD) (tp : Tok) (ep : Nat) (n t : Nat) (σ : Nat → Nat) (hk : k = 1 ∨ k = 4 ∨ k = 7 ∨ k = 10 ∨ k = 13) : Go0 (.ok (.ret (.str (nmS k) (t + 70)))) [0, 1, 2, 3, 4, 5, 6, 7, 8, 9] (Mc.E (ktop P) { m with sheet := sheetT k rest } x (posT (k + 1)) (t + 85) [] ep) [] (gs1 P b (ktop P) theProg k m rest x tp ep n t σ) := by
  rw [PySem.W.ZFast.gs1Y_eq]
  rcases hk with rfl | rfl | rfl | rfl | rfl <;> cases b <;> refine ⟨⟨?_, ?_, ?_, ?_, ?_, ?_⟩, ?_, ?_, ?_⟩ <;> kernel_rfl
@[irreducible] noncomputable def gs2 (P : Params) (b : Bool) (K : KT) (pg : Program) (k : Nat) (m : Mc) (rest : List Nat) (x : LexD) (tp : Tok) (ep : Nat) (n t : Nat) (σ : Nat → Nat) : Ou :=
  goC (mkW P b K pg []) 4000 12 (.call (.ref 84) ⟨[.ref m.lx], []⟩)
  (Mc.E K { m with sheet := sheetT k rest } x (posT k) tp [] ep) n t σ
  [0,0,11,11,0,0,11,1,0,0,0,0,1,0,0,0,1,1,0,8,10,10,0,10,0,10,0,10,11,11,0,0,11,1,0,0,0,0,1,0,0,0,0,0,0,1,1,0,8,0,0,0,0,0,0,0,0,12,11,11,11,13,13,0,13,0,13,0,13,0,13,0,13,13,12,0,0,12,12,0,0,0,14,14,0,0,14,1,0,0,0,0,1,0,0,0,1,1,0,8,2,2,2,2,0,2,0,2,2,2,3,4,0,4,7,15,15,0,0,6,5,9,9,9,0,9,0,9,5,9,9,9,0,9,0,9,15,0,0,0,0,16,16,16,16,15,15,5,9,9,9,0,9,0,9,0,0,15,0,0,0,0,0,0,5,9,9,0,9,0,9,9,9,15,14,14,14,0,0,14,1,0,0,0,0,1,0,0,0,1,1,0,8,0,0,1,0,0,0,0,1,0,0,1,0,1,0,0,0,1,0,8,8,8,14,13,13,0,0,11,11,11,11,1,0,0,0,0,1,0,0,0,1,1,0,8,0,0,0,13,0,13,0,13,13,12,0,0,12,12,0,0,0,17,17,0,0,17,1,0,0,0,0,1,0,0,0,1,1,0,8,2,2,2,2,0,2,0,2,2,2,3,4,0,4,7,18,18,0,0,6,5,9,9,9,0,9,0,9,5,9,9,9,0,9,0,9,18,0,0,0,0,19,19,19,19,18,18,5,9,9,9,0,9,0,9,0,0,18,0,0,0,0,0,0,5,9,9,0,9,0,9,9,9,18,17,17,17,0,0,17,13,13,0,0,11,11,11,11,1,0,0,0,0,1,0,0,0,1,1,0,8,0,0,11,0,0,11,0,0,11,1,0,0,0,1,0,0,0,1,0,0,0,0,1,8,0,0,0,0,20,20,0,0,20,1,0,0,0,0,1,0,0,0,1,1,0,8,2,2,2,2,0,2,0,2,2,2,3,4,0,4,7,21,21,0,0,6,5,9,9,9,0,9,0,9,5,9,9,9,0,9,0,9,21,0,0,0,0,22,22,22,22,21,21,5,9,9,9,0,9,0,9,0,0,21,0,0,0,0,0,0,5,9,9,0,9,0,9,9,9,21,20,20,20,0,0,20,11,11,11,11,0,0,11,11,11,13,13,0,13,0,13,0,13,0,13,0,13,13,12,0,0,12,12,0,0,0,23,23,0,0,23,1,0,0,0,0,1,0,0,0,1,1,0,8,2,2,2,2,0,2,0,2,2,2,3,4,0,4,7,24,24,0,0,6,5,9,9,9,0,9,0,9,5,9,9,9,0,9,0,9,24,0,0,0,0,25,25,25,25,24,24,5,9,9,9,0,9,0,9,0,0,24,0,0,0,0,0,0,5,9,9,0,9,0,9,9,9,24,23,23,23,0,0,23,13,13,0,0,11,11,11,11,1,0,0,0,0,1,0,0,0,1,1,0,8,0,0,11,0,0,11,1,0,0,0,1,0,0,0,1,0,0,0,0,1,8,0,0,0,0,26,26,0,0,26,1,0,0,0,0,1,0,0,0,1,1,0,8,2,2,2,2,0,2,0,2,2,2,3,4,0,4,7,27,27,0,0,6,5,9,9,9,0,9,0,9,5,9,9,9,0,9,0,9,27,0,0,0,0,28,28,28,28,27,27,5,9,9,9,0,9,0,9,0,0,27,0,0,0,0,0,0,5,9,9,0,9,0,9,9,9,27,26,26,26,0,0,26,11,11,11,11,0,0,11,11,0,13,0,13,0,13,13,12,0,0,12,12,0,0,0,29,29,0,0,29,1,0,0,0,0,1,0,0,0,1,1,0,8,2,2,2,2,0,2,0,2,2,2,3,4,0,4,7,30,30,0,0,6,5,9,9,9,0,9,0,9,5,9,9,9,0,9,0,9,30,0,0,0,0,31,31,31,31,30,30,5,9,9,9,0,9,0,9,0,0,30,0,0,0,0,0,0,5,9,9,0,9,0,9,9,9,30,29,29,29,0,0,29,1,0,0,0,0,1,0,0,0,1,1,0,8,0,0,1,0,0,0,0,1,0,0,1,0,1,0,0,0,1,0,8,8,8,29,13,13,0,0,11,11,11,11,1,0,0,0,0,1,0,0,0,1,1,0,8,0,0,11]
theorem gs2_id : @gs2 = @gs2 := rfl
lay_z Mine.gs2
end Mine
name_z gs2Y for Mine.gs2 by Mine.gs2_id
namespace Mine
theorem gs2_r (P : Params) (b : Bool) (k : Nat) (m : Mc) (rest : List Nat) (x : LexD) (tp : Tok) (ep : Nat) (n t : Nat) (σ : Nat → Nat) (hk : k = 2 ∨ k = 5 ∨ k = 8 ∨ k = 11 ∨ k = 14) : Go0 (.ok (.ret (.str (nmS k) (t + 111)))) [0, 1, 2, 3, 4, 5, 6, 7, 8, 9] (Mc.E (ktop P) { m with sheet := sheetT k rest } { x with line := x.line + 1 + 1, lt := t + 132 } (posT (k + 1)) (t + 126) [] ep) [] (gs2 P b (ktop P) theProg k m rest x tp ep n t σ) := by
  rw [PySem.W.ZFast.gs2Y_eq]
  rcases hk with rfl | rfl | rfl | rfl | rfl <;> cases b <;> refine ⟨⟨?_, ?_, ?_, ?_, ?_, ?_⟩, ?_, ?_, ?_⟩ <;> kernel_rfl
end Mine
end
section
open PySem PySem.W PySem.W.X PyProof.Rows
namespace Mine
noncomputable def Tr (w : World) (lv : Nat) (co : Code) (E : Sto) (P : Code → Sto → Prop) : Prop :=
  ∀ (A : Around) (h : Heap) (g : Array GenState) (d : Drawn) (t : Nat) (os : OsState) (R : Result → Shared → Prop), Room A (6 * lv + 6) → St w h E →
    (∀ C h' t' E', P C E' → St w h' E' → Grow E E' h h' → codeAny (model theProg w) A C R ⟨h', g, d, t', os⟩) → codeAny (model theProg w) A co R ⟨h, g, d, t, os⟩
section
variable {w : World} {lv : Nat} {co : Code} {E : Sto} {P : Code → Sto → Prop} {Q : Result → Sto → Prop}
theorem Tr.of {sums : List SumFn} {fuel : Nat} {orc : List Nat} {X : Nat → Nat → (Nat → Nat) → Ou} {J : List Nat} {E' : Nat → Nat → (Nat → Nat) → Sto} {cs : Nat → Nat → (Nat → Nat) → List Prop} {C : Nat → Nat → (Nat → Nat) → Code}
    (hX : ∀ n t σ, X n t σ = goC (mkW w.params (bOf w) (ktop w.params) theProg sums) fuel lv co E n t σ orc) (hc : co.isCaller = false) (hs : SOk w sums)
    (F : ∀ n t σ, Go1 (C n t σ) J (E' n t σ) (cs n t σ) (X n t σ)) (hJ : J.Nodup) (ha : ∀ n t σ, 152 ≤ n → AllP (cs n t σ)) : Tr w lv co E (fun D G => ∃ n t σ, D = C n t σ ∧ G = E' n t σ) := by
  intro A h g d t os R hA S hR
  have O := mkW_ok S hs.all
  have hU := hA.under hc
  refine codeAny_of_tree (denQ_sound (by have := hU.2; omega) (by have := hU.2; omega) (wpAny_mono (go_sound g d os A R O fuel lv (denQ co) [] (ofL E 0 .nil) E.length h.objs.size 0 t 0 orc [] [] _ h (fun σ => ?_) (Rp.start S) rfl hU hA) (fun f s' x => ?_) (fun _ _ x => x)))
  · show Fine _ _ _ _ _ _ _ _ (goC (mkW w.params (bOf w) (ktop w.params) theProg sums) fuel lv co E h.objs.size t σ orc)
    rw [← hX]
    have f := F h.objs.size t σ
    refine ⟨?_, f.run.eqs, acs_ok f.run (by rw [f.cs]; exact ha _ t σ S.sz)⟩
    generalize X h.objs.size t σ = Y at f
    obtain ⟨r, cd, sk, en, -⟩ := f
    cases Y with
    | cut co' stk lv' T m n' c t' i e a =>
      intro h' fs hfs hRm D hs'
      cases fs with
      | cons p q => rw [← hfs] at sk; cases sk
      | nil =>
        obtain ⟨S', N⟩ := St.of O D hJ en
        cases cd
        exact hR _ h' _ _ ⟨_, t, σ, rfl, rfl⟩ S' ⟨D.ext, N⟩
    | fin => cases r.kind
    | bad => cases r.kind
  · cases f <;> exact x
theorem Tr.ends (T : Tr w lv co E P) (H : ∀ C G, P C G → Ends w lv C G Q) : Ends w lv co E Q := fun A h g d t os R hA S hR =>
  T A h g d t os R hA S fun C h' t' E' p S' G' => H C E' p A h' g d t' os R hA S' fun r h2 t2 E2 q S2 G2 => hR r h2 t2 E2 q S2 (G'.trans G2)
theorem St.perm {h : Heap} {E F : Sto} (p : E.Perm F) (S : St w h E) : St w h F :=
  have pa : E.ad.Perm F.ad := p.map _
  ⟨S.tops, S.sz, AllAt.of fun q hq => S.at_.get q (p.mem_iff.mpr hq), pa.nodup_iff.mp S.nd, fun a ha => S.lo a (pa.mem_iff.mpr ha)⟩
theorem Grow.refl (E : Sto) (h : Heap) : Grow E E h h := ⟨(Ext.refl h).mono fun _ hm => (nomatch hm), fun a ha => .inl ha⟩
theorem Grow.perm {E F E' F' : Sto} {h h' : Heap} (p : E.Perm F) (q : E'.Perm F') (G : Grow E E' h h') : Grow F F' h h' :=
  have pa : E.ad.Perm F.ad := p.map _
  have qa : E'.ad.Perm F'.ad := q.map _
  ⟨G.ext.mono fun a ha => .inl (pa.mem_iff.mp ha), fun a ha => (G.new a (qa.mem_iff.mpr ha)).imp_left pa.mem_iff.mp⟩
theorem Ends.perm {F : Sto} {Q' : Result → Sto → Prop} (p : F.Perm E) (H : Ends w lv co E Q) (hq : ∀ r G, Q r G → ∃ G', G.Perm G' ∧ Q' r G') : Ends w lv co F Q' := fun A h g d t os R hA S hR =>
  H A h g d t os R hA (S.perm p) fun r h' t' E' q S' G => by
    obtain ⟨G', p', q'⟩ := hq r E' q
    exact hR r h' t' G' q' (S'.perm p') (G.perm p.symm p')
theorem Ends.perm' {F : Sto} (p : F.Perm E) (H : Ends w lv co E Q) : Ends w lv co F Q := H.perm p fun r G q => ⟨G, .refl _, q⟩
theorem Grow.frame {E' F : Sto} {h h' : Heap} (S : St w h (E ++ F)) (S' : St w h' E') (G : Grow E E' h h') : St w h' (E' ++ F) ∧ Grow (E ++ F) (E' ++ F) h h' := by
  obtain ⟨tp, sz, at_, nd, lo⟩ := S
  rw [Sto.ad_app] at nd lo
  obtain ⟨n1, n2, n3⟩ := List.nodup_append.mp nd
  have a2 : ∀ p ∈ F, h.get? p.1 = some p.2 := fun p hp => at_.get p (List.mem_append_right _ hp)
  refine ⟨⟨S'.tops, S'.sz, AllAt.of fun p hp => ?_, ?_, fun a ha => ?_⟩, ⟨?_, fun a ha => ?_⟩⟩
  · rcases List.mem_append.mp hp with z | z
    · exact S'.at_.get p z
    · exact G.ext.1 _ _ (a2 p z) fun y => n3 _ y _ (List.mem_map_of_mem z) rfl
  · rw [Sto.ad_app]
    refine List.nodup_append.mpr ⟨S'.nd, n2, fun a ha b hb e => ?_⟩
    subst e
    rcases G.new a ha with z | z
    · exact n3 a z a hb rfl
    · obtain ⟨p, hp, rfl⟩ := List.mem_map.mp hb
      exact absurd (Heap.lt_size (a2 p hp)) (Nat.not_lt.mpr z)
  · rw [Sto.ad_app] at ha
    exact (List.mem_append.mp ha).elim (S'.lo a) fun z => lo a (List.mem_append_right _ z)
  · rw [Sto.ad_app]
    exact G.ext.mono fun a ha => .inl (List.mem_append_left _ ha)
  · rw [Sto.ad_app] at ha ⊢
    rcases List.mem_append.mp ha with z | z
    · exact (G.new a z).imp_left fun y => List.mem_append_left _ y
    · exact .inl (List.mem_append_right _ z)
theorem St.left {h : Heap} {F : Sto} (S : St w h (E ++ F)) : St w h E := by
  have nd := S.nd
  have lo := S.lo
  rw [Sto.ad_app] at nd lo
  exact ⟨S.tops, S.sz, AllAt.of fun p hp => S.at_.get p (List.mem_append_left _ hp), (List.nodup_append.mp nd).1, fun a ha => lo a (List.mem_append_left _ ha)⟩
theorem Tr.frame (F : Sto) (T : Tr w lv co E P) : Tr w lv co (E ++ F) (fun C G => ∃ E', P C E' ∧ G = E' ++ F) := fun A h g d t os R hA S hR =>
  T A h g d t os R hA S.left fun C h' t' E' p S' G => by
    obtain ⟨S2, G2⟩ := G.frame S S'
    exact hR C h' t' _ ⟨E', p, rfl⟩ S2 G2
theorem Tr.perm {F : Sto} (p : F.Perm E) (T : Tr w lv co E P) : Tr w lv co F P := fun A h g d t os R hA S hR =>
  T A h g d t os R hA (S.perm p) fun C h' t' E' q S' G => hR C h' t' E' q S' (G.perm p.symm (.refl _))
end
noncomputable def others (W j : Nat) (f : Nat → Sto) : Sto := ((List.range W).filter fun i => i != j).flatMap f
theorem part_perm {W j : Nat} (f : Nat → Sto) (hj : j < W) : ((List.range W).flatMap f).Perm (f j ++ others W j f) := by
  have h1 : (List.range W).Perm (j :: (List.range W).filter fun i => i != j) := by
    have e : (List.range W).filter (fun i => i != j) = (List.range W).erase j := (List.nodup_range.erase_eq_filter j).symm
    rw [e]
    exact List.perm_cons_erase (List.mem_range.mpr hj)
  exact h1.flatMap_right f
theorem others_eq {W j : Nat} {f f' : Nat → Sto} (h : ∀ i, i < W → i ≠ j → f i = f' i) : others W j f = others W j f' := by
  unfold others
  rw [List.flatMap_def, List.flatMap_def]
  refine congrArg _ (List.map_congr_left fun i hi => ?_)
  obtain ⟨h1, h2⟩ := List.mem_filter.mp hi
  exact h i (List.mem_range.mp h1) (by simpa using h2)
theorem part_upd {W j : Nat} {f f' : Nat → Sto} {g : Sto} (hj : j < W) (hg : f' j = g) (h : ∀ i, i < W → i ≠ j → f i = f' i) : (g ++ others W j f).Perm ((List.range W).flatMap f') := by
  rw [others_eq h, ← hg]
  exact (part_perm f' hj).symm
theorem pick_perm {α : Type} {l m : List α} (J : List Nat) {n : Nat} (hJ : J.Perm (List.range n)) (hl : l.length = n) (e : J.map (fun j => l[j]?) = m.map some) : l.Perm m := by
  subst hl
  have h1 : (List.range l.length).map (fun j => l[j]?) = l.map some := by
    apply List.ext_getElem
    · simp
    · intro i h1 h2
      simp at h1
      simp [h1]
  have h2 : (m.map some).Perm (l.map some) := by rw [← e, ← h1]; exact hJ.map _
  have h3 := (h2.filterMap id).symm
  simpa [List.filterMap_map] using h3
end Mine
end
section
open PySem PySem.W PySem.W.X PyProof.Rows
namespace Mine
noncomputable def entD (hs : Nat → Int) (ks : Nat → Tok) (i : Nat) (nm : Str) (v : Value) : DictEntry := ⟨hs i, .str nm (ks i), v⟩
noncomputable def valOf (o : Obj) (i : Nat) : Value := (entryAt o i).val
noncomputable def hsOf (o : Obj) (i : Nat) : Int := (entryAt o i).hash
noncomputable def ksOf (o : Obj) (i : Nat) : Tok := tokV (entryAt o i).key
noncomputable def hL (l : List Int) (i : Nat) : Int := l.getD i 0
noncomputable def h2 (m : Nat) (hs : Nat → Int) (a b : Int) (i : Nat) : Int := match Nat.blt i m with
  | true => hs i
  | false => match Nat.beq i m with
    | true => a
    | false => b
noncomputable def k2 (m : Nat) (ks : Nat → Tok) (a b : Tok) (i : Nat) : Tok := match Nat.blt i m with
  | true => ks i
  | false => match Nat.beq i m with
    | true => a
    | false => b
noncomputable def tgtS : Stmt → Expr
  | .For t _ _ _ _ => t
  | _ => .Constant .none 0 ⟨0, 0, 0, 0⟩
noncomputable def fnC (K : KT) (f i : Nat) (q : Str) (it fr : Nat) : Code := .forLoop (tgtS (nthS (stmtsOf (fdK K f)) i)) (.ref it) (bodyS (nthS (stmtsOf (fdK K f)) i)) []
  { scope := (fdK K f).scope, locals := fr, globals := 3, cells := [], qual := q, func := some f, code := .ref (f - 1), frame := some fr, builtins := 0 }
noncomputable def dlC (K : KT) (it fr : Nat) : Code := fnC K 127 1 "_law_dealt.<locals>." it fr
noncomputable def frD4 (hs : Nat → Int) (ks : Nat → Tok) (v0 v1 v2 v3 : Value) : Obj := { cls := .type "frame", data := .dict #[entD hs ks 0 "deck" v0, entD hs ks 1 "piles" v1, entD hs ks 2 "count" v2, entD hs ks 3 "laid" v3] 4 }
noncomputable def frD6 (hs : Nat → Int) (ks : Nat → Tok) (v0 v1 v2 v3 v4 v5 : Value) : Obj := { cls := .type "frame", data := .dict #[entD hs ks 0 "deck" v0, entD hs ks 1 "piles" v1, entD hs ks 2 "count" v2, entD hs ks 3 "laid" v3, entD hs ks 4 "k" v4, entD hs ks 5 "name" v5] 6 }
structure DkM where
  y : Nat → Str
  IsD : Nat → LexD → Obj → Obj → Prop
  fx : Nat → LexD → (Nat → Nat) → LexD
  fa : Nat → Obj → (Nat → Nat) → Obj
  fp : Nat → Obj → (Nat → Nat) → Obj
  ft : Nat → Obj → (Nat → Nat) → Tok
noncomputable def Mc.O (K : KT) (m : Mc) (x : LexD) (oa op : Obj) : Sto := [(m.lx, instOf m.d), (m.st, oSt K m), (m.sd, oSd m), (m.rd, oRd K m), (m.ca, cellOf (.ref m.at_)), (m.cs, cellOf (.str m.sheet m.tk)), (m.rc, oRc m.k), (m.d, lexD x m.st m.pl), (m.at_, oa), (m.pl, op)]
structure DkS where
  (x : LexD) (oa op : Obj)
noncomputable def cTok (K : KT) (m : Mc) (D : DkM) (k : Nat) : Con DkS where
  lv := 12
  co p := .call (.ref 84) ⟨[.ref m.lx], []⟩
  E p := m.O K p.x p.oa p.op
  cs p := [D.IsD k p.x p.oa p.op]
  res p σ := .ok (.ret (.str (D.y k) (D.ft k p.op σ)))
  E' p σ := m.O K (D.fx k p.x σ) (D.fa k p.oa σ) (D.fp k p.op σ)
noncomputable def gTok (co : Code) (es : List En) : DkS := ⟨lexOf (eO es 7), eO es 8, eO es 9⟩
noncomputable abbrev sTok (K : KT) (m : Mc) (D : DkM) (k : Nat) : SumFn := sumE (cTok K m D k) 10 gTok
structure DlP where
  (fr it pls ld el e2 c cw : Nat) (tc : Tok) (pv ll : List Value)
structure PlP where
  (lx d st pl la : Nat) (x : LexD) (vs : List Value) (ep : Nat) (lv : List Value) (le : Nat)
noncomputable def PlP.E (p : PlP) : Sto := [(p.lx, instOf p.d), (p.d, lexD p.x p.st p.pl), (p.pl, lst p.vs p.ep), (p.la, lst p.lv p.le)]
noncomputable def dlE (K : KT) (m : Mc) (a : DlP) (fo : Obj) (k l : Int) (x : LexD) (oa op : Obj) (p : Sto) : Sto :=
  (a.fr, fo) :: (a.it, riO k l) :: (a.pls, lst a.pv a.el) :: (a.ld, lst a.ll a.e2) :: (m.lx, instOf m.d) :: (m.st, oSt K m) :: (m.sd, oSd m) :: (m.rd, oRd K m) :: (m.ca, cellOf (.ref m.at_)) :: (m.cs, cellOf (.str m.sheet m.tk)) :: (m.rc, oRc m.k) :: (m.d, lexD x m.st m.pl) :: (m.at_, oa) :: (m.pl, op) :: p
noncomputable def DlP.f4 (a : DlP) (m : Mc) (hs : Nat → Int) (ks : Nat → Tok) : Obj := frD4 hs ks (.ref m.lx) (.ref a.pls) (.int (a.c : Int) a.tc) (.ref a.ld)
noncomputable def DlP.f6 (a : DlP) (m : Mc) (hs : Nat → Int) (ks : Nat → Tok) (v4 v5 : Value) : Obj := frD6 hs ks (.ref m.lx) (.ref a.pls) (.int (a.c : Int) a.tc) (.ref a.ld) v4 v5
noncomputable def dlDev : DlP := ⟨101, 102, 103, 104, 1, 2, 6, 2, 300, [.ref 201, .ref 211], [.ref 205, .ref 215]⟩
noncomputable def plDev : PlP := ⟨201, 202, 203, 204, 205, lxDev, [], 0, [], 0⟩
noncomputable def dkDev : DkM := ⟨fun _ => "a", fun _ _ _ _ => True, fun _ x _ => x, fun _ o _ => o, fun _ o _ => o, fun _ _ σ => σ 0⟩
noncomputable def shN : Nat → (Nat → Nat) → Nat → Nat
  | 0, σ => σ
  | n + 1, σ => shift (shN n σ)
noncomputable def tlS (i : Nat) (σ : Nat → Nat) : Nat → Nat := fun j => cutS (shN i σ) (j + 2)
noncomputable def dlN (K : KT) (hf : Str → Int) (m : Mc) (a : DlP) (D : DkM) (hs : Nat → Int) (ks : Nat → Tok) (k : Nat) (l : Int) (x : LexD) (oa op : Obj) (p : PlP) (ap : List Value → Value → List Value) (t : Nat) (σ : Nat → Nat) : Sto :=
  dlE K m a (a.f6 m (h2 4 hs (hf "k") (hf "name")) (k2 4 ks (t + 1) (cutS σ 1)) (.int (k : Int) t) (.str (D.y k) (D.ft k op (tlS 0 σ)))) ((k : Int) + 1) (l - 1) (D.fx k x (tlS 0 σ)) (D.fa k oa (tlS 0 σ)) (D.fp k op (tlS 0 σ))
    [(p.lx, instOf p.d), (p.d, lexD p.x p.st p.pl), (p.pl, lst (ap p.vs (.str (D.y k) (D.ft k op (tlS 0 σ)))) (cutS (shN 4 σ) 2)), (p.la, lst (ap p.lv (.str (D.y k) (D.ft k op (tlS 0 σ)))) (cutS (shN 8 σ) 2))]
noncomputable def dlN6 (K : KT) (m : Mc) (a : DlP) (D : DkM) (hs : Nat → Int) (ks : Nat → Tok) (k : Nat) (l : Int) (x : LexD) (oa op : Obj) (p : PlP) (ap : List Value → Value → List Value) (t : Nat) (σ : Nat → Nat) : Sto :=
  dlE K m a (a.f6 m hs ks (.int (k : Int) t) (.str (D.y k) (D.ft k op (tlS 0 σ)))) ((k : Int) + 1) (l - 1) (D.fx k x (tlS 0 σ)) (D.fa k oa (tlS 0 σ)) (D.fp k op (tlS 0 σ))
    [(p.lx, instOf p.d), (p.d, lexD p.x p.st p.pl), (p.pl, lst (ap p.vs (.str (D.y k) (D.ft k op (tlS 0 σ)))) (cutS (shN 4 σ) 2)), (p.la, lst (ap p.lv (.str (D.y k) (D.ft k op (tlS 0 σ)))) (cutS (shN 8 σ) 2))]
noncomputable def dlCs (a : DlP) (D : DkM) (k j : Nat) (x : LexD) (oa op : Obj) (p : PlP) (σ : Nat → Nat) : List Prop :=
  [p.lv.length ≤ 100000, ItemV a.ll (.int (j : Int) (cutS (shN 6 σ) 2)) (.ref p.la), 0 < (a.cw : Int) ∧ (k : Int) % (a.cw : Int) = (j : Int), LenIs a.pv (a.cw : Int), p.vs.length ≤ 100000, ItemV a.pv (.int (j : Int) (cutS (shN 2 σ) 2)) (.ref p.lx), 0 < (a.cw : Int) ∧ (k : Int) % (a.cw : Int) = (j : Int), LenIs a.pv (a.cw : Int), D.IsD k x oa op]
@[irreducible] noncomputable def dt0 (P : Params) (b : Bool) (K : KT) (pg : Program) (m : Mc) (a : DlP) (D : DkM) (hs : Nat → Int) (ks : Nat → Tok) (k l j : Nat) (x : LexD) (oa op : Obj) (p : PlP) (ap : List Value → Value → List Value) (n t : Nat) (σ : Nat → Nat) : Ou :=
  goC (mkW P b K pg [sTok K m D k, sLen (a.cw : Int), sV (opModL (j : Int)), sItem (.ref p.lx), sItem (.ref p.la), sPush ap, sApp ap]) 4000 16 (dlC K a.it a.fr)
  (dlE K m a (a.f4 m hs ks) (k : Int) ((l + 1 : Nat) : Int) x oa op p.E) n t σ
  [2,0,2,0,2,2,2,2,2,2,2,1,1,1,5,0,0,0,5,0,0,0,5,0,0,0,0,5,12,0,2,4,5,6,7,8,9,10,11,12,13,1,1,1,1,0,0,1,0,3,2,0,4,3,3,3,0,3,5,2,15,0,0,0,15,0,0,0,15,0,0,0,0,15,16,1,0,7,14,15,16,1,1,0,0,1,0,3,2,0,4,4,4,4,0,4,6,3,18,18,18,18,1,0,18,8,17,1]
theorem dt0_id : @dt0 = @dt0 := rfl
lay_z Mine.dt0
end Mine
name_z dt0Y for Mine.dt0 by Mine.dt0_id
namespace Mine
theorem dt0_r (P : Params) (b : Bool) (m : Mc) (a : DlP) (D : DkM) (hs : Nat → Int) (ks : Nat → Tok) (k l j : Nat) (x : LexD) (oa op : Obj) (p : PlP) (ap : List Value → Value → List Value) (n t : Nat) (σ : Nat → Nat) : Go1 (dlC (ktop P) a.it a.fr) (List.range 18) (dlN (ktop P) (PySem.W.ZFast.hKY P) m a D hs ks k ((l + 1 : Nat) : Int) x oa op p ap t σ) (dlCs a D k j x oa op p σ) (dt0 P b (ktop P) theProg m a D hs ks k l j x oa op p ap n t σ) := by
  rw [PySem.W.ZFast.dt0Y_eq]
  cases b <;> refine ⟨⟨?_, ?_, ?_, ?_, ?_, ?_⟩, ?_, ?_, ?_, ?_⟩ <;> kernel_rfl
@[irreducible] noncomputable def dt1 (P : Params) (b : Bool) (K : KT) (pg : Program) (m : Mc) (a : DlP) (D : DkM) (hs : Nat → Int) (ks : Nat → Tok) (v4 v5 : Value) (k l j : Nat) (x : LexD) (oa op : Obj) (p : PlP) (ap : List Value → Value → List Value) (n t : Nat) (σ : Nat → Nat) : Ou :=
  goC (mkW P b K pg [sTok K m D k, sLen (a.cw : Int), sV (opModL (j : Int)), sItem (.ref p.lx), sItem (.ref p.la), sPush ap, sApp ap]) 4000 16 (dlC K a.it a.fr)
  (dlE K m a (a.f6 m hs ks v4 v5) (k : Int) ((l + 1 : Nat) : Int) x oa op p.E) n t σ
  [2,0,2,0,2,2,2,2,2,2,2,1,1,1,5,0,0,0,5,0,0,0,5,0,0,0,0,5,12,0,2,4,5,6,7,8,9,10,11,12,13,1,1,1,1,0,0,1,0,3,2,0,4,3,3,3,0,3,5,2,15,0,0,0,15,0,0,0,15,0,0,0,0,15,16,1,0,7,14,15,16,1,1,0,0,1,0,3,2,0,4,4,4,4,0,4,6,3,18,18,18,18,1,0,18,8,17,1]
theorem dt1_id : @dt1 = @dt1 := rfl
lay_z Mine.dt1
end Mine
name_z dt1Y for Mine.dt1 by Mine.dt1_id
namespace Mine
theorem dt1_r (P : Params) (b : Bool) (m : Mc) (a : DlP) (D : DkM) (hs : Nat → Int) (ks : Nat → Tok) (v4 v5 : Value) (k l j : Nat) (x : LexD) (oa op : Obj) (p : PlP) (ap : List Value → Value → List Value) (n t : Nat) (σ : Nat → Nat) : Go1 (dlC (ktop P) a.it a.fr) (List.range 18) (dlN6 (ktop P) m a D hs ks k ((l + 1 : Nat) : Int) x oa op p ap t σ) (dlCs a D k j x oa op p σ) (dt1 P b (ktop P) theProg m a D hs ks v4 v5 k l j x oa op p ap n t σ) := by
  rw [PySem.W.ZFast.dt1Y_eq]
  cases b <;> refine ⟨⟨?_, ?_, ?_, ?_, ?_, ?_⟩, ?_, ?_, ?_, ?_⟩ <;> kernel_rfl
@[irreducible] noncomputable def dle (P : Params) (b : Bool) (K : KT) (pg : Program) (m : Mc) (a : DlP) (fo : Obj) (k : Nat) (x : LexD) (oa op : Obj) (p : PlP) (n t : Nat) (σ : Nat → Nat) : Ou :=
  goC (mkW P b K pg []) 4000 16 (dlC K a.it a.fr)
  [(a.it, riO (k : Int) 0)] n t σ
  [1,0,1,0,1,1,1,3,0]
theorem dle_id : @dle = @dle := rfl
lay_z Mine.dle
end Mine
name_z dleY for Mine.dle by Mine.dle_id
namespace Mine
theorem dle_r (P : Params) (b : Bool) (m : Mc) (a : DlP) (fo : Obj) (k : Nat) (x : LexD) (oa op : Obj) (p : PlP) (n t : Nat) (σ : Nat → Nat) : Go0 (.ok .next) [0] [(a.it, riO (k : Int) 0)] [] (dle P b (ktop P) theProg m a fo k x oa op p n t σ) := by
  rw [PySem.W.ZFast.dleY_eq]
  cases b <;> refine ⟨⟨?_, ?_, ?_, ?_, ?_, ?_⟩, ?_, ?_, ?_⟩ <;> kernel_rfl
theorem strsAre_snoc {vs : List Value} {ss : List Str} {y : Str} {t : Tok} (h : StrsAre vs ss) : StrsAre (vs ++ [.str y t]) (ss ++ [y]) := by
  induction h with
  | nil => exact .cons _ _ .nil
  | cons z u _ ih => exact .cons z u ih
noncomputable def partN (W k j : Nat) (sv : Nat → Str) : List Str := ((List.range k).filter fun i => i % W == j).map sv
theorem partN_eq {W k j : Nat} {sv : Nat → Str} (h : k % W = j) : partN W (k + 1) j sv = partN W k j sv ++ [sv k] := by simp [partN, List.range_succ, List.filter_append, h]
theorem partN_ne {W k j : Nat} {sv : Nat → Str} (h : k % W ≠ j) : partN W (k + 1) j sv = partN W k j sv := by simp [partN, List.range_succ, List.filter_append, h]
theorem partN_len {W k j : Nat} {sv : Nat → Str} : (partN W k j sv).length ≤ k := by
  unfold partN
  rw [List.length_map]
  exact Nat.le_trans (List.length_filter_le ..) (by simp)
structure DkOk (w : World) (m : Mc) (D : DkM) (c : Nat) : Prop where
  tok : ∀ k, k < c → (cTok (ktop w.params) m D k).Holds w
  step : ∀ k x oa op σ, k < c → D.IsD k x oa op → D.IsD (k + 1) (D.fx k x σ) (D.fa k oa σ) (D.fp k op σ)
inductive FrD (hf : Str → Int) (a : DlP) (m : Mc) (y : Nat → Str) (hs : Nat → Int) (ks : Nat → Tok) : Nat → Obj → Prop
  | f4 : FrD hf a m y hs ks 0 (a.f4 m hs ks)
  | f6 (k t1 t2 t3 t4) : FrD hf a m y hs ks (k + 1) (a.f6 m (h2 4 hs (hf "k") (hf "name")) (k2 4 ks t1 t2) (.int (k : Int) t3) (.str (y k) t4))
noncomputable def PlP.w (p : PlP) (vs : List Value) (ep le : Nat) : PlP := { p with vs := vs, ep := ep, lv := vs, le := le }
structure DlInv (W k : Nat) (D : DkM) (pc s : Nat → PlP) : Prop where
  at_ : ∀ j, j < W → ∃ vs ep le, s j = (pc j).w vs ep le ∧ StrsAre vs (partN W k j D.y)
structure DlFix (W : Nat) (a : DlP) (pc : Nat → PlP) : Prop where
  hW : 0 < W
  hW4 : W ≤ 4
  cw : a.cw = W
  c : a.c ≤ 100
  pv : a.pv = (List.range W).map fun j => .ref (pc j).lx
  ll : a.ll = (List.range W).map fun j => .ref (pc j).la
noncomputable def plS (W : Nat) (s : Nat → PlP) : Sto := (List.range W).flatMap fun j => (s j).E
theorem dlE_perm {K : KT} {m : Mc} {a : DlP} {fo : Obj} {k l : Int} {x : LexD} {oa op : Obj} {p q : Sto} (h : p.Perm q) : (dlE K m a fo k l x oa op p).Perm (dlE K m a fo k l x oa op q) :=
  (((((((((((((h.cons _).cons _).cons _).cons _).cons _).cons _).cons _).cons _).cons _).cons _).cons _).cons _).cons _).cons _
section
variable {w : World} {m : Mc} {a : DlP} {D : DkM} {W : Nat} {pc : Nat → PlP}
theorem item_map {n : Nat} {f : Nat → Value} {k : Nat} {t : Tok} (h : k < n) (hn : n < 1000) : ItemV ((List.range n).map f) (.int (k : Int) t) (f k) := ⟨_, _, rfl, Int.natCast_nonneg _, by omega, by simp [h]⟩
theorem dl_cs (H : DlFix W a pc) {k : Nat} {x : LexD} {oa op : Obj} {vs : List Value} {ep le : Nat} (hk : k < a.c) (hd : D.IsD k x oa op) (hv : StrsAre vs (partN W k (k % W) D.y)) (σ : Nat → Nat) : AllP (dlCs a D k (k % W) x oa op ((pc (k % W)).w vs ep le) σ) := by
  have hj := Nat.mod_lt k H.hW
  have hc := H.c
  have h4 := H.hW4
  have hl : vs.length ≤ 100000 := by
    rw [strsAre_len hv]
    exact Nat.le_trans partN_len (by omega)
  have hm : 0 < (a.cw : Int) ∧ (k : Int) % (a.cw : Int) = ((k % W : Nat) : Int) := by rw [H.cw]; exact ⟨by have := H.hW; omega, by simp⟩
  have hp : LenIs a.pv (a.cw : Int) := ⟨by rw [H.pv, H.cw]; simp, by rw [H.pv]; simp; omega⟩
  refine ⟨hl, ?_, hm, hp, hl, ?_, hm, hp, hd, trivial⟩
  · rw [H.ll]; exact item_map (f := fun j => .ref (pc j).la) hj (by omega)
  · rw [H.pv]; exact item_map (f := fun j => .ref (pc j).lx) hj (by omega)
variable {hs' : Nat → Int} {ks : Nat → Tok}
noncomputable def dlPost (w : World) (m : Mc) (a : DlP) (D : DkM) (W : Nat) (pc : Nat → PlP) (hs' : Nat → Int) (ks : Nat → Tok) (k l : Nat) (G : Sto) : Prop :=
  ∃ fo x oa op s, FrD (PySem.W.ZFast.hKY w.params) a m D.y hs' ks k fo ∧ D.IsD k x oa op ∧ DlInv W k D pc s ∧ G.Perm (dlE (ktop w.params) m a fo (k : Int) (l : Int) x oa op (plS W s))
theorem dl_turn (H : DlFix W a pc) (O : DkOk w m D a.c) {k l : Nat} (hk : k + (l + 1) = a.c) {fo : Obj} {x : LexD} {oa op : Obj} {s : Nat → PlP} (hf : FrD (PySem.W.ZFast.hKY w.params) a m D.y hs' ks k fo) (hd : D.IsD k x oa op) (I : DlInv W k D pc s) :
    Tr w 16 (dlC (ktop w.params) a.it a.fr) (dlE (ktop w.params) m a fo (k : Int) ((l + 1 : Nat) : Int) x oa op (plS W s)) (fun C G => C = dlC (ktop w.params) a.it a.fr ∧ dlPost w m a D W pc hs' ks (k + 1) l G) := by
  have hj := Nat.mod_lt k H.hW
  obtain ⟨vs, ep, le, es, hv⟩ := I.at_ (k % W) hj
  have hkc : k < a.c := by omega
  have hs : SOk w [sTok (ktop w.params) m D k, sLen (a.cw : Int), sV (opModL ((k % W : Nat) : Int)), sItem (.ref (s (k % W)).lx), sItem (.ref (s (k % W)).la), sPush apI, sApp apI] :=
    ⟨(O.tok k hkc).ok _ _, cLen_ok.ok _ _, sV_ok opModL_good, cItem_ok.ok _ _, cItem_ok.ok _ _, cPush_ok.ok _ _, cApp_ok.ok _ _, trivial⟩
  have ha : ∀ σ, AllP (dlCs a D k (k % W) x oa op (s (k % W)) σ) := fun σ => by rw [es]; exact dl_cs H hkc hd hv σ
  have e1 : (((l + 1 : Nat) : Int) - 1) = (l : Int) := by omega
  have T : Tr w 16 (dlC (ktop w.params) a.it a.fr) (dlE (ktop w.params) m a fo (k : Int) ((l + 1 : Nat) : Int) x oa op (s (k % W)).E)
      (fun C G => C = dlC (ktop w.params) a.it a.fr ∧ ∃ fo' σ ty e1 e2, FrD (PySem.W.ZFast.hKY w.params) a m D.y hs' ks (k + 1) fo' ∧ G = dlE (ktop w.params) m a fo' ((k + 1 : Nat) : Int) (l : Int) (D.fx k x σ) (D.fa k oa σ) (D.fp k op σ) ((pc (k % W)).w (vs ++ [.str (D.y k) ty]) e1 e2).E) := by
    cases hf with
    | f4 =>
      intro A h g d t os R hA S hR
      refine Tr.of (fun n t σ => dt0.eq_1 w.params (bOf w) (ktop w.params) theProg m a D hs' ks 0 l (0 % W) x oa op (s (0 % W)) apI n t σ) rfl hs (fun n t σ => dt0_r w.params (bOf w) m a D hs' ks 0 l (0 % W) x oa op (s (0 % W)) apI n t σ) (by decide) (fun _ _ σ _ => ha σ) A h g d t os R hA S fun C h' t' E' q => hR C h' t' E' ?_
      obtain ⟨n, t, σ, rfl, rfl⟩ := q
      refine ⟨rfl, ?_⟩
      unfold dlN
      rw [e1, es]
      exact ⟨_, tlS 0 σ, D.ft 0 op (tlS 0 σ), _, _, .f6 _ _ _ _ _, rfl⟩
    | f6 k t1 t2 t3 t4 =>
      intro A h g d t os R hA S hR
      refine Tr.of (fun n t σ => dt1.eq_1 w.params (bOf w) (ktop w.params) theProg m a D _ _ _ _ (k + 1) l ((k + 1) % W) x oa op (s ((k + 1) % W)) apI n t σ) rfl hs (fun n t σ => dt1_r w.params (bOf w) m a D _ _ _ _ (k + 1) l ((k + 1) % W) x oa op (s ((k + 1) % W)) apI n t σ) (by decide) (fun _ _ σ _ => ha σ) A h g d t os R hA S fun C h' t' E' q => hR C h' t' E' ?_
      obtain ⟨n, t, σ, rfl, rfl⟩ := q
      refine ⟨rfl, ?_⟩
      unfold dlN6
      rw [e1, es]
      exact ⟨_, tlS 0 σ, D.ft (k + 1) op (tlS 0 σ), _, _, .f6 _ _ _ _ _, rfl⟩
  intro A h g d t os R hA S hR
  refine (T.frame (others W (k % W) fun j => (s j).E)).perm (dlE_perm (part_perm _ hj)) A h g d t os R hA S fun C h' t' E' q => hR C h' t' E' ?_
  obtain ⟨E0, ⟨rfl, fo', σ, ty, e1, e2, q1, rfl⟩, rfl⟩ := q
  refine ⟨rfl, fo', _, _, _, fun j => if j = k % W then (pc (k % W)).w (vs ++ [.str (D.y k) ty]) e1 e2 else s j, q1, O.step k x oa op σ hkc hd, ⟨fun j hj' => ?_⟩, dlE_perm ?_⟩
  · by_cases z : j = k % W
    · subst z
      exact ⟨_, _, _, if_pos rfl, by rw [partN_eq rfl]; exact strsAre_snoc hv⟩
    · obtain ⟨vs', ep', le', y1, y2⟩ := I.at_ j hj'
      exact ⟨vs', ep', le', (if_neg z).trans y1, by rw [partN_ne (Ne.symm z)]; exact y2⟩
  · exact part_upd (f := fun j => (s j).E) (f' := fun j => (if j = k % W then (pc (k % W)).w (vs ++ [.str (D.y k) ty]) e1 e2 else s j).E) hj (by rw [if_pos rfl]) fun i _ z => by rw [if_neg z]
theorem dl_loop (H : DlFix W a pc) (O : DkOk w m D a.c) : ∀ (l k : Nat) (fo : Obj) (x : LexD) (oa op : Obj) (s : Nat → PlP), k + l = a.c → FrD (PySem.W.ZFast.hKY w.params) a m D.y hs' ks k fo → D.IsD k x oa op → DlInv W k D pc s →
    Ends w 16 (dlC (ktop w.params) a.it a.fr) (dlE (ktop w.params) m a fo (k : Int) (l : Int) x oa op (plS W s)) (fun r G => r = .ok .next ∧ dlPost w m a D W pc hs' ks a.c 0 G)
  | 0, k, fo, x, oa, op, s, hk, hf, hd, I => by
    have hk : k = a.c := hk
    subst hk
    have T := (Ends.fin (Q := fun r G => r = .ok .next ∧ G = [(a.it, riO (a.c : Int) 0)]) (fun n t σ => dle.eq_1 w.params (bOf w) (ktop w.params) theProg m a fo a.c x oa op ⟨0, 0, 0, 0, 0, x, [], 0, [], 0⟩ n t σ) rfl trivial (fun n t σ => dle_r w.params (bOf w) m a fo a.c x oa op ⟨0, 0, 0, 0, 0, x, [], 0, [], 0⟩ n t σ) (by decide) (fun _ _ _ _ => trivial) fun n t σ _ => ⟨rfl, rfl⟩).frame
      ((dlE (ktop w.params) m a fo (a.c : Int) (0 : Int) x oa op (plS W s)).eraseIdx 1)
    refine T.perm (List.Perm.swap _ _ _) fun r G q => ?_
    obtain ⟨E', rfl, rfl, rfl⟩ := q
    exact ⟨_, .refl _, rfl, fo, x, oa, op, s, hf, hd, I, List.Perm.swap _ _ _⟩
  | l + 1, k, fo, x, oa, op, s, hk, hf, hd, I =>
    (dl_turn H O hk hf hd I).ends fun C G q => by
      obtain ⟨rfl, fo', x', oa', op', s', q1, q2, q3, q4⟩ := q
      exact (dl_loop H O l (k + 1) fo' x' oa' op' s' (by omega) q1 q2 q3).perm' q4
end
end Mine
end
section
open PySem PySem.W PySem.W.X PyProof.Rows
namespace Mine
noncomputable def everyW (w s j : Nat) (v : Nat → Str) : List Str := (List.range s).map fun i => v (w * i + j)
noncomputable def upN (f : Nat → Value) : Nat → Nat → List Value
  | 0, _ => []
  | k + 1, i => f i :: upN f k (i + 1)
noncomputable def dlV (W s : Nat) (y : Nat → Str) (j : Nat) (σ : Nat → Nat) : List Value := upN (fun x => .str (y (W * x + j)) (σ (16 + (s * j + x)))) s 0
structure DlC where
  (m : Mc) (dk : DkS → DkM) (fin : DkS → Nat → Nat → DkS) (pc : Nat → PlP) (W s : Nat)
structure LoP where
  (fr it pls ld el e2 : Nat) (tc : Tok) (hs : Nat → Int) (ks : Nat → Tok) (d : DkS) (la eps les : Nat → Nat)
noncomputable def LoP.a (p : LoP) (c : DlC) : DlP := ⟨p.fr, p.it, p.pls, p.ld, p.el, p.e2, c.W * c.s, c.W, p.tc, (List.range c.W).map fun j => .ref (c.pc j).lx, (List.range c.W).map fun j => .ref (p.la j)⟩
noncomputable def PlP.v (p : PlP) (la : Nat) (vs : List Value) (ep : Nat) (lv : List Value) (le : Nat) : PlP := ⟨p.lx, p.d, p.st, p.pl, la, p.x, vs, ep, lv, le⟩
noncomputable def cDl (K : KT) (hf : Str → Int) (c : DlC) : Con LoP where
  lv := 16
  co p := dlC K p.it p.fr
  E p := dlE K c.m (p.a c) ((p.a c).f4 c.m p.hs p.ks) 0 ((c.W * c.s : Nat) : Int) p.d.x p.d.oa p.d.op ((List.range c.W).flatMap fun j => ((c.pc j).v (p.la j) [] (p.eps j) [] (p.les j)).E)
  cs p := [(c.dk p.d).IsD 0 p.d.x p.d.oa p.d.op]
  res p σ := .ok .next
  E' p σ := dlE K c.m (p.a c) ((p.a c).f6 c.m (h2 4 p.hs (hf "k") (hf "name")) (k2 4 p.ks (σ 0) (σ 1)) (.int ((c.W * c.s - 1 : Nat) : Int) (σ 2)) (.str ((c.dk p.d).y (c.W * c.s - 1)) (σ 3))) ((c.W * c.s : Nat) : Int) 0 (c.fin p.d (σ 40) (σ 41)).x (c.fin p.d (σ 40) (σ 41)).oa (c.fin p.d (σ 40) (σ 41)).op
    ((List.range c.W).flatMap fun j => ((c.pc j).v (p.la j) (dlV c.W c.s (c.dk p.d).y j σ) (σ (4 + j)) (dlV c.W c.s (c.dk p.d).y j σ) (σ (8 + j))).E)
noncomputable def itC : Code → Nat
  | .forLoop _ it _ _ _ => refV it
  | _ => 0
noncomputable def frC : Code → Nat
  | .forLoop _ _ _ _ e => e.locals
  | .whileLoop _ _ _ e => e.locals
  | _ => 0
noncomputable def refI (vs : List Value) (j : Nat) : Nat := refV (vs.getD j .none)
noncomputable def gDl (co : Code) (es : List En) : LoP := ⟨frC co, itC co, refV (valOf (eO es 0) 1), refV (valOf (eO es 0) 3), epO (eO es 2), epO (eO es 3), tokV (valOf (eO es 0) 2), hsOf (eO es 0), ksOf (eO es 0), ⟨lexOf (eO es 11), eO es 12, eO es 13⟩, refI (getV (eO es 3)), fun j => epO (eO es (16 + 4 * j)), fun j => epO (eO es (17 + 4 * j))⟩
noncomputable abbrev sDl (K : KT) (hf : Str → Int) (c : DlC) : SumFn := sumE (cDl K hf c) (14 + 4 * c.W) gDl
noncomputable def pileS (c : DlC) (f : Nat → Obj) : Sto := (List.range c.W).flatMap fun j => [((c.pc j).lx, instOf (c.pc j).d), ((c.pc j).d, lexD (c.pc j).x (c.pc j).st (c.pc j).pl), ((c.pc j).pl, f j)]
structure DaP where
  (pls el : Nat) (tc : Tok) (d : DkS) (eps : Nat → Nat)
noncomputable def dealOut (K : KT) (c : DlC) (p : DaP) (A τ : Nat → Nat) : Sto :=
  c.m.O K (c.fin p.d (A 40) (A 41)).x (c.fin p.d (A 40) (A 41)).oa (c.fin p.d (A 40) (A 41)).op ++ (p.pls, lst ((List.range c.W).map fun j => .ref (c.pc j).lx) p.el) :: (pileS c (fun j => lst (dlV c.W c.s (c.dk p.d).y j τ) (A (4 + j))) ++
    (A 10, lst ((List.range c.W).map fun j => .ref (A j)) (A 11)) :: (List.range c.W).map fun j => (A j, lst (dlV c.W c.s (c.dk p.d).y j τ) (A (12 + j))))
noncomputable def aD (W n : Nat) (τ : Nat → Nat) (i : Nat) : Nat := match Nat.blt i 16 with
  | true => kL [n + 4, n + 5, n + 6, n + 7, τ 4, τ 5, τ 6, τ 7, 0, 0, n + 2, W, τ 8, τ 9, τ 10, τ 11] i
  | false => τ i
noncomputable def cDeal (K : KT) (c : DlC) : Con DaP where
  lv := 18
  co p := .call (.ref 127) ⟨[.ref c.m.lx, .ref p.pls, .int ((c.W * c.s : Nat) : Int) p.tc], []⟩
  E p := c.m.O K p.d.x p.d.oa p.d.op ++ (p.pls, lst ((List.range c.W).map fun j => .ref (c.pc j).lx) p.el) :: pileS c fun j => lst [] (p.eps j)
  cs p := [(c.dk p.d).IsD 0 p.d.x p.d.oa p.d.op]
  res p σ := .ok (.ret (.ref (σ 10)))
  E' p σ := dealOut K c p σ σ
noncomputable def gDa (co : Code) (es : List En) : DaP := ⟨refI (argsOf co) 1, epO (eO es 10), tokV ((argsOf co).getD 2 .none), ⟨lexOf (eO es 7), eO es 8, eO es 9⟩, fun j => epO (eO es (13 + 3 * j))⟩
noncomputable abbrev sDeal (K : KT) (c : DlC) : SumFn := sumE (cDeal K c) (11 + 3 * c.W) gDa
noncomputable def pcDev (j : Nat) : PlP := ⟨200 + 10 * j, 201 + 10 * j, 202 + 10 * j, 203 + 10 * j, 204 + 10 * j, lxDev, [], 0, [], 0⟩
noncomputable def dcDev (W s : Nat) : DlC := ⟨mcDev, fun _ => dkDev, fun d _ _ => d, pcDev, W, s⟩
noncomputable def eDeal (K : KT) (c : DlC) (p : DaP) : Sto := (cDeal K c).E p
@[irreducible] noncomputable def ds2 (P : Params) (b : Bool) (K : KT) (pg : Program) (m : Mc) (dk : DkS → DkM) (fin : DkS → Nat → Nat → DkS) (pc : Nat → PlP) (s : Nat) (p : DaP) (hf : Str → Int) (n t : Nat) (σ : Nat → Nat) : Ou :=
  goC (mkW P b K pg [sDl K hf ⟨m, dk, fin, pc, 2, s⟩, sRIter]) 4000 18 (.call (.ref 127) ⟨[.ref m.lx, .ref p.pls, .int ((2 * s : Nat) : Int) p.tc], []⟩)
  ((cDeal K ⟨m, dk, fin, pc, 2, s⟩).E p) n t σ
  [0,0,18,18,18,18,18,18,0,0,18,11,11,0,11,0,19,0,19,0,19,0,19,0,19,19,11,19,19,21,21,0,20,0,20,20,20,0,19,0,19,0,19,19,11,19,19,21,21,0,20,0,20,20,20,0,19,0,19,0,19,19,11,19,19,25,18,18,21,21,21,0,0,18,0,0,0,0,26,26,0,26,0,26,26,26,0,26,3,25,27,2,17,26,10,19,0,1,2,3,4,5,6,7,8,9,11,12,13,21,14,15,16,22,18]
theorem ds2_id : @ds2 = @ds2 := rfl
lay_z Mine.ds2
end Mine
name_z ds2Y for Mine.ds2 by Mine.ds2_id
namespace Mine
theorem ds2_r (P : Params) (b : Bool) (m : Mc) (dk : DkS → DkM) (fin : DkS → Nat → Nat → DkS) (pc : Nat → PlP) (s : Nat) (p : DaP) (hf : Str → Int) (n t : Nat) (σ : Nat → Nat) : Go0 (.ok (.ret (.ref (n + 2)))) [0, 1, 2, 3, 4, 5, 6, 7, 8, 9, 10, 11, 12, 13, 14, 15, 16, 19, 21, 22] (dealOut (ktop P) ⟨m, dk, fin, pc, 2, s⟩ p (aD 2 n (tlS 1 σ)) (tlS 1 σ)) [(dk p.d).IsD 0 p.d.x p.d.oa p.d.op, RangeOk ((2 * s : Nat) : Int)] (ds2 P b (ktop P) theProg m dk fin pc s p hf n t σ) := by
  rw [PySem.W.ZFast.ds2Y_eq]
  cases b <;> refine ⟨⟨?_, ?_, ?_, ?_, ?_, ?_⟩, ?_, ?_, ?_⟩ <;> kernel_rfl
@[irreducible] noncomputable def ds3 (P : Params) (b : Bool) (K : KT) (pg : Program) (m : Mc) (dk : DkS → DkM) (fin : DkS → Nat → Nat → DkS) (pc : Nat → PlP) (s : Nat) (p : DaP) (hf : Str → Int) (n t : Nat) (σ : Nat → Nat) : Ou :=
  goC (mkW P b K pg [sDl K hf ⟨m, dk, fin, pc, 3, s⟩, sRIter]) 4000 18 (.call (.ref 127) ⟨[.ref m.lx, .ref p.pls, .int ((3 * s : Nat) : Int) p.tc], []⟩)
  ((cDeal K ⟨m, dk, fin, pc, 3, s⟩).E p) n t σ
  [0,0,21,21,21,21,21,21,0,0,21,11,11,0,11,0,22,0,22,0,22,0,22,0,22,22,11,22,22,24,24,0,23,0,23,23,23,0,22,0,22,0,22,22,11,22,22,24,24,0,23,0,23,23,23,0,22,0,22,0,22,22,11,22,22,24,24,0,23,0,23,23,23,0,22,0,22,0,22,22,11,22,22,29,21,21,24,24,24,0,0,21,0,0,0,0,30,30,0,30,0,30,30,30,0,30,3,29,31,2,20,30,10,22,0,1,2,3,4,5,6,7,8,9,11,12,13,24,14,15,16,25,17,18,19,26,21]
theorem ds3_id : @ds3 = @ds3 := rfl
lay_z Mine.ds3
end Mine
name_z ds3Y for Mine.ds3 by Mine.ds3_id
namespace Mine
theorem ds3_r (P : Params) (b : Bool) (m : Mc) (dk : DkS → DkM) (fin : DkS → Nat → Nat → DkS) (pc : Nat → PlP) (s : Nat) (p : DaP) (hf : Str → Int) (n t : Nat) (σ : Nat → Nat) : Go0 (.ok (.ret (.ref (n + 2)))) [0, 1, 2, 3, 4, 5, 6, 7, 8, 9, 10, 11, 12, 13, 14, 15, 16, 17, 18, 19, 22, 24, 25, 26] (dealOut (ktop P) ⟨m, dk, fin, pc, 3, s⟩ p (aD 3 n (tlS 1 σ)) (tlS 1 σ)) [(dk p.d).IsD 0 p.d.x p.d.oa p.d.op, RangeOk ((3 * s : Nat) : Int)] (ds3 P b (ktop P) theProg m dk fin pc s p hf n t σ) := by
  rw [PySem.W.ZFast.ds3Y_eq]
  cases b <;> refine ⟨⟨?_, ?_, ?_, ?_, ?_, ?_⟩, ?_, ?_, ?_⟩ <;> kernel_rfl
@[irreducible] noncomputable def ds4 (P : Params) (b : Bool) (K : KT) (pg : Program) (m : Mc) (dk : DkS → DkM) (fin : DkS → Nat → Nat → DkS) (pc : Nat → PlP) (s : Nat) (p : DaP) (hf : Str → Int) (n t : Nat) (σ : Nat → Nat) : Ou :=
  goC (mkW P b K pg [sDl K hf ⟨m, dk, fin, pc, 4, s⟩, sRIter]) 4000 18 (.call (.ref 127) ⟨[.ref m.lx, .ref p.pls, .int ((4 * s : Nat) : Int) p.tc], []⟩)
  ((cDeal K ⟨m, dk, fin, pc, 4, s⟩).E p) n t σ
  [0,0,24,24,24,24,24,24,0,0,24,11,11,0,11,0,25,0,25,0,25,0,25,0,25,25,11,25,25,27,27,0,26,0,26,26,26,0,25,0,25,0,25,25,11,25,25,27,27,0,26,0,26,26,26,0,25,0,25,0,25,25,11,25,25,27,27,0,26,0,26,26,26,0,25,0,25,0,25,25,11,25,25,27,27,0,26,0,26,26,26,0,25,0,25,0,25,25,11,25,25,33,24,24,27,27,27,0,0,24,0,0,0,0,34,34,0,34,0,34,34,34,0,34,3,33,35,2,23,34,10,25,0,1,2,3,4,5,6,7,8,9,11,12,13,27,14,15,16,28,17,18,19,29,20,21,22,30,24]
theorem ds4_id : @ds4 = @ds4 := rfl
lay_z Mine.ds4
end Mine
name_z ds4Y for Mine.ds4 by Mine.ds4_id
namespace Mine
theorem ds4_r (P : Params) (b : Bool) (m : Mc) (dk : DkS → DkM) (fin : DkS → Nat → Nat → DkS) (pc : Nat → PlP) (s : Nat) (p : DaP) (hf : Str → Int) (n t : Nat) (σ : Nat → Nat) : Go0 (.ok (.ret (.ref (n + 2)))) [0, 1, 2, 3, 4, 5, 6, 7, 8, 9, 10, 11, 12, 13, 14, 15, 16, 17, 18, 19, 20, 21, 22, 25, 27, 28, 29, 30] (dealOut (ktop P) ⟨m, dk, fin, pc, 4, s⟩ p (aD 4 n (tlS 1 σ)) (tlS 1 σ)) [(dk p.d).IsD 0 p.d.x p.d.oa p.d.op, RangeOk ((4 * s : Nat) : Int)] (ds4 P b (ktop P) theProg m dk fin pc s p hf n t σ) := by
  rw [PySem.W.ZFast.ds4Y_eq]
  cases b <;> refine ⟨⟨?_, ?_, ?_, ?_, ?_, ?_⟩, ?_, ?_, ?_⟩ <;> kernel_rfl
theorem upN_eq (f : Nat → Value) : ∀ k i, upN f k i = (List.range k).map fun x => f (i + x)
  | 0, _ => rfl
  | k + 1, i => by
    rw [upN, upN_eq f k (i + 1), List.range_succ_eq_map, List.map_cons, List.map_map]
    refine congrArg (f i :: ·) (List.map_congr_left fun x _ => ?_)
    show f (i + 1 + x) = f (i + (x + 1))
    rw [Nat.add_assoc, Nat.add_comm 1 x]
theorem dlV_eq (W s : Nat) (y : Nat → Str) (j : Nat) (σ : Nat → Nat) : dlV W s y j σ = (List.range s).map fun x => .str (y (W * x + j)) (σ (16 + (s * j + x))) := by
  rw [dlV, upN_eq]
  exact List.map_congr_left fun x _ => by rw [Nat.zero_add]
theorem strsAre_maps (f : Nat → Str) (τ : Nat → Tok) : ∀ l : List Nat, StrsAre (l.map fun x => .str (f x) (τ x)) (l.map f)
  | [] => .nil
  | _ :: r => .cons _ _ (strsAre_maps f τ r)
theorem dlV_strs {W s : Nat} {y : Nat → Str} {j : Nat} {σ : Nat → Nat} : StrsAre (dlV W s y j σ) (everyW W s j y) := by
  rw [dlV_eq]; exact strsAre_maps _ _ _
theorem strsAre_range {s : Nat} {f : Nat → Str} {vs : List Value} (h : StrsAre vs ((List.range s).map f)) : ∃ τ : Nat → Tok, vs = (List.range s).map fun i => .str (f i) (τ i) := by
  have hl := strsAre_len h
  rw [List.length_map, List.length_range] at hl
  refine ⟨fun i => tokV (vs.getD i .none), ?_⟩
  apply List.ext_getElem
  · simp [hl]
  · intro i h1 h2
    obtain ⟨y, t, q1, q2⟩ := strsAre_get h i vs[i] (by simp [h1])
    have hi : i < s := by rw [hl] at h1; exact h1
    simp [hi] at q2
    simp [h1, q1, q2, tokV]
theorem partN_all {W s j : Nat} {sv : Nat → Str} (hW : W = 2 ∨ W = 3 ∨ W = 4) (hs : s = 2 ∨ s = 3 ∨ s = 4) (hj : j < W) : partN W (W * s) j sv = everyW W s j sv := by
  have : ∀ j, j < W → ((List.range (W * s)).filter fun i => i % W == j) = (List.range s).map fun i => W * i + j := by
    rcases hW with rfl | rfl | rfl <;> rcases hs with rfl | rfl | rfl <;> decide
  unfold partN everyW
  rw [this j hj, List.map_map]
  rfl
noncomputable def tokS (s c : Nat) (A : List Nat) (τ : Nat → Nat → Nat) (a b : Nat) (i : Nat) : Nat :=
  if i < 16 then A.getD i 0 else if i - 16 < c then τ ((i - 16) / s) ((i - 16) % s) else if i = 40 then a else if i = 41 then b else 0
theorem tokS_z {s c : Nat} {A : List Nat} {τ : Nat → Nat → Nat} {a b : Nat} (hc : c ≤ 16) : ∀ i, 62 ≤ i → tokS s c A τ a b i = 0 := fun i hi => by
  unfold tokS
  rw [if_neg (by omega), if_neg (by omega), if_neg (by omega), if_neg (by omega)]
theorem tokS_at {W s : Nat} {A : List Nat} {τ : Nat → Nat → Nat} {a b j x : Nat} (hj : j < W) (hx : x < s) : tokS s (W * s) A τ a b (16 + (s * j + x)) = τ j x := by
  have h1 : s * j + x < W * s := by
    have : s * (j + 1) ≤ s * W := Nat.mul_le_mul_left s hj
    rw [Nat.mul_comm W s]
    rw [Nat.mul_succ] at this
    omega
  unfold tokS
  rw [if_neg (by omega), if_pos (by omega), Nat.add_sub_cancel_left, Nat.mul_add_div (by omega), Nat.div_eq_of_lt hx, Nat.mul_add_mod, Nat.mod_eq_of_lt hx, Nat.add_zero]
theorem choose_nat {W : Nat} {P : Nat → Nat → Prop} (h : ∀ j, j < W → ∃ n, P j n) : ∃ f : Nat → Nat, ∀ j, j < W → P j (f j) :=
  ⟨fun j => if hj : j < W then Classical.choose (h j hj) else 0, fun j hj => by
    simp only [dif_pos hj]
    exact Classical.choose_spec (h j hj)⟩
theorem choose_tok {W : Nat} {P : Nat → (Nat → Tok) → Prop} (h : ∀ j, j < W → ∃ τ, P j τ) : ∃ τ : Nat → Nat → Tok, ∀ j, j < W → P j (τ j) :=
  ⟨fun j => if hj : j < W then Classical.choose (h j hj) else fun _ => 0, fun j hj => by
    simp only [dif_pos hj]
    exact Classical.choose_spec (h j hj)⟩
theorem four {W : Nat} {P : Nat → Prop} (hW : W ≤ 4) (h0 : P 0) (h1 : P 1) (h2 : P 2) (h3 : P 3) : ∀ j, j < W → P j := fun j hj => by
  match j with
  | 0 => exact h0
  | 1 => exact h1
  | 2 => exact h2
  | 3 => exact h3
  | _ + 4 => omega
structure TokIs (W s : Nat) (σ : Nat → Nat) (t : Nat → Nat) (ef lf mf : Nat → Nat) (τ : Nat → Nat → Nat) (a b : Nat) : Prop where
  z : ∀ i, 62 ≤ i → σ i = 0
  t0 : σ 0 = t 0
  t1 : σ 1 = t 1
  t2 : σ 2 = t 2
  t3 : σ 3 = t 3
  ef : ∀ j, j < W → σ (4 + j) = ef j
  lf : ∀ j, j < W → σ (8 + j) = lf j
  mf : ∀ j, j < W → σ (12 + j) = mf j
  tk : ∀ j x, j < W → x < s → σ (16 + (s * j + x)) = τ j x
  a : σ 40 = a
  b : σ 41 = b
theorem tok_ex {W s : Nat} (hW : W ≤ 4) (hc : W * s ≤ 16) (t ef lf mf : Nat → Nat) (τ : Nat → Nat → Nat) (a b : Nat) : ∃ σ, TokIs W s σ t ef lf mf τ a b :=
  ⟨tokS s (W * s) [t 0, t 1, t 2, t 3, ef 0, ef 1, ef 2, ef 3, lf 0, lf 1, lf 2, lf 3, mf 0, mf 1, mf 2, mf 3] τ a b, tokS_z hc, rfl, rfl, rfl, rfl,
    four (P := fun j => tokS s (W * s) [t 0, t 1, t 2, t 3, ef 0, ef 1, ef 2, ef 3, lf 0, lf 1, lf 2, lf 3, mf 0, mf 1, mf 2, mf 3] τ a b (4 + j) = ef j) hW rfl rfl rfl rfl,
    four (P := fun j => tokS s (W * s) [t 0, t 1, t 2, t 3, ef 0, ef 1, ef 2, ef 3, lf 0, lf 1, lf 2, lf 3, mf 0, mf 1, mf 2, mf 3] τ a b (8 + j) = lf j) hW rfl rfl rfl rfl,
    four (P := fun j => tokS s (W * s) [t 0, t 1, t 2, t 3, ef 0, ef 1, ef 2, ef 3, lf 0, lf 1, lf 2, lf 3, mf 0, mf 1, mf 2, mf 3] τ a b (12 + j) = mf j) hW rfl rfl rfl rfl,
    fun j x hj hx => tokS_at hj hx, by unfold tokS; rw [if_neg (by decide), if_neg (by omega), if_pos rfl], by unfold tokS; rw [if_neg (by decide), if_neg (by omega), if_neg (by decide), if_pos rfl]⟩
structure DcOk (w : World) (c : DlC) : Prop where
  hW : c.W = 2 ∨ c.W = 3 ∨ c.W = 4
  hs : c.s = 2 ∨ c.s = 3 ∨ c.s = 4
  dk : ∀ d, (c.dk d).IsD 0 d.x d.oa d.op → DkOk w c.m (c.dk d) (c.W * c.s)
  fin : ∀ d x oa op, (c.dk d).IsD (c.W * c.s) x oa op → ∃ a b, c.fin d a b = ⟨x, oa, op⟩
theorem DcOk.le {w : World} {c : DlC} (H : DcOk w c) : c.W * c.s ≤ 16 ∧ 4 ≤ c.W * c.s := by
  rcases H.hW with h | h | h <;> rcases H.hs with h' | h' | h' <;> rw [h, h'] <;> decide
theorem flat_congr {W : Nat} {f g : Nat → Sto} (h : ∀ j, j < W → f j = g j) : (List.range W).flatMap f = (List.range W).flatMap g := by
  rw [List.flatMap_def, List.flatMap_def]
  exact congrArg _ (List.map_congr_left fun i hi => h i (List.mem_range.mp hi))
theorem cDl_ok {w : World} {c : DlC} (H : DcOk w c) : (cDl (ktop w.params) (PySem.W.ZFast.hKY w.params) c).Holds w where
  ad p σ := ⟨[], by
    rw [List.append_nil]
    show Sto.ad (dlE _ _ _ _ _ _ _ _ _ _) = Sto.ad (dlE _ _ _ _ _ _ _ _ _ _)
    unfold dlE Sto.ad
    simp only [List.map_cons, List.map_flatMap]
    rfl⟩
  does p hc := by
    have hW4 : c.W ≤ 4 := by rcases H.hW with h | h | h <;> omega
    obtain ⟨l16, l4⟩ := H.le
    have hF : DlFix c.W (p.a c) (fun j => (c.pc j).v (p.la j) [] 0 [] 0) := ⟨by rcases H.hW with h | h | h <;> omega, hW4, rfl, by show c.W * c.s ≤ 100; omega, rfl, rfl⟩
    refine (dl_loop (hs' := p.hs) (ks := p.ks) hF (D := c.dk p.d) (H.dk _ hc.1) (c.W * c.s) 0 _ p.d.x p.d.oa p.d.op (fun j => (c.pc j).v (p.la j) [] (p.eps j) [] (p.les j)) (Nat.zero_add _) .f4 hc.1 ⟨fun j hj => ⟨[], _, _, rfl, .nil⟩⟩).perm (.refl _) fun r G q => ?_
    obtain ⟨rfl, fo, x, oa, op, s, q1, q2, q3, q4⟩ := q
    obtain ⟨a, b, hf⟩ := H.fin _ _ _ _ q2
    have h1 : ∀ j, j < c.W → ∃ τ : Nat → Tok, ∃ ep le, s j = ((c.pc j).v (p.la j) [] 0 [] 0).w ((List.range c.s).map fun x => .str ((c.dk p.d).y (c.W * x + j)) (τ x)) ep le := fun j hj => by
      obtain ⟨vs, ep, le, e, hv⟩ := q3.at_ j hj
      rw [show (p.a c).c = c.W * c.s from rfl, partN_all H.hW H.hs hj] at hv
      obtain ⟨τ, rfl⟩ := strsAre_range hv
      exact ⟨τ, ep, le, e⟩
    obtain ⟨τ, hτ⟩ := choose_tok h1
    obtain ⟨ef, he⟩ := choose_nat hτ
    obtain ⟨lf, hl⟩ := choose_nat he
    obtain ⟨k, hk⟩ : ∃ k, c.W * c.s = k + 1 := ⟨c.W * c.s - 1, by omega⟩
    have hk : (p.a c).c = k + 1 := hk
    rw [hk] at q1
    cases q1 with
    | f6 _ t1 t2 t3 t4 =>
      obtain ⟨σ, T⟩ := tok_ex hW4 l16 (kL [t1, t2, t3, t4]) ef lf ef τ a b
      have key : plS c.W s = (List.range c.W).flatMap fun j => ((c.pc j).v (p.la j) (dlV c.W c.s (c.dk p.d).y j σ) (σ (4 + j)) (dlV c.W c.s (c.dk p.d).y j σ) (σ (8 + j))).E := by
        refine flat_congr fun j hj => ?_
        have z3 : dlV c.W c.s (c.dk p.d).y j σ = (List.range c.s).map fun x => .str ((c.dk p.d).y (c.W * x + j)) (τ j x) := by
          rw [dlV_eq]
          exact List.map_congr_left fun x hx => by rw [T.tk j x hj (List.mem_range.mp hx)]
        rw [hl j hj, T.ef j hj, T.lf j hj, z3]
        rfl
      refine ⟨_, q4, σ, T.z, rfl, ?_⟩
      have hk' : c.W * c.s = k + 1 := hk
      rw [key, hk]
      show dlE _ _ _ _ _ _ _ _ _ _ = dlE _ _ _ (DlP.f6 _ _ _ (k2 4 p.ks (σ 0) (σ 1)) (.int ((c.W * c.s - 1 : Nat) : Int) (σ 2)) (.str ((c.dk p.d).y (c.W * c.s - 1)) (σ 3))) ((c.W * c.s : Nat) : Int) 0 (c.fin p.d (σ 40) (σ 41)).x (c.fin p.d (σ 40) (σ 41)).oa (c.fin p.d (σ 40) (σ 41)).op _
      rw [T.t0, T.t1, T.t2, T.t3, T.a, T.b, hf, hk', Nat.add_sub_cancel]
      rfl
theorem cutS_z {σ : Nat → Nat} {i : Nat} (h : 64 ≤ i) : cutS σ i = 0 := by
  unfold cutS
  cases q : Nat.blt i 64 with
  | true => exact absurd (blt_true q) (Nat.not_lt.mpr h)
  | false => rfl
theorem tlS_z {k : Nat} {σ : Nat → Nat} : ∀ i, 62 ≤ i → tlS k σ i = 0 := fun i hi => cutS_z (by omega)
theorem aD_hi {W n : Nat} {τ : Nat → Nat} {i : Nat} (h : 16 ≤ i) : aD W n τ i = τ i := by
  unfold aD
  cases q : Nat.blt i 16 with
  | true => exact absurd (blt_true q) (Nat.not_lt.mpr h)
  | false => rfl
theorem dlV_congr {W s : Nat} {y : Nat → Str} {j : Nat} {σ τ : Nat → Nat} (h : ∀ i, 16 ≤ i → σ i = τ i) : dlV W s y j σ = dlV W s y j τ := by
  rw [dlV_eq, dlV_eq]
  exact List.map_congr_left fun x _ => by rw [h _ (Nat.le_add_right _ _)]
theorem dealOut_eq {K : KT} {c : DlC} {p : DaP} {W n : Nat} {τ : Nat → Nat} : dealOut K c p (aD W n τ) τ = dealOut K c p (aD W n τ) (aD W n τ) := by
  have : ∀ j, dlV c.W c.s (c.dk p.d).y j τ = dlV c.W c.s (c.dk p.d).y j (aD W n τ) := fun j => dlV_congr fun i hi => (aD_hi hi).symm
  unfold dealOut
  simp only [this]
theorem cDeal_ok {w : World} {c : DlC} (H : DcOk w c) : (cDeal (ktop w.params) c).Holds w where
  ad p σ := ⟨σ 10 :: (List.range c.W).map σ, by
    show Sto.ad (dealOut _ c p σ σ) = Sto.ad (c.m.O _ p.d.x p.d.oa p.d.op ++ (p.pls, _) :: pileS c fun j => lst [] (p.eps j)) ++ _
    unfold dealOut pileS Sto.ad
    simp only [List.map_append, List.map_cons, List.map_flatMap, List.append_assoc, List.cons_append, List.map_map]
    rfl⟩
  does p hc := by
    have hr : RangeOk ((c.W * c.s : Nat) : Int) := by obtain ⟨a, b⟩ := H.le; exact ⟨by omega, by omega⟩
    obtain ⟨m, dk, fin, pc, W, s⟩ := c
    rcases H.hW with h | h | h
    · cases h
      exact Ends.fin (fun n t σ => ds2.eq_1 w.params (bOf w) (ktop w.params) theProg m dk fin pc s p (PySem.W.ZFast.hKY w.params) n t σ) rfl ⟨(cDl_ok H).ok _ _, cRIter_ok.ok _ _, trivial⟩ (fun n t σ => ds2_r w.params (bOf w) m dk fin pc s p (PySem.W.ZFast.hKY w.params) n t σ) (by decide) (fun _ _ _ _ => ⟨hc.1, hr, trivial⟩) fun n t σ _ => ⟨aD 2 n (tlS 1 σ), fun i hi => (aD_hi (by omega)).trans (tlS_z i hi), rfl, dealOut_eq⟩
    · cases h
      exact Ends.fin (fun n t σ => ds3.eq_1 w.params (bOf w) (ktop w.params) theProg m dk fin pc s p (PySem.W.ZFast.hKY w.params) n t σ) rfl ⟨(cDl_ok H).ok _ _, cRIter_ok.ok _ _, trivial⟩ (fun n t σ => ds3_r w.params (bOf w) m dk fin pc s p (PySem.W.ZFast.hKY w.params) n t σ) (by decide) (fun _ _ _ _ => ⟨hc.1, hr, trivial⟩) fun n t σ _ => ⟨aD 3 n (tlS 1 σ), fun i hi => (aD_hi (by omega)).trans (tlS_z i hi), rfl, dealOut_eq⟩
    · cases h
      exact Ends.fin (fun n t σ => ds4.eq_1 w.params (bOf w) (ktop w.params) theProg m dk fin pc s p (PySem.W.ZFast.hKY w.params) n t σ) rfl ⟨(cDl_ok H).ok _ _, cRIter_ok.ok _ _, trivial⟩ (fun n t σ => ds4_r w.params (bOf w) m dk fin pc s p (PySem.W.ZFast.hKY w.params) n t σ) (by decide) (fun _ _ _ _ => ⟨hc.1, hr, trivial⟩) fun n t σ _ => ⟨aD 4 n (tlS 1 σ), fun i hi => (aD_hi (by omega)).trans (tlS_z i hi), rfl, dealOut_eq⟩
end Mine
end
section
open PySem PySem.W PySem.W.X PyProof.Rows
namespace Mine
noncomputable def linesT : Nat → Int
  | 0 => 0
  | k + 1 => linesT k + lineT k
noncomputable def dkS (d : DkS) : DkM where
  y := nmS
  IsD k x oa op := (∃ lt tp, x = { d.x with line := d.x.line + linesT k, lt := lt } ∧ oa = lst [.int (posT k) tp] 0) ∧ op = d.op ∧ ∃ ep, d.op = lst [] ep
  fx k x σ := { x with line := x.line + lineT k, lt := σ 1 }
  fa k _ σ := lst [.int (posT (k + 1)) (σ 2)] 0
  fp _ op _ := op
  ft _ _ σ := σ 0
noncomputable def finS (c : Nat) (d : DkS) (a b : Nat) : DkS := ⟨{ d.x with line := d.x.line + linesT c, lt := a }, lst [.int (posT c) b] 0, d.op⟩
noncomputable def dkP (ss : List Str) (d : DkS) : DkM where
  y k := ss.getD k ⟨#[]⟩
  IsD k x oa op := x = d.x ∧ oa = d.oa ∧ ss.length ≤ 100 ∧ ∃ vs ep e, d.op = lst vs e ∧ StrsAre vs ss ∧ op = lst (vs.drop k) ep
  fx _ x _ := x
  fa _ oa _ := oa
  fp _ op σ := lst (getV op).tail (σ 0)
  ft _ op _ := tokV ((getV op).headD .none)
noncomputable def finP (d : DkS) (a _ : Nat) : DkS := ⟨d.x, d.oa, lst [] a⟩
theorem preT_pre : ∀ c k : Nat, k ≤ c → ∃ rest, preT c = preT k ++ rest
  | 0, k, h => by
    have : k = 0 := by omega
    subst this
    exact ⟨[], rfl⟩
  | c + 1, k, h => by
    by_cases e : k = c + 1
    · subst e; exact ⟨[], by simp⟩
    · obtain ⟨r, q⟩ := preT_pre c k (by omega)
      exact ⟨r ++ rowT (c + 1), by rw [preT, q, List.append_assoc]⟩
section
variable {w : World} {m : Mc}
theorem tokS_run {k : Nat} {rest : List Nat} (hk : k < 16) (hm : m.sheet = sheetT k rest) (x : LexD) (tp : Tok) (ep : Nat) :
    Ends w 12 (.call (.ref 84) ⟨[.ref m.lx], []⟩) (m.O (ktop w.params) x (lst [.int (posT k) tp] 0) (lst [] ep))
      (QS (fun σ => .ok (.ret (.str (nmS k) (σ 0)))) (fun σ => m.O (ktop w.params) { x with line := x.line + lineT k, lt := σ 1 } (lst [.int (posT (k + 1)) (σ 2)] 0) (lst [] ep))) := by
  obtain ⟨lx, d, st, pl, at_, sd, rd, rc, ca, cs, ct, lc, kk, hr, kr, sheet, tk⟩ := m
  cases hm
  have hm3 : k % 3 = 0 ∨ k % 3 = 1 ∨ k % 3 = 2 := by omega
  rcases hm3 with h | h | h
  · refine Ends.fin (fun n t σ => gs0.eq_1 w.params (bOf w) (ktop w.params) theProg k ⟨lx, d, st, pl, at_, sd, rd, rc, ca, cs, ct, lc, kk, hr, kr, ⟨#[]⟩, tk⟩ rest x tp ep n t σ) rfl trivial (fun n t σ => gs0_r w.params (bOf w) k ⟨lx, d, st, pl, at_, sd, rd, rc, ca, cs, ct, lc, kk, hr, kr, ⟨#[]⟩, tk⟩ rest x tp ep n t σ (by omega)) (by decide) (fun _ _ _ _ => trivial) fun n t σ _ => ⟨sg [t + 17, t + 50, t + 44], sg_z (by simp), rfl, ?_⟩
    rw [show lineT k = 1 by unfold lineT; rw [h]; rfl]
    rfl
  · refine Ends.fin (fun n t σ => gs1.eq_1 w.params (bOf w) (ktop w.params) theProg k ⟨lx, d, st, pl, at_, sd, rd, rc, ca, cs, ct, lc, kk, hr, kr, ⟨#[]⟩, tk⟩ rest x tp ep n t σ) rfl trivial (fun n t σ => gs1_r w.params (bOf w) k ⟨lx, d, st, pl, at_, sd, rd, rc, ca, cs, ct, lc, kk, hr, kr, ⟨#[]⟩, tk⟩ rest x tp ep n t σ (by omega)) (by decide) (fun _ _ _ _ => trivial) fun n t σ _ => ⟨sg [t + 70, x.lt, t + 85], sg_z (by simp), rfl, ?_⟩
    rw [show lineT k = 0 by unfold lineT; rw [h]; rfl, Int.add_zero]
    rfl
  · refine Ends.fin (fun n t σ => gs2.eq_1 w.params (bOf w) (ktop w.params) theProg k ⟨lx, d, st, pl, at_, sd, rd, rc, ca, cs, ct, lc, kk, hr, kr, ⟨#[]⟩, tk⟩ rest x tp ep n t σ) rfl trivial (fun n t σ => gs2_r w.params (bOf w) k ⟨lx, d, st, pl, at_, sd, rd, rc, ca, cs, ct, lc, kk, hr, kr, ⟨#[]⟩, tk⟩ rest x tp ep n t σ (by omega)) (by decide) (fun _ _ _ _ => trivial) fun n t σ _ => ⟨sg [t + 111, t + 132, t + 126], sg_z (by simp), rfl, ?_⟩
    rw [show lineT k = 1 + 1 by unfold lineT; rw [h]; rfl, ← Int.add_assoc]
    rfl
theorem dkS_ok {c : Nat} (hc : c ≤ 16) (hm : m.sheet = ⟨(preT (c - 1)).toArray⟩) (d : DkS) : DkOk w m (dkS d) c where
  tok k hk := by
    refine ⟨fun p σ => ⟨[], (List.append_nil _).symm⟩, fun p hp => ?_⟩
    obtain ⟨⟨⟨lt, tp, hx, ha⟩, ho, ep, he⟩, -⟩ := hp
    obtain ⟨rest, hr⟩ := preT_pre (c - 1) k (by omega)
    obtain ⟨x, oa, op⟩ := p
    obtain ⟨d1, d2, d3⟩ := d
    cases he
    cases ho
    cases ha
    exact tokS_run (w := w) (k := k) (rest := rest) (by omega) (by rw [hm, hr]; rfl) x tp ep
  step k x oa op σ hk := by
    rintro ⟨⟨lt, tp, rfl, rfl⟩, rfl, ep, he⟩
    exact ⟨⟨σ 1, σ 2, by simp only [linesT, Int.add_assoc, dkS], rfl⟩, rfl, ep, he⟩
theorem finS_ok {c : Nat} (d : DkS) (x : LexD) (oa op : Obj) (h : (dkS d).IsD c x oa op) : ∃ a b, finS c d a b = ⟨x, oa, op⟩ := by
  obtain ⟨⟨lt, tp, rfl, rfl⟩, rfl, -⟩ := h
  exact ⟨lt, tp, rfl⟩
theorem lst_v (vs : List Value) (ep : Nat) : getV (lst vs ep) = vs := rfl
theorem strs_drop {vs : List Value} {ss : List Str} (h : StrsAre vs ss) : ∀ k, k < ss.length → ∃ t r, vs.drop k = .str (ss.getD k ⟨#[]⟩) t :: r := fun k hk => by
  obtain ⟨y, t, q1, q2⟩ := strsAre_get h k _ (List.getElem?_eq_getElem (by rw [strsAre_len h]; exact hk))
  refine ⟨t, vs.drop (k + 1), ?_⟩
  rw [List.drop_eq_getElem_cons (by rw [strsAre_len h]; exact hk), q1, List.getD_eq_getElem?_getD, q2]
  rfl
theorem dkP_ok {ss : List Str} (d : DkS) : DkOk w m (dkP ss d) ss.length where
  tok k hk := by
    refine ⟨fun p σ => ⟨[], (List.append_nil _).symm⟩, fun p hp => ?_⟩
    obtain ⟨⟨hx, ha, h100, vs, ep, e, hd, hv, ho⟩, -⟩ := hp
    obtain ⟨x, oa, op⟩ := p
    have ho : op = _ := ho
    subst ho
    obtain ⟨t, r, hr⟩ := strs_drop hv k hk
    have hl : r.length ≤ 1000 := by
      have := congrArg List.length hr
      rw [List.length_drop, strsAre_len hv, List.length_cons] at this
      omega
    have T := ((cPopT_ok (w := w)).does ⟨m.lx, m.d, m.st, m.pl, x, r, ep, ss.getD k ⟨#[]⟩, t⟩ ⟨hl, trivial⟩).lift (lv' := 12) (by decide)
    refine (T.frame [(m.st, oSt (ktop w.params) m), (m.sd, oSd m), (m.rd, oRd (ktop w.params) m), (m.ca, cellOf (.ref m.at_)), (m.cs, cellOf (.str m.sheet m.tk)), (m.rc, oRc m.k), (m.at_, oa)]).perm (pick_perm [0, 7, 9, 1, 2, 3, 4, 5, 6, 8] (n := 10) (by decide) rfl (by rw [hr]; rfl)) fun res G q => ?_
    obtain ⟨E', rfl, σ, hz, rfl, rfl⟩ := q
    refine ⟨m.O (ktop w.params) x oa (lst r (σ 0)), pick_perm [0, 3, 4, 5, 6, 7, 8, 1, 9, 2] (n := 10) (by decide) rfl rfl, σ, hz, ?_, ?_⟩
    · show Except.ok (Flow.ret _) = Except.ok (Flow.ret (Value.str _ (tokV ((getV (lst (vs.drop k) ep)).headD .none))))
      rw [lst_v, hr]
      rfl
    · show _ = m.O _ x oa (lst (getV (lst (vs.drop k) ep)).tail (σ 0))
      rw [lst_v, hr]
      rfl
  step k x oa op σ hk := by
    rintro ⟨rfl, rfl, h1, vs, ep, e, h2, h3, rfl⟩
    exact ⟨rfl, rfl, h1, vs, _, e, h2, h3, by rw [← List.tail_drop]; rfl⟩
theorem finP_ok {ss : List Str} (d : DkS) (x : LexD) (oa op : Obj) (h : (dkP ss d).IsD ss.length x oa op) : ∃ a b, finP d a b = ⟨x, oa, op⟩ := by
  obtain ⟨rfl, rfl, -, vs, ep, e, -, hv, rfl⟩ := h
  exact ⟨ep, 0, by rw [← strsAre_len hv, List.drop_length]; rfl⟩
end
end Mine
end
section
open PySem PySem.W PySem.W.X PyProof.Rows PySem.SeqAt
namespace Mine
noncomputable def citOf (bm : Nat) (ts : Tok) : Obj := { cls := .type "callable_iterator", data := .fields #[.ref bm, .str ⟨#[]⟩ ts, .bool false] }
noncomputable def citEnd : Obj := { cls := .type "callable_iterator", data := .fields #[.none, .none, .bool true] }
noncomputable def methOf (f lx : Nat) : Obj := { cls := .type "method", data := .fields #[.ref f, .ref lx] }
noncomputable def callEnd' (self : Value) : Sem Unit := do
  slotLetsGo "callable_iterator.__next__" (← field self 0) fun | .builtin "callable_iterator.__next__" x => x.pos.head? == some self | _ => false
  setField self 0 .none; setField self 1 .none; setField self 2 (.bool true)
noncomputable def endTail (it : Nat) : Sem PySem.Fin := do
  rule "callable_iterator.__next__.sentinel"
  callEnd' (.ref it)
  Builtin.SmallTypes.stopIteration
structure EdP where
  (m : Mc) (x : LexD) (pos : Int) (tp : Tok) (vs : List Value) (ep : Nat) (bm it : Nat) (ts : Tok)
noncomputable def EdP.E (K : KT) (p : EdP) (tp : Tok) : Sto := p.m.O K p.x (lst [.int p.pos tp] 0) (lst p.vs p.ep)
inductive AtE : Str → Int → Prop
  | pile : AtE ⟨#[]⟩ 0
  | deck (k : Nat) : k = 3 ∨ k = 5 ∨ k = 8 ∨ k = 11 ∨ k = 15 → AtE ⟨(preT k).toArray⟩ (posT (k + 1))
  | eight : AtE ⟨(preT 7).toArray⟩ (posT 8 + 1)
noncomputable def cRead (K : KT) : Con EdP where
  lv := 5
  co p := .call (.ref p.bm) ⟨[], []⟩
  E p := (p.bm, methOf 77 p.m.lx) :: p.E K p.tp
  cs p := [AtE p.m.sheet p.pos]
  res p σ := .ok (.ret (.str ⟨#[]⟩ (σ 0)))
  E' p σ := (p.bm, methOf 77 p.m.lx) :: p.E K (σ 1)
noncomputable def cNextE (K : KT) : Con EdP where
  lv := 7
  co p := .builtin "callable_iterator.__next__" ⟨[.ref p.it], []⟩
  E p := (p.it, citOf p.bm p.ts) :: (p.bm, methOf 77 p.m.lx) :: p.E K p.tp
  cs p := [AtE p.m.sheet p.pos]
  res p σ := .error (.ref (σ 1))
  E' p σ := (p.it, citEnd) :: (p.bm, methOf 77 p.m.lx) :: (p.E K (σ 2) ++ [(σ 0, tup []), (σ 1, stopObj (σ 0))])
noncomputable def gEd (m : Mc) (co : Code) (es : List En) : EdP := ⟨m, lexOf (eO es 9), intV (itemV (eO es 10) 0), tokV (itemV (eO es 10) 0), getV (eO es 11), epO (eO es 11), refV (fldF (eO es 0) 0), refV ((posOf co).getD 0 .none), tokV (fldF (eO es 0) 1)⟩
noncomputable abbrev sNextE (K : KT) (m : Mc) : SumFn := sumE (cNextE K) 12 (gEd m)
structure EtP where
  (x : LexD) (pos : Int) (tp : Tok) (ep : Nat)
noncomputable def cEndT (K : KT) (m : Mc) : Con EtP where
  lv := 12
  co p := .call (.ref 84) ⟨[.ref m.lx], []⟩
  E p := m.O K p.x (lst [.int p.pos p.tp] 0) (lst [] p.ep)
  cs p := [AtE m.sheet p.pos]
  res p σ := .ok (.ret (.str ⟨#[]⟩ (σ 0)))
  E' p σ := m.O K p.x (lst [.int p.pos (σ 1)] 0) (lst [] p.ep)
inductive PtIs : List Value → Str → List Value → (Nat → Tok) → Prop
  | pop {y ty vs} : vs.length < 16 → PtIs (.str y ty :: vs) y vs (fun _ => ty)
  | fin : PtIs [] ⟨#[]⟩ [] (fun k => k)
structure PtP where
  (x : LexD) (tp : Tok) (vs : List Value) (ep : Nat)
noncomputable def cPt (K : KT) (m : Mc) (y : Str) (vr : List Value) (ft : Nat → Tok) : Con PtP where
  lv := 12
  co p := .call (.ref 84) ⟨[.ref m.lx], []⟩
  E p := m.O K p.x (lst [.int 0 p.tp] 0) (lst p.vs p.ep)
  cs p := [PtIs p.vs y vr ft]
  res p σ := .ok (.ret (.str y (ft (σ 0))))
  E' p σ := m.O K p.x (lst [.int 0 (σ 1)] 0) (lst vr (σ 2))
noncomputable def gPt (co : Code) (es : List En) : PtP := ⟨lexOf (eO es 7), tokV (itemV (eO es 8) 0), getV (eO es 9), epO (eO es 9)⟩
noncomputable abbrev sPt (K : KT) (m : Mc) (y : Str) (vr : List Value) (ft : Nat → Tok) : SumFn := sumE (cPt K m y vr ft) 10 gPt
structure StrNe (a b : Str) : Prop where
  ne : a ≠ b
noncomputable def s0 (as : List Value) : Str := sOf (as.getD 0 .none)
noncomputable def s1 (as : List Value) : Str := sOf (as.getD 1 .none)
noncomputable def isStrs2 : List Value → Bool
  | [.str _ _, .str _ _] => true
  | _ => false
noncomputable def opStrNe : VOp := { id := "str.__ne__", n := 0, ac := fun as es => { bs := [isStrs2 as], conds := [StrNe (s0 as) (s1 as)] }, val := fun _ _ _ => .bool true }
@[irreducible] noncomputable def rdP (P : Params) (b : Bool) (K : KT) (pg : Program) (m : Mc) (x : LexD) (tp : Tok) (op : Obj) (bm : Nat) (n t : Nat) (σ : Nat → Nat) : Ou :=
  goC (mkW P b K pg []) 4000 5 (.call (.ref bm) ⟨[], []⟩)
  ((bm, methOf 77 m.lx) :: Mc.O K { m with sheet := ⟨#[]⟩ } x (lst [.int 0 tp] 0) op) n t σ
  [1,1,0,0,0,12,12,0,0,12,2,0,0,0,0,2,0,0,0,2,2,0,9,3,3,3,3,0,3,0,3,3,3,4,5,0,5,8,13,13,0,0,7,6,10,10,10,0,10,0,10,6,10,10,10,0,10,0,10,13,0,0,0,0,14,14,14,14,13,13,6,10,10,10,0,10,0,10,0,0,13,0,0,0,0,0,0,6,10,10,0,10,0,10,10,10,13,12,12,12,0,0,12]
theorem rdP_id : @rdP = @rdP := rfl
lay_z Mine.rdP
end Mine
name_z rdPY for Mine.rdP by Mine.rdP_id
namespace Mine
theorem rdP_r (P : Params) (b : Bool) (m : Mc) (x : LexD) (tp : Tok) (op : Obj) (bm : Nat) (n t : Nat) (σ : Nat → Nat) : Go0 (.ok (.ret (.str ⟨#[]⟩ m.tk))) [0, 1, 2, 3, 4, 5, 6, 7, 8, 9, 10] ((bm, methOf 77 m.lx) :: Mc.O (ktop P) { m with sheet := ⟨#[]⟩ } x (lst [.int 0 (t + 12)] 0) op) [] (rdP P b (ktop P) theProg m x tp op bm n t σ) := by
  rw [PySem.W.ZFast.rdPY_eq]
  cases b <;> refine ⟨⟨?_, ?_, ?_, ?_, ?_, ?_⟩, ?_, ?_, ?_⟩ <;> kernel_rfl
@[irreducible] noncomputable def rdD (P : Params) (b : Bool) (K : KT) (pg : Program) (k : Nat) (m : Mc) (x : LexD) (tp : Tok) (op : Obj) (bm : Nat) (n t : Nat) (σ : Nat → Nat) : Ou :=
  goC (mkW P b K pg []) 4000 5 (.call (.ref bm) ⟨[], []⟩)
  ((bm, methOf 77 m.lx) :: Mc.O K { m with sheet := ⟨(preT k).toArray⟩ } x (lst [.int (posT (k + 1)) tp] 0) op) n t σ
  [1,1,0,0,0,12,12,0,0,12,2,0,0,0,0,2,0,0,0,2,2,0,9,3,3,3,3,0,3,0,3,3,3,4,5,0,5,8,13,13,0,0,7,6,10,10,10,0,10,0,10,6,10,10,10,0,10,0,10,13,0,0,0,0,14,14,14,14,13,13,6,10,10,10,0,10,0,10,0,0,13,0,0,0,0,0,0,6,10,10,0,10,0,10,10,10,13,12,12,12,0,0,12]
theorem rdD_id : @rdD = @rdD := rfl
lay_z Mine.rdD
end Mine
name_z rdDY for Mine.rdD by Mine.rdD_id
namespace Mine
theorem rdD_r (P : Params) (b : Bool) (k : Nat) (m : Mc) (x : LexD) (tp : Tok) (op : Obj) (bm : Nat) (n t : Nat) (σ : Nat → Nat) (hk : k = 3 ∨ k = 5 ∨ k = 8 ∨ k = 11 ∨ k = 15) : Go0 (.ok (.ret (.str ⟨#[]⟩ (t + 8)))) [0, 1, 2, 3, 4, 5, 6, 7, 8, 9, 10] ((bm, methOf 77 m.lx) :: Mc.O (ktop P) { m with sheet := ⟨(preT k).toArray⟩ } x (lst [.int (posT (k + 1)) (t + 13)] 0) op) [] (rdD P b (ktop P) theProg k m x tp op bm n t σ) := by
  rw [PySem.W.ZFast.rdDY_eq]
  rcases hk with rfl | rfl | rfl | rfl | rfl <;> cases b <;> refine ⟨⟨?_, ?_, ?_, ?_, ?_, ?_⟩, ?_, ?_, ?_⟩ <;> kernel_rfl
@[irreducible] noncomputable def rdE (P : Params) (b : Bool) (K : KT) (pg : Program) (m : Mc) (x : LexD) (tp : Tok) (op : Obj) (bm : Nat) (n t : Nat) (σ : Nat → Nat) : Ou :=
  goC (mkW P b K pg []) 4000 5 (.call (.ref bm) ⟨[], []⟩)
  ((bm, methOf 77 m.lx) :: Mc.O K { m with sheet := ⟨(preT 7).toArray⟩ } x (lst [.int (posT 8 + 1) tp] 0) op) n t σ
  [1,1,0,0,0,12,12,0,0,12,2,0,0,0,0,2,0,0,0,2,2,0,9,3,3,3,3,0,3,0,3,3,3,4,5,0,5,8,13,13,0,0,7,6,10,10,10,0,10,0,10,6,10,10,10,0,10,0,10,13,0,0,0,0,14,14,14,14,13,13,6,10,10,10,0,10,0,10,0,0,13,0,0,0,0,0,0,6,10,10,0,10,0,10,10,10,13,12,12,12,0,0,12]
theorem rdE_id : @rdE = @rdE := rfl
lay_z Mine.rdE
end Mine
name_z rdEY for Mine.rdE by Mine.rdE_id
namespace Mine
theorem rdE_r (P : Params) (b : Bool) (m : Mc) (x : LexD) (tp : Tok) (op : Obj) (bm : Nat) (n t : Nat) (σ : Nat → Nat) : Go0 (.ok (.ret (.str ⟨#[]⟩ (t + 8)))) [0, 1, 2, 3, 4, 5, 6, 7, 8, 9, 10] ((bm, methOf 77 m.lx) :: Mc.O (ktop P) { m with sheet := ⟨(preT 7).toArray⟩ } x (lst [.int (posT 8 + 1) (t + 13)] 0) op) [] (rdE P b (ktop P) theProg m x tp op bm n t σ) := by
  rw [PySem.W.ZFast.rdEY_eq]
  cases b <;> refine ⟨⟨?_, ?_, ?_, ?_, ?_, ?_⟩, ?_, ?_, ?_⟩ <;> kernel_rfl
@[irreducible] noncomputable def ce (P : Params) (b : Bool) (K : KT) (pg : Program) (m : Mc) (x : LexD) (oa op : Obj) (bm it : Nat) (ts : Tok) (n t : Nat) (σ : Nat → Nat) : Ou :=
  goT (mkW P b K pg []) 4000 6 (endTail it)
  ((it, citOf bm ts) :: (bm, methOf 77 m.lx) :: Mc.O K m x oa op) n t σ
  [1,2,0,1,1,1,1,1,1]
theorem ce_id : @ce = @ce := rfl
lay_z Mine.ce
end Mine
name_z ceY for Mine.ce by Mine.ce_id
namespace Mine
theorem ce_r (P : Params) (b : Bool) (m : Mc) (x : LexD) (oa op : Obj) (bm it : Nat) (ts : Tok) (n t : Nat) (σ : Nat → Nat) : Go0 (.error (.ref (n + 1))) [0, 1, 2, 3, 4, 5, 6, 7, 8, 9, 10, 11, 12, 13] ((it, citEnd) :: (bm, methOf 77 m.lx) :: (m.O (ktop P) x oa op ++ [(n, tup []), (n + 1, stopObj n)])) [] (ce P b (ktop P) theProg m x oa op bm it ts n t σ) := by
  rw [PySem.W.ZFast.ceY_eq]
  cases b <;> refine ⟨⟨?_, ?_, ?_, ?_, ?_, ?_⟩, ?_, ?_, ?_⟩ <;> kernel_rfl
@[irreducible] noncomputable def geP (P : Params) (b : Bool) (K : KT) (pg : Program) (m : Mc) (x : LexD) (pos : Int) (tp : Tok) (ep : Nat) (n t : Nat) (σ : Nat → Nat) : Ou :=
  goC (mkW P b K pg [sNextE K m]) 4000 12 (.call (.ref 84) ⟨[.ref m.lx], []⟩)
  (m.O K x (lst [.int pos tp] 0) (lst [] ep)) n t σ
  [0,0,11,11,0,0,11,1,0,0,0,0,1,0,0,0,1,1,0,8,10,10,0,10,0,10,0,10,11,11,0,0,11,1,0,0,0,0,1,0,0,0,0,0,0,1,1,0,8,0,0,0,0,0,0,0,0,12,11,11,11,13,13,0,13,0,13,0,13,0,13,2,12,11,0,1,2,3,4,5,6,7,8,9,15,0,11]
theorem geP_id : @geP = @geP := rfl
lay_z Mine.geP
end Mine
name_z gePY for Mine.geP by Mine.geP_id
namespace Mine
theorem geP_r (P : Params) (b : Bool) (m : Mc) (x : LexD) (pos : Int) (tp : Tok) (ep : Nat) (n t : Nat) (σ : Nat → Nat) : Go0 (.ok (.ret (.str ⟨#[]⟩ (t + 4)))) [0, 1, 2, 3, 4, 5, 6, 7, 8, 9] (m.O (ktop P) x (lst [.int pos (tlS 0 σ 2)] 0) (lst [] ep)) [AtE m.sheet pos] (geP P b (ktop P) theProg m x pos tp ep n t σ) := by
  rw [PySem.W.ZFast.gePY_eq]
  cases b <;> refine ⟨⟨?_, ?_, ?_, ?_, ?_, ?_⟩, ?_, ?_, ?_⟩ <;> kernel_rfl
@[irreducible] noncomputable def ge8 (P : Params) (b : Bool) (K : KT) (pg : Program) (m : Mc) (x : LexD) (tp : Tok) (ep : Nat) (n t : Nat) (σ : Nat → Nat) : Ou :=
  goC (mkW P b K pg [sNextE K { m with sheet := ⟨(preT 7).toArray⟩ }]) 4000 12 (.call (.ref 84) ⟨[.ref m.lx], []⟩)
  (Mc.O K { m with sheet := ⟨(preT 7).toArray⟩ } x (lst [.int (posT 8) tp] 0) (lst [] ep)) n t σ
  [0,0,11,11,0,0,11,1,0,0,0,0,1,0,0,0,1,1,0,8,10,10,0,10,0,10,0,10,11,11,0,0,11,1,0,0,0,0,1,0,0,0,0,0,0,1,1,0,8,0,0,0,0,0,0,0,0,12,11,11,11,13,13,0,13,0,13,0,13,0,13,0,13,13,12,0,0,12,12,0,0,0,14,14,0,0,14,1,0,0,0,0,1,0,0,0,1,1,0,8,2,2,2,2,0,2,0,2,2,2,3,4,0,4,7,15,15,0,0,6,5,9,9,9,0,9,0,9,5,9,9,9,0,9,0,9,15,0,0,0,0,16,16,16,16,15,15,5,9,9,9,0,9,0,9,0,0,15,0,0,0,0,0,0,5,9,9,0,9,0,9,9,9,15,14,14,14,0,0,14,1,0,0,0,0,1,0,0,0,1,1,0,8,0,0,1,0,0,0,0,1,0,0,1,0,1,0,0,0,1,0,8,8,8,14,13,13,0,0,11,11,11,11,1,0,0,0,0,1,0,0,0,1,1,0,8,0,0,0,13,0,13,2,12,11,0,1,2,3,4,5,6,7,8,9,18,0,11]
theorem ge8_id : @ge8 = @ge8 := rfl
lay_z Mine.ge8
end Mine
name_z ge8Y for Mine.ge8 by Mine.ge8_id
namespace Mine
theorem ge8_r (P : Params) (b : Bool) (m : Mc) (x : LexD) (tp : Tok) (ep : Nat) (n t : Nat) (σ : Nat → Nat) : Go0 (.ok (.ret (.str ⟨#[]⟩ (t + 4)))) [0, 1, 2, 3, 4, 5, 6, 7, 8, 9] (Mc.O (ktop P) { m with sheet := ⟨(preT 7).toArray⟩ } { x with line := x.line + 1, lt := t + 28 } (lst [.int (posT 8 + 1) (tlS 0 σ 2)] 0) (lst [] ep)) [AtE ⟨(preT 7).toArray⟩ (posT 8 + 1)] (ge8 P b (ktop P) theProg m x tp ep n t σ) := by
  rw [PySem.W.ZFast.ge8Y_eq]
  cases b <;> refine ⟨⟨?_, ?_, ?_, ?_, ?_, ?_⟩, ?_, ?_, ?_⟩ <;> kernel_rfl
theorem isStrs2_eq {as : List Value} (h : isStrs2 as = true) : ∃ a t b u, as = [.str a t, .str b u] := by
  unfold isStrs2 at h
  split at h
  · exact ⟨_, _, _, _, rfl⟩
  · cases h
theorem gives_strne (a : Str) (t : Tok) (b : Str) (u : Tok) : Gives (Builtin.«str.__ne__» ⟨[.str a t, .str b u], []⟩) (.val (.bool (a.cps.toList != b.cps.toList))) :=
  .of_wp fun M A E s Q h => by obtain ⟨hp, g, d, tk, os⟩ := s; wp_walk; exact ⟨_, rfl, h⟩
theorem opStrNe_good {w : World} : opStrNe.Good w := by
  refine ⟨fun as es A h g d t os hl hok hg => ?_⟩
  obtain ⟨-, -, -, h4, h5⟩ := hok
  obtain ⟨a, t1, b, u, rfl⟩ := isStrs2_eq (all1 h4)
  have hc : a ≠ b := (h5 _ (.head _)).ne
  have e : (a.cps.toList != b.cps.toList) = true := by
    rw [bne_iff_ne]
    exact fun q => hc (by cases a; cases b; exact congrArg Str.mk (Array.ext' q))
  refine (does_val (entryFor_of_tree (by kernel_rfl)) (by decide +kernel) (gives_strne a t1 b u)).mono fun r h' P => ⟨P.1, 0, ?_⟩
  rw [P.2, e]
  rfl
section
variable {w : World}
theorem cRead_ok : (cRead (ktop w.params)).Holds w where
  ad p σ := ⟨[], by rw [List.append_nil]; rfl⟩
  does p hc := by
    obtain ⟨⟨lx, d, st, pl, at_, sd, rd, rc, ca, cs, ct, lc, kk, hr, kr, sheet, tk⟩, x, pos, tp, vs, ep, bm, it, ts⟩ := p
    have h : AtE sheet pos := hc.1
    cases h with
    | pile => exact Ends.fin (fun n t σ => rdP.eq_1 w.params (bOf w) (ktop w.params) theProg ⟨lx, d, st, pl, at_, sd, rd, rc, ca, cs, ct, lc, kk, hr, kr, ⟨#[]⟩, tk⟩ x tp (lst vs ep) bm n t σ) rfl trivial (fun n t σ => rdP_r w.params (bOf w) ⟨lx, d, st, pl, at_, sd, rd, rc, ca, cs, ct, lc, kk, hr, kr, ⟨#[]⟩, tk⟩ x tp (lst vs ep) bm n t σ) (by decide) (fun _ _ _ _ => trivial) fun n t σ _ => ⟨sg [tk, t + 12], sg_z (by simp), rfl, rfl⟩
    | deck k hk => exact Ends.fin (fun n t σ => rdD.eq_1 w.params (bOf w) (ktop w.params) theProg k ⟨lx, d, st, pl, at_, sd, rd, rc, ca, cs, ct, lc, kk, hr, kr, ⟨#[]⟩, tk⟩ x tp (lst vs ep) bm n t σ) rfl trivial (fun n t σ => rdD_r w.params (bOf w) k ⟨lx, d, st, pl, at_, sd, rd, rc, ca, cs, ct, lc, kk, hr, kr, ⟨#[]⟩, tk⟩ x tp (lst vs ep) bm n t σ hk) (by decide) (fun _ _ _ _ => trivial) fun n t σ _ => ⟨sg [t + 8, t + 13], sg_z (by simp), rfl, rfl⟩
    | eight => exact Ends.fin (fun n t σ => rdE.eq_1 w.params (bOf w) (ktop w.params) theProg ⟨lx, d, st, pl, at_, sd, rd, rc, ca, cs, ct, lc, kk, hr, kr, ⟨#[]⟩, tk⟩ x tp (lst vs ep) bm n t σ) rfl trivial (fun n t σ => rdE_r w.params (bOf w) ⟨lx, d, st, pl, at_, sd, rd, rc, ca, cs, ct, lc, kk, hr, kr, ⟨#[]⟩, tk⟩ x tp (lst vs ep) bm n t σ) (by decide) (fun _ _ _ _ => trivial) fun n t σ _ => ⟨sg [t + 8, t + 13], sg_z (by simp), rfl, rfl⟩
noncomputable def o77 (P : Params) : Obj := ((ktop P).get 77).getD default
noncomputable def f77 (P : Params) : FuncData := match (o77 P).data with
  | .func fd => fd
  | _ => default
theorem o77_get (P : Params) : (ktop P).get 77 = some { cls := .type "function", data := .func (f77 P) } := by kernel_rfl
theorem entry_cnext : entryFor table "callable_iterator.__next__" = some Builtin.«callable_iterator.__next__» := entryFor_of_tree (by kernel_rfl)
theorem cNextE_ok : (cNextE (ktop w.params)).Holds w where
  ad p σ := ⟨[σ 0, σ 1], rfl⟩
  does p hc := by
    obtain ⟨m, x, pos, tp, vs, ep, bm, it, ts⟩ := p
    intro A h g d t os R hA S hR
    refine codeAny_builtin entry_cnext ?_
    have hA2 : Room A 48 := hA.mono (show 48 ≤ 6 * 7 + 6 by decide)
    have hR' : Room (A.under (.builtin "callable_iterator.__next__" ⟨[.ref it], []⟩)) 42 := hA2.under (isCaller_ne (by decide))
    generalize A.under (.builtin "callable_iterator.__next__" ⟨[.ref it], []⟩) = A' at hR'
    have h1 : h.get? it = some (citOf bm ts) := S.at_.1
    unfold citOf at h1
    have h2 : h.get? bm = some (methOf 77 m.lx) := S.at_.2.1
    unfold methOf at h2
    have h77 : h.get? 77 = some { cls := .type "function", data := .func (f77 w.params) } := S.tops 77 _ (o77_get w.params) (by decide)
    show wpAny (model theProg w) A' (Builtin.«callable_iterator.__next__» ⟨[.ref it], []⟩) (FinP theProg w A R) (ErrP R) _
    unfold Builtin.«callable_iterator.__next__»
    wp_walk
    refine x_call ?_ (by intro x; cases x)
    have F := ((cRead_ok (w := w)).does ⟨m, x, pos, tp, vs, ep, bm, it, ts⟩ hc).frame [(it, citOf bm ts)]
    refine F A' h g d _ os _ (hR'.mono (show 6 * 5 + 6 ≤ 42 by decide)) (S.perm (List.perm_append_comm (l₁ := [_]))) fun r h' t' G q S' gr => ?_
    obtain ⟨E1, rfl, σ, hz, rfl, rfl⟩ := q
    refine wpAny_pure ?_
    have S2 : St w h' ((it, citOf bm ts) :: (bm, methOf 77 m.lx) :: EdP.E (ktop w.params) ⟨m, x, pos, tp, vs, ep, bm, it, ts⟩ (σ 1)) := S'.perm (List.perm_append_comm (l₂ := [_]))
    have h1' : h'.get? it = some (citOf bm ts) := S2.at_.1
    unfold citOf at h1'
    wp_walk
    refine wpAny_eqBool_str ?_
    rw [if_neg (by simp)]
    show wpAny _ A' (endTail it) _ _ _
    have gr' := gr.perm (List.perm_append_comm (l₂ := [_])) (List.perm_append_comm (l₂ := [_]))
    exact tree_fin (fun σ' => ce.eq_1 w.params (bOf w) (ktop w.params) theProg m x (lst [.int pos (σ 1)] 0) (lst vs ep) bm it ts h'.objs.size t' σ') trivial S2 (hA2.mono (by decide)) (hR'.mono (by decide)) (fun σ' => ce_r w.params (bOf w) m x (lst [.int pos (σ 1)] 0) (lst vs ep) bm it ts h'.objs.size t' σ') (by decide) trivial fun h2 t2 S3 G3 => hR _ _ _ _ ⟨sg [h'.objs.size, h'.objs.size + 1, σ 1], sg_z (by simp), rfl, rfl⟩ S3 (gr'.trans G3)
theorem cEndT_ok {m : Mc} : (cEndT (ktop w.params) m).Holds w where
  ad p σ := ⟨[], (List.append_nil _).symm⟩
  does p hc := Ends.fin (fun n t σ => geP.eq_1 w.params (bOf w) (ktop w.params) theProg m p.x p.pos p.tp p.ep n t σ) rfl ⟨cNextE_ok.ok _ _, trivial⟩ (fun n t σ => geP_r w.params (bOf w) m p.x p.pos p.tp p.ep n t σ) (by decide) (fun _ _ _ _ => hc) fun n t σ _ => ⟨sg [t + 4, tlS 0 σ 2], sg_z (by simp), rfl, rfl⟩
theorem end8 {m : Mc} (hm : m.sheet = ⟨(preT 7).toArray⟩) (x : LexD) (tp : Tok) (ep : Nat) :
    Ends w 12 (.call (.ref 84) ⟨[.ref m.lx], []⟩) (m.O (ktop w.params) x (lst [.int (posT 8) tp] 0) (lst [] ep))
      (QS (fun σ => .ok (.ret (.str ⟨#[]⟩ (σ 0)))) (fun σ => m.O (ktop w.params) { x with line := x.line + 1, lt := σ 1 } (lst [.int (posT 8 + 1) (σ 2)] 0) (lst [] ep))) := by
  obtain ⟨lx, d, st, pl, at_, sd, rd, rc, ca, cs, ct, lc, kk, hr, kr, sheet, tk⟩ := m
  cases hm
  exact Ends.fin (fun n t σ => ge8.eq_1 w.params (bOf w) (ktop w.params) theProg ⟨lx, d, st, pl, at_, sd, rd, rc, ca, cs, ct, lc, kk, hr, kr, ⟨#[]⟩, tk⟩ x tp ep n t σ) rfl ⟨cNextE_ok.ok _ _, trivial⟩ (fun n t σ => ge8_r w.params (bOf w) ⟨lx, d, st, pl, at_, sd, rd, rc, ca, cs, ct, lc, kk, hr, kr, ⟨#[]⟩, tk⟩ x tp ep n t σ) (by decide) (fun _ _ _ _ => ⟨.eight, trivial⟩) fun n t σ _ => ⟨sg [t + 4, t + 28, tlS 0 σ 2], sg_z (by simp), rfl, rfl⟩
theorem cPt_ok {m : Mc} {y : Str} {vr : List Value} {ft : Nat → Tok} (hm : m.sheet = ⟨#[]⟩) : (cPt (ktop w.params) m y vr ft).Holds w where
  ad p σ := ⟨[], (List.append_nil _).symm⟩
  does p hc := by
    obtain ⟨x, tp, vs, ep⟩ := p
    have h : PtIs vs y vr ft := hc.1
    cases h with
    | pop hl =>
      rename_i ty
      have T := ((cPopT_ok (w := w)).does ⟨m.lx, m.d, m.st, m.pl, x, vr, ep, y, ty⟩ ⟨show vr.length ≤ 1000 by omega, trivial⟩).lift (lv' := 12) (by decide)
      refine (T.frame [(m.st, oSt (ktop w.params) m), (m.sd, oSd m), (m.rd, oRd (ktop w.params) m), (m.ca, cellOf (.ref m.at_)), (m.cs, cellOf (.str m.sheet m.tk)), (m.rc, oRc m.k), (m.at_, lst [.int 0 tp] 0)]).perm (pick_perm [0, 7, 9, 1, 2, 3, 4, 5, 6, 8] (n := 10) (by decide) rfl rfl) fun res G q => ?_
      obtain ⟨E', rfl, σ, hz, rfl, rfl⟩ := q
      exact ⟨m.O (ktop w.params) x (lst [.int 0 tp] 0) (lst vr (σ 0)), pick_perm [0, 3, 4, 5, 6, 7, 8, 1, 9, 2] (n := 10) (by decide) rfl rfl, sg [0, tp, σ 0], sg_z (by simp), rfl, rfl⟩
    | fin =>
      exact ((cEndT_ok (w := w) (m := m)).does ⟨x, 0, tp, ep⟩ ⟨by rw [hm]; exact .pile, trivial⟩).mono fun r G q => by
        obtain ⟨σ, hz, rfl, rfl⟩ := q
        exact ⟨sg [σ 0, σ 1, ep], sg_z (by simp), rfl, rfl⟩
end
end Mine
end
section
open PySem PySem.W PySem.W.X PyProof.Rows
namespace Mine
noncomputable def whTest : Stmt → Expr
  | .While t _ _ _ => t
  | _ => .Constant (.int 0) 0 ⟨0, 0, 0, 0⟩
noncomputable def whC (K : KT) (fr : Nat) : Code := .whileLoop (whTest (nthS (bodyS (nthS (stmtsOf (fdK K 134)) 1)) 1)) (bodyS (nthS (bodyS (nthS (stmtsOf (fdK K 134)) 1)) 1)) []
  { scope := (fdK K 134).scope, locals := fr, globals := 3, cells := [], qual := "_law_gathered.<locals>.", func := some 134, code := .ref 133, frame := some fr, builtins := 0 }
noncomputable def frG6 (hs : Nat → Int) (ks : Nat → Tok) (v0 v1 v2 v3 v4 v5 : Value) : Obj := { cls := .type "frame", data := .dict #[entD hs ks 0 "deck" v0, entD hs ks 1 "piles" v1, entD hs ks 2 "order" v2, entD hs ks 3 "row" v3, entD hs ks 4 "k" v4, entD hs ks 5 "name" v5] 6 }
structure WhP where
  (fr lx d st pl ra pls oa el : Nat) (o1 : LexD) (hs : Nat → Int) (ks : Nat → Tok) (k : Int) (tc : Tok) (pv : List Value) (x : LexD)
noncomputable def whE (K : KT) (m : Mc) (p : WhP) (y : Str) (ty : Tok) (dv : List Value) (ed : Nat) (rv : List Value) (er : Nat) (vs : List Value) (ep : Nat) (tp : Tok) : Sto :=
  (p.fr, frG6 p.hs p.ks (.ref p.lx) (.ref p.pls) (.ref p.oa) (.ref p.ra) (.int p.k p.tc) (.str y ty)) :: (p.lx, instOf p.d) :: (p.d, lexD p.o1 p.st p.pl) :: (p.pl, lst dv ed) :: (p.ra, lst rv er) :: (p.pls, lst p.pv p.el) :: m.O K p.x (lst [.int 0 tp] 0) (lst vs ep)
noncomputable def whDev : WhP := ⟨101, 102, 103, 104, 105, 106, 107, 108, 3, lxDev, fun _ => 0, fun i => 400 + i, 0, 410, [.ref 1001], lxDev⟩
structure WhOk (m : Mc) (pv : List Value) (k : Int) (tc : Tok) (y : Str) (vs dv rv : List Value) : Prop where
  it : ItemV pv (.int k tc) (.ref m.lx)
  ne : y ≠ ⟨#[]⟩
  cd : ∃ ss, StrsAre vs ss ∧ ∀ y ∈ ss, y ≠ ⟨#[]⟩
  l1 : vs.length ≤ 15
  l2 : dv.length + vs.length ≤ 1000
  l3 : rv.length + vs.length ≤ 1000
structure WgP where
  (p : WhP) (y : Str) (ty : Tok) (dv : List Value) (ed : Nat) (rv : List Value) (er : Nat) (vs : List Value) (ep : Nat) (tp : Tok)
noncomputable def cWh (K : KT) (m : Mc) (cat : List Value → List Value → List Value) : Con WgP where
  lv := 16
  co p := whC K p.p.fr
  E p := whE K m p.p p.y p.ty p.dv p.ed p.rv p.er p.vs p.ep p.tp
  cs p := [WhOk m p.p.pv p.p.k p.p.tc p.y p.vs p.dv p.rv]
  res p σ := .ok .next
  E' p σ := whE K m p.p ⟨#[]⟩ (σ 0) (cat p.dv (.str p.y p.ty :: p.vs)) (σ 1) (cat p.rv (.str p.y p.ty :: p.vs)) (σ 2) [] (σ 3) (σ 4)
noncomputable def gWh (co : Code) (es : List En) : WgP :=
  ⟨⟨frC co, refV (valOf (eO es 0) 0), dictN (eO es 1), refV (entryAt (eO es 2) 1).val, refV (entryAt (eO es 2) 3).val, refV (valOf (eO es 0) 3), refV (valOf (eO es 0) 1), refV (valOf (eO es 0) 2), epO (eO es 5), lexOf (eO es 2), hsOf (eO es 0), ksOf (eO es 0), intV (valOf (eO es 0) 4), tokV (valOf (eO es 0) 4), getV (eO es 5), lexOf (eO es 13)⟩,
    sOf (valOf (eO es 0) 5), tokV (valOf (eO es 0) 5), getV (eO es 3), epO (eO es 3), getV (eO es 4), epO (eO es 4), getV (eO es 15), epO (eO es 15), tokV (itemV (eO es 14) 0)⟩
noncomputable abbrev sWh (K : KT) (m : Mc) (cat : List Value → List Value → List Value) : SumFn := sumE (cWh K m cat) 16 gWh
structure GaP where
  (lx d st pl pls el oa eo ed : Nat) (o1 : LexD) (pv : List Value) (q : Nat → Nat) (ot : Nat → Tok) (y : Nat → Str) (ty : Nat → Tok) (vr : Nat → List Value) (eps : Nat → Nat) (tps : Nat → Tok) (x : Nat → LexD)
noncomputable def Mc.R (m : Mc) (rc : Nat) (kk : Nat → Nat) : Mc := ⟨m.lx, m.d, m.st, m.pl, m.at_, m.sd, m.rd, rc, m.ca, m.cs, m.ct, m.lc, kk, m.hr, m.kr, m.sheet, m.tk⟩
noncomputable def Mc.O9 (K : KT) (m : Mc) (x : LexD) (oa op : Obj) : Sto := [(m.lx, instOf m.d), (m.st, oSt K m), (m.sd, oSd m), (m.rd, oRd K m), (m.ca, cellOf (.ref m.at_)), (m.cs, cellOf (.str m.sheet m.tk)), (m.d, lexD x m.st m.pl), (m.at_, oa), (m.pl, op)]
noncomputable def flS (f : Nat → Sto) : Nat → Nat → Sto
  | 0, _ => []
  | k + 1, i => f i ++ flS f k (i + 1)
noncomputable def gaRow (cat : List Value → List Value → List Value) (L : Nat → List Value) : Nat → List Value
  | 0 => []
  | k + 1 => cat (gaRow cat L k) (L k)
noncomputable def GaP.L (p : GaP) (i : Nat) : List Value := .str (p.y i) (p.ty i) :: p.vr i
noncomputable def gaE (K : KT) (rc : Nat) (kk : Nat → Nat) (mc : Nat → Mc) (W : Nat) (p : GaP) (dv : List Value) (ed : Nat) (op : Nat → Obj) (tp : Nat → Tok) : Sto :=
  (p.lx, instOf p.d) :: (p.d, lexD p.o1 p.st p.pl) :: (p.pl, lst dv ed) :: (p.pls, lst p.pv p.el) :: (p.oa, lst (upN (fun i => .int (p.q i : Int) (p.ot i)) W 0) p.eo) :: (rc, oRc kk) ::
    flS (fun i => ((mc i).R rc kk).O9 K (p.x i) (lst [.int 0 (tp i)] 0) (op i)) W 0
noncomputable def gaCs (mc : Nat → Mc) (rc : Nat) (kk : Nat → Nat) (cat : List Value → List Value → List Value) (p : GaP) : Nat → List Prop
  | 0 => []
  | k + 1 => WhOk ((mc k).R rc kk) p.pv (p.q k : Int) (p.ot k) (p.y k) (p.vr k) (gaRow cat p.L k) (gaRow cat p.L k) :: ((p.vr k).length ≤ 1000) :: ItemV p.pv (.int (p.q k : Int) (p.ot k)) (.ref (mc k).lx) :: gaCs mc rc kk cat p k
noncomputable def gaOut (K : KT) (rc : Nat) (kk : Nat → Nat) (mc : Nat → Mc) (W : Nat) (cat : List Value → List Value → List Value) (p : GaP) (σ : Nat → Nat) : Sto :=
  gaE K rc kk mc W p (gaRow cat p.L W) (σ 1) (fun i => lst [] (σ (4 + i))) (fun i => σ (8 + i)) ++ [(σ 0, lst (gaRow cat p.L W) (σ 2))]
noncomputable def gaS (W n : Nat) (σ : Nat → Nat) : Nat → Nat := sg [n + 1, tlS (3 * W - 1) σ 1, tlS (3 * W - 1) σ 2, 0, tlS 2 σ 3, tlS 5 σ 3, tlS 8 σ 3, tlS 11 σ 3, tlS 2 σ 4, tlS 5 σ 4, tlS 8 σ 4, tlS 11 σ 4]
noncomputable def cGa (K : KT) (rc : Nat) (kk : Nat → Nat) (mc : Nat → Mc) (W : Nat) (cat : List Value → List Value → List Value) : Con GaP where
  lv := 18
  co p := .call (.ref 134) ⟨[.ref p.lx, .ref p.pls, .ref p.oa], []⟩
  E p := gaE K rc kk mc W p [] p.ed (fun i => lst (p.L i) (p.eps i)) p.tps
  cs p := gaCs mc rc kk cat p W
  res p σ := .ok (.ret (.ref (σ 0)))
  E' p σ := gaOut K rc kk mc W cat p σ
noncomputable def gGa (co : Code) (es : List En) : GaP :=
  ⟨refV ((argsOf co).getD 0 .none), dictN (eO es 0), refV (entryAt (eO es 1) 1).val, refV (entryAt (eO es 1) 3).val, refV ((argsOf co).getD 1 .none), epO (eO es 3), refV ((argsOf co).getD 2 .none), epO (eO es 4), epO (eO es 2), lexOf (eO es 1), getV (eO es 3),
    fun i => (intV (itemV (eO es 4) i)).toNat, fun i => tokV (itemV (eO es 4) i), fun i => sOf (itemV (eO es (6 + 9 * i + 8)) 0), fun i => tokV (itemV (eO es (6 + 9 * i + 8)) 0), fun i => (getV (eO es (6 + 9 * i + 8))).tail, fun i => epO (eO es (6 + 9 * i + 8)), fun i => tokV (itemV (eO es (6 + 9 * i + 7)) 0), fun i => lexOf (eO es (6 + 9 * i + 6))⟩
noncomputable abbrev sGa (K : KT) (rc : Nat) (kk : Nat → Nat) (mc : Nat → Mc) (W : Nat) (cat : List Value → List Value → List Value) : SumFn := sumE (cGa K rc kk mc W cat) (6 + 9 * W) gGa
noncomputable def gapDev : GaP := ⟨102, 103, 104, 105, 107, 3, 108, 4, 0, lxDev, [.ref 1021, .ref 1041, .ref 1061, .ref 1081], fun i => i, fun i => 430 + i, fun _ => "a", fun i => 440 + i, fun _ => [], fun _ => 0, fun i => 450 + i, fun _ => lxDev⟩
noncomputable def mcsDev (i : Nat) : Mc := ⟨1021 + 20 * i, 1022 + 20 * i, 1023 + 20 * i, 1024 + 20 * i, 1025 + 20 * i, 1026 + 20 * i, 1027 + 20 * i, 1008, 1029 + 20 * i, 1030 + 20 * i, 1031 + 20 * i, 1032 + 20 * i, fun i => 2000 + i, 0, 2100, "", 2101⟩
@[irreducible] noncomputable def gaW (P : Params) (b : Bool) (K : KT) (pg : Program) (m : Mc) (p : WhP) (y : Str) (ty : Tok) (dv : List Value) (ed : Nat) (rv : List Value) (er : Nat) (vs : List Value) (ep : Nat) (tp : Tok) (y' : Str) (vr : List Value) (ft : Nat → Tok) (ap : List Value → Value → List Value) (n t : Nat) (σ : Nat → Nat) : Ou :=
  goC (mkW P b K pg [sV opStrNe, sPush ap, sApp ap, sItem (.ref m.lx), sPt K m y' vr ft]) 4000 16 (whC K p.fr)
  (whE K m p y ty dv ed rv er vs ep tp) n t σ
  [1,0,2,1,2,0,0,0,2,0,0,0,2,0,0,0,0,2,3,1,0,3,1,2,3,1,5,5,5,5,1,0,5,4,4,1,1,6,6,6,0,6,5,5,7,0,0,0,7,0,0,0,7,0,0,0,0,7,14,0,6,6,7,8,9,10,11,12,13,14,15,1,1,1]
theorem gaW_id : @gaW = @gaW := rfl
lay_z Mine.gaW
end Mine
name_z gaWY for Mine.gaW by Mine.gaW_id
namespace Mine
theorem gaW_r (P : Params) (b : Bool) (m : Mc) (p : WhP) (y : Str) (ty : Tok) (dv : List Value) (ed : Nat) (rv : List Value) (er : Nat) (vs : List Value) (ep : Nat) (tp : Tok) (y' : Str) (vr : List Value) (ft : Nat → Tok) (ap : List Value → Value → List Value) (n t : Nat) (σ : Nat → Nat) : Go1 (whC (ktop P) p.fr) (List.range 16) (whE (ktop P) m p y' (ft (tlS 4 σ 0)) (ap dv (.str y ty)) (tlS 1 σ 0) (ap rv (.str y ty)) (tlS 2 σ 0) vr (tlS 4 σ 2) (tlS 4 σ 1)) [PtIs vs y' vr ft, ItemV p.pv (.int p.k p.tc) (.ref m.lx), rv.length ≤ 100000, dv.length ≤ 100000, StrNe y ⟨#[]⟩] (gaW P b (ktop P) theProg m p y ty dv ed rv er vs ep tp y' vr ft ap n t σ) := by
  rw [PySem.W.ZFast.gaWY_eq]
  cases b <;> refine ⟨⟨?_, ?_, ?_, ?_, ?_, ?_⟩, ?_, ?_, ?_, ?_⟩ <;> kernel_rfl
@[irreducible] noncomputable def gaX (P : Params) (b : Bool) (K : KT) (pg : Program) (m : Mc) (p : WhP) (ty : Tok) (dv : List Value) (ed : Nat) (rv : List Value) (er : Nat) (vs : List Value) (ep : Nat) (tp : Tok) (n t : Nat) (σ : Nat → Nat) : Ou :=
  goC (mkW P b K pg []) 4000 16 (whC K p.fr)
  (whE K m p ⟨#[]⟩ ty dv ed rv er vs ep tp) n t σ
  [1,0,0]
theorem gaX_id : @gaX = @gaX := rfl
lay_z Mine.gaX
end Mine
name_z gaXY for Mine.gaX by Mine.gaX_id
namespace Mine
theorem gaX_r (P : Params) (b : Bool) (m : Mc) (p : WhP) (ty : Tok) (dv : List Value) (ed : Nat) (rv : List Value) (er : Nat) (vs : List Value) (ep : Nat) (tp : Tok) (n t : Nat) (σ : Nat → Nat) : Go0 (.ok .next) (List.range 16) (whE (ktop P) m p ⟨#[]⟩ ty dv ed rv er vs ep tp) [] (gaX P b (ktop P) theProg m p ty dv ed rv er vs ep tp n t σ) := by
  rw [PySem.W.ZFast.gaXY_eq]
  cases b <;> refine ⟨⟨?_, ?_, ?_, ?_, ?_, ?_⟩, ?_, ?_, ?_⟩ <;> kernel_rfl
@[irreducible] noncomputable def gq2 (P : Params) (b : Bool) (K : KT) (pg : Program) (rc : Nat) (kk : Nat → Nat) (mc : Nat → Mc) (p : GaP) (cat : List Value → List Value → List Value) (n t : Nat) (σ : Nat → Nat) : Ou :=
  goC (mkW P b K pg [sPopT, sItem (.ref (mc 0).lx), sWh K ((mc 0).R rc kk) cat, sItem (.ref (mc 1).lx), sWh K ((mc 1).R rc kk) cat]) 4000 18 (.call (.ref 134) ⟨[.ref p.lx, .ref p.pls, .ref p.oa], []⟩)
  (gaE K rc kk mc 2 p [] p.ed (fun i => lst (p.L i) (p.eps i)) p.tps) n t σ
  [0,0,25,25,25,25,25,25,0,0,25,25,25,5,5,0,5,0,27,0,27,0,27,0,27,27,5,27,27,25,25,25,25,4,4,4,0,4,3,3,7,0,0,0,7,0,0,0,7,0,0,0,0,7,13,0,2,6,12,14,25,25,4,24,0,1,2,25,3,6,7,8,9,10,11,5,12,13,14,0,27,0,27,0,27,27,5,27,27,25,25,25,25,4,4,4,0,4,5,3,16,0,0,0,16,0,0,0,16,0,0,0,0,16,22,0,2,15,21,23,25,25,6,24,0,1,2,25,3,15,16,17,18,19,20,5,21,22,23,0,27,0,27,0,27,27,5,27,27,29,0,25]
theorem gq2_id : @gq2 = @gq2 := rfl
lay_z Mine.gq2
end Mine
name_z gq2Y for Mine.gq2 by Mine.gq2_id
namespace Mine
theorem gq2_r (P : Params) (b : Bool) (rc : Nat) (kk : Nat → Nat) (mc : Nat → Mc) (p : GaP) (cat : List Value → List Value → List Value) (n t : Nat) (σ : Nat → Nat) : Go0 (.ok (.ret (.ref (n + 1)))) (List.range 24 ++ [25]) (gaOut (ktop P) rc kk mc 2 cat p (gaS 2 n σ)) (gaCs mc rc kk cat p 2) (gq2 P b (ktop P) theProg rc kk mc p cat n t σ) := by
  rw [PySem.W.ZFast.gq2Y_eq]
  cases b <;> refine ⟨⟨?_, ?_, ?_, ?_, ?_, ?_⟩, ?_, ?_, ?_⟩ <;> kernel_rfl
@[irreducible] noncomputable def gq3 (P : Params) (b : Bool) (K : KT) (pg : Program) (rc : Nat) (kk : Nat → Nat) (mc : Nat → Mc) (p : GaP) (cat : List Value → List Value → List Value) (n t : Nat) (σ : Nat → Nat) : Ou :=
  goC (mkW P b K pg [sPopT, sItem (.ref (mc 0).lx), sWh K ((mc 0).R rc kk) cat, sItem (.ref (mc 1).lx), sWh K ((mc 1).R rc kk) cat, sItem (.ref (mc 2).lx), sWh K ((mc 2).R rc kk) cat]) 4000 18 (.call (.ref 134) ⟨[.ref p.lx, .ref p.pls, .ref p.oa], []⟩)
  (gaE K rc kk mc 3 p [] p.ed (fun i => lst (p.L i) (p.eps i)) p.tps) n t σ
  [0,0,34,34,34,34,34,34,0,0,34,34,34,5,5,0,5,0,36,0,36,0,36,0,36,36,5,36,36,34,34,34,34,4,4,4,0,4,3,3,7,0,0,0,7,0,0,0,7,0,0,0,0,7,13,0,2,6,12,14,34,34,4,33,0,1,2,34,3,6,7,8,9,10,11,5,12,13,14,0,36,0,36,0,36,36,5,36,36,34,34,34,34,4,4,4,0,4,5,3,16,0,0,0,16,0,0,0,16,0,0,0,0,16,22,0,2,15,21,23,34,34,6,33,0,1,2,34,3,15,16,17,18,19,20,5,21,22,23,0,36,0,36,0,36,36,5,36,36,34,34,34,34,4,4,4,0,4,7,3,25,0,0,0,25,0,0,0,25,0,0,0,0,25,31,0,2,24,30,32,34,34,8,33,0,1,2,34,3,24,25,26,27,28,29,5,30,31,32,0,36,0,36,0,36,36,5,36,36,38,0,34]
theorem gq3_id : @gq3 = @gq3 := rfl
lay_z Mine.gq3
end Mine
name_z gq3Y for Mine.gq3 by Mine.gq3_id
namespace Mine
theorem gq3_r (P : Params) (b : Bool) (rc : Nat) (kk : Nat → Nat) (mc : Nat → Mc) (p : GaP) (cat : List Value → List Value → List Value) (n t : Nat) (σ : Nat → Nat) : Go0 (.ok (.ret (.ref (n + 1)))) (List.range 33 ++ [34]) (gaOut (ktop P) rc kk mc 3 cat p (gaS 3 n σ)) (gaCs mc rc kk cat p 3) (gq3 P b (ktop P) theProg rc kk mc p cat n t σ) := by
  rw [PySem.W.ZFast.gq3Y_eq]
  cases b <;> refine ⟨⟨?_, ?_, ?_, ?_, ?_, ?_⟩, ?_, ?_, ?_⟩ <;> kernel_rfl
@[irreducible] noncomputable def gq4 (P : Params) (b : Bool) (K : KT) (pg : Program) (rc : Nat) (kk : Nat → Nat) (mc : Nat → Mc) (p : GaP) (cat : List Value → List Value → List Value) (n t : Nat) (σ : Nat → Nat) : Ou :=
  goC (mkW P b K pg [sPopT, sItem (.ref (mc 0).lx), sWh K ((mc 0).R rc kk) cat, sItem (.ref (mc 1).lx), sWh K ((mc 1).R rc kk) cat, sItem (.ref (mc 2).lx), sWh K ((mc 2).R rc kk) cat, sItem (.ref (mc 3).lx), sWh K ((mc 3).R rc kk) cat]) 4000 18 (.call (.ref 134) ⟨[.ref p.lx, .ref p.pls, .ref p.oa], []⟩)
  (gaE K rc kk mc 4 p [] p.ed (fun i => lst (p.L i) (p.eps i)) p.tps) n t σ
  [0,0,43,43,43,43,43,43,0,0,43,43,43,5,5,0,5,0,45,0,45,0,45,0,45,45,5,45,45,43,43,43,43,4,4,4,0,4,3,3,7,0,0,0,7,0,0,0,7,0,0,0,0,7,13,0,2,6,12,14,43,43,4,42,0,1,2,43,3,6,7,8,9,10,11,5,12,13,14,0,45,0,45,0,45,45,5,45,45,43,43,43,43,4,4,4,0,4,5,3,16,0,0,0,16,0,0,0,16,0,0,0,0,16,22,0,2,15,21,23,43,43,6,42,0,1,2,43,3,15,16,17,18,19,20,5,21,22,23,0,45,0,45,0,45,45,5,45,45,43,43,43,43,4,4,4,0,4,7,3,25,0,0,0,25,0,0,0,25,0,0,0,0,25,31,0,2,24,30,32,43,43,8,42,0,1,2,43,3,24,25,26,27,28,29,5,30,31,32,0,45,0,45,0,45,45,5,45,45,43,43,43,43,4,4,4,0,4,9,3,34,0,0,0,34,0,0,0,34,0,0,0,0,34,40,0,2,33,39,41,43,43,10,42,0,1,2,43,3,33,34,35,36,37,38,5,39,40,41,0,45,0,45,0,45,45,5,45,45,47,0,43]
theorem gq4_id : @gq4 = @gq4 := rfl
lay_z Mine.gq4
end Mine
name_z gq4Y for Mine.gq4 by Mine.gq4_id
namespace Mine
theorem gq4_r (P : Params) (b : Bool) (rc : Nat) (kk : Nat → Nat) (mc : Nat → Mc) (p : GaP) (cat : List Value → List Value → List Value) (n t : Nat) (σ : Nat → Nat) : Go0 (.ok (.ret (.ref (n + 1)))) (List.range 42 ++ [43]) (gaOut (ktop P) rc kk mc 4 cat p (gaS 4 n σ)) (gaCs mc rc kk cat p 4) (gq4 P b (ktop P) theProg rc kk mc p cat n t σ) := by
  rw [PySem.W.ZFast.gq4Y_eq]
  cases b <;> refine ⟨⟨?_, ?_, ?_, ?_, ?_, ?_⟩, ?_, ?_, ?_⟩ <;> kernel_rfl
section
variable {w : World} {m : Mc} {p : WhP}
noncomputable def whQ (w : World) (m : Mc) (p : WhP) (dv rv : List Value) (r : Result) (G : Sto) : Prop :=
  ∃ a b c d e, r = .ok .next ∧ G = whE (ktop w.params) m p ⟨#[]⟩ a dv b rv c [] d e
theorem wh_turn (hm : m.sheet = ⟨#[]⟩) {y : Str} {ty : Tok} {dv : List Value} {ed : Nat} {rv : List Value} {er : Nat} {vs : List Value} {ep : Nat} {tp : Tok} {y' : Str} {vr : List Value} {ft : Nat → Tok} {Q : Result → Sto → Prop}
    (h : PtIs vs y' vr ft) (hi : ItemV p.pv (.int p.k p.tc) (.ref m.lx)) (hr : rv.length ≤ 100000) (hd : dv.length ≤ 100000) (hy : y ≠ ⟨#[]⟩)
    (H : ∀ k a b c d, Ends w 16 (whC (ktop w.params) p.fr) (whE (ktop w.params) m p y' (ft k) (dv ++ [.str y ty]) a (rv ++ [.str y ty]) b vr c d) Q) :
    Ends w 16 (whC (ktop w.params) p.fr) (whE (ktop w.params) m p y ty dv ed rv er vs ep tp) Q :=
  Ends.turn (fun n t σ => gaW.eq_1 w.params (bOf w) (ktop w.params) theProg m p y ty dv ed rv er vs ep tp y' vr ft apI n t σ) rfl ⟨sV_ok opStrNe_good, cPush_ok.ok _ _, cApp_ok.ok _ _, cItem_ok.ok _ _, (cPt_ok hm).ok _ _, trivial⟩ (fun n t σ => gaW_r w.params (bOf w) m p y ty dv ed rv er vs ep tp y' vr ft apI n t σ) (by decide) (fun _ _ _ _ => ⟨h, hi, hr, hd, ⟨hy⟩, trivial⟩) fun n t σ _ => H _ _ _ _ _
theorem wh_loop (hm : m.sheet = ⟨#[]⟩) (hi : ItemV p.pv (.int p.k p.tc) (.ref m.lx)) {vs : List Value} {ss : List Str} (hv : StrsAre vs ss) :
    ∀ {y : Str} {ty : Tok} {dv : List Value} {ed : Nat} {rv : List Value} {er ep : Nat} {tp : Tok}, (∀ y ∈ ss, y ≠ ⟨#[]⟩) → y ≠ ⟨#[]⟩ → vs.length ≤ 15 → dv.length + vs.length ≤ 1000 → rv.length + vs.length ≤ 1000 →
      Ends w 16 (whC (ktop w.params) p.fr) (whE (ktop w.params) m p y ty dv ed rv er vs ep tp) (whQ w m p (dv ++ .str y ty :: vs) (rv ++ .str y ty :: vs)) := by
  induction hv with
  | nil =>
    intro y ty dv ed rv er ep tp hs hy h1 h2 h3
    refine wh_turn hm .fin hi (by simp at h3; omega) (by simp at h2; omega) hy fun k a b c d => ?_
    exact Ends.fin (fun n t σ => gaX.eq_1 w.params (bOf w) (ktop w.params) theProg m p k _ a _ b [] c d n t σ) rfl trivial (fun n t σ => gaX_r w.params (bOf w) m p k _ a _ b [] c d n t σ) (by decide) (fun _ _ _ _ => trivial) fun n t σ _ => ⟨_, _, _, _, _, rfl, rfl⟩
  | cons z u _ ih =>
    intro y ty dv ed rv er ep tp hs hy h1 h2 h3
    simp only [List.length_cons] at h1 h2 h3
    refine wh_turn hm (.pop (by omega)) hi (by omega) (by omega) hy fun k a b c d => ?_
    refine (ih (fun y hy => hs y (.tail _ hy)) (hs z (.head _)) (by omega) (by simp; omega) (by simp; omega)).mono fun r G q => ?_
    rw [List.append_assoc, List.append_assoc] at q
    exact q
noncomputable def catI (a b : List Value) : List Value := a ++ b
theorem cWh_ok (hm : m.sheet = ⟨#[]⟩) : (cWh (ktop w.params) m catI).Holds w where
  ad p σ := ⟨[], (List.append_nil _).symm⟩
  does q hc := by
    obtain ⟨hi, hy, ⟨ss, hv, hs⟩, h1, h2, h3⟩ := hc.1
    refine (wh_loop hm hi hv hs hy h1 h2 h3).mono fun r G x => ?_
    obtain ⟨a, b, c, d, e, rfl, rfl⟩ := x
    exact ⟨sg [a, b, c, d, e], sg_z (by simp), rfl, rfl⟩
theorem flS_ad {f g : Nat → Sto} (h : ∀ i, (f i).ad = (g i).ad) : ∀ k i, (flS f k i).ad = (flS g k i).ad
  | 0, _ => rfl
  | k + 1, i => by
    rw [flS, flS, Sto.ad_app, Sto.ad_app, h, flS_ad h k]
theorem gaS_z {W n : Nat} {σ : Nat → Nat} : ∀ i, 62 ≤ i → gaS W n σ i = 0 := sg_z (by simp)
theorem gaE_ad {K : KT} {rc : Nat} {kk : Nat → Nat} {mc : Nat → Mc} {W : Nat} {p : GaP} {dv dv' : List Value} {ed ed' : Nat} {op op' : Nat → Obj} {tp tp' : Nat → Tok} : Sto.ad (gaE K rc kk mc W p dv ed op tp) = Sto.ad (gaE K rc kk mc W p dv' ed' op' tp') :=
  congrArg (fun l => p.lx :: p.d :: p.pl :: p.pls :: p.oa :: rc :: l) (flS_ad (f := fun i => ((mc i).R rc kk).O9 K (p.x i) (lst [.int 0 (tp i)] 0) (op i)) (g := fun i => ((mc i).R rc kk).O9 K (p.x i) (lst [.int 0 (tp' i)] 0) (op' i)) (fun i => rfl) W 0)
theorem cGa_ok {rc : Nat} {kk : Nat → Nat} {mc : Nat → Mc} {W : Nat} (hW : W = 2 ∨ W = 3 ∨ W = 4) (hm : ∀ i, (mc i).sheet = ⟨#[]⟩) : (cGa (ktop w.params) rc kk mc W catI).Holds w where
  ad p σ := ⟨[σ 0], (Sto.ad_app _ _).trans (congrArg (· ++ [σ 0]) gaE_ad)⟩
  does p hc := by
    have hs : ∀ i, ((mc i).R rc kk).sheet = ⟨#[]⟩ := fun i => hm i
    rcases hW with rfl | rfl | rfl
    · exact Ends.fin (fun n t σ => gq2.eq_1 w.params (bOf w) (ktop w.params) theProg rc kk mc p catI n t σ) rfl ⟨cPopT_ok.ok _ _, cItem_ok.ok _ _, (cWh_ok (hs 0)).ok _ _, cItem_ok.ok _ _, (cWh_ok (hs 1)).ok _ _, trivial⟩ (fun n t σ => gq2_r w.params (bOf w) rc kk mc p catI n t σ) (by decide) (fun _ _ _ _ => hc) fun n t σ _ => ⟨gaS 2 n σ, gaS_z, rfl, rfl⟩
    · exact Ends.fin (fun n t σ => gq3.eq_1 w.params (bOf w) (ktop w.params) theProg rc kk mc p catI n t σ) rfl ⟨cPopT_ok.ok _ _, cItem_ok.ok _ _, (cWh_ok (hs 0)).ok _ _, cItem_ok.ok _ _, (cWh_ok (hs 1)).ok _ _, cItem_ok.ok _ _, (cWh_ok (hs 2)).ok _ _, trivial⟩ (fun n t σ => gq3_r w.params (bOf w) rc kk mc p catI n t σ) (by decide) (fun _ _ _ _ => hc) fun n t σ _ => ⟨gaS 3 n σ, gaS_z, rfl, rfl⟩
    · exact Ends.fin (fun n t σ => gq4.eq_1 w.params (bOf w) (ktop w.params) theProg rc kk mc p catI n t σ) rfl ⟨cPopT_ok.ok _ _, cItem_ok.ok _ _, (cWh_ok (hs 0)).ok _ _, cItem_ok.ok _ _, (cWh_ok (hs 1)).ok _ _, cItem_ok.ok _ _, (cWh_ok (hs 2)).ok _ _, cItem_ok.ok _ _, (cWh_ok (hs 3)).ok _ _, trivial⟩ (fun n t σ => gq4_r w.params (bOf w) rc kk mc p catI n t σ) (by decide) (fun _ _ _ _ => hc) fun n t σ _ => ⟨gaS 4 n σ, gaS_z, rfl, rfl⟩
end
end Mine
end
section
open PySem PySem.W PySem.W.X PyProof.Rows
namespace Mine
noncomputable def callArg : Expr → Nat → Expr
  | .Call _ as _ _, i => as.getD i (.Constant .none 0 ⟨0, 0, 0, 0⟩)
  | e, _ => e
noncomputable def fnG (K : KT) (f i : Nat) (q : Str) (it fr : Nat) : Code := .forLoop (tgtS (nthS (stmtsOf (fdK K f)) i)) (.ref it) (bodyS (nthS (stmtsOf (fdK K f)) i)) []
  { scope := (fdK K f).scope, locals := fr, globals := (fdK K f).globals, cells := [], qual := q, func := some f, code := .ref (f - 1), frame := some fr, builtins := 0 }
noncomputable def spC (K : KT) (it fr : Nat) : Code := fnG K 105 2 "_split_list.<locals>." it fr
noncomputable def t136 (c : Nat) : Obj := tableOf [rawInt 170, rawInt 30, .ref c]
noncomputable def code136 (k : Nat → Nat) : Obj := codeK "<lambda>" "_law_parted.<locals>.<lambda>" 170 1 19 k
noncomputable def oLa (K : KT) (ce c ct : Nat) : Obj := { cls := .type "function", data := .func (laD K 141 (callArg (valS (nthS (stmtsOf (fdK K 141)) 0)) 1) "_law_parted.<locals>.<lambda>" [("pile", ce)] (.ref c) (.ref ct)) }
noncomputable def frS4 (hs : Nat → Int) (ks : Nat → Tok) (v0 v1 v2 v3 : Value) : Obj := { cls := .type "frame", data := .dict #[entD hs ks 0 "s" v0, entD hs ks 1 "predicate" v1, entD hs ks 2 "yes" v2, entD hs ks 3 "no" v3] 4 }
noncomputable def frS5 (hs : Nat → Int) (ks : Nat → Tok) (v0 v1 v2 v3 v4 : Value) : Obj := { cls := .type "frame", data := .dict #[entD hs ks 0 "s" v0, entD hs ks 1 "predicate" v1, entD hs ks 2 "yes" v2, entD hs ks 3 "no" v3, entD hs ks 4 "x" v4] 5 }
noncomputable def hX (m : Nat) (hs : Nat → Int) (a : Int) (i : Nat) : Int := match Nat.blt i m with
  | true => hs i
  | false => a
noncomputable def kX (m : Nat) (ks : Nat → Tok) (a : Tok) (i : Nat) : Tok := match Nat.blt i m with
  | true => ks i
  | false => a
structure SpP where
  (fr it hd la ce c ct pl yes no : Nat) (hs : Nat → Int) (ks : Nat → Tok) (hv : List Value) (eh : Nat) (kc : Nat → Nat) (pv : List Value) (ep : Nat)
noncomputable def SpP.f4 (p : SpP) : Obj := frS4 p.hs p.ks (.ref p.hd) (.ref p.la) (.ref p.yes) (.ref p.no)
noncomputable def SpP.f5 (p : SpP) (hs : Nat → Int) (ks : Nat → Tok) (v : Value) : Obj := frS5 hs ks (.ref p.hd) (.ref p.la) (.ref p.yes) (.ref p.no) v
noncomputable def spE (K : KT) (p : SpP) (fo : Obj) (io : Obj) (ys : List Value) (ey : Nat) (ns : List Value) (en : Nat) : Sto :=
  [(p.fr, fo), (p.it, io), (p.hd, lst p.hv p.eh), (p.la, oLa K p.ce p.c p.ct), (p.ce, cellOf (.ref p.pl)), (p.c, code136 p.kc), (p.pl, lst p.pv p.ep), (p.yes, lst ys ey), (p.no, lst ns en)]
noncomputable def spDev : SpP := ⟨101, 102, 103, 104, 105, 106, 107, 108, 109, 110, fun _ => 0, fun i => 300 + i, [.str "a" 201, .str "b" 202], 3, fun i => 400 + i, [.str "a" 203], 4⟩
structure SpOk (hv pv : List Value) : Prop where
  hs : ∃ ss, StrsAre hv ss
  ps : ∃ ss, StrsAre pv ss
  ne : hv ≠ []
  le : hv.length ≤ 1000
structure SqP where
  (p : SpP) (ey en : Nat)
noncomputable def lastV (vs : List Value) : Value := vs.getD (vs.length - 1) .none
noncomputable def cSp (K : KT) (hf : Str → Int) (fi : Bool → List Value → List Value → List Value) : Con SqP where
  lv := 12
  co q := spC K q.p.it q.p.fr
  E q := spE K q.p q.p.f4 (liO q.p.hd 0) [] q.ey [] q.en
  cs q := [SpOk q.p.hv q.p.pv]
  res q σ := .ok .next
  E' q σ := spE K q.p (q.p.f5 (hX 4 q.p.hs (hf "x")) (kX 4 q.p.ks (σ 0)) (lastV q.p.hv)) (liEnd (q.p.hv.length : Int)) (fi true q.p.hv q.p.pv) (σ 1) (fi false q.p.hv q.p.pv) (σ 2)
noncomputable def cloOf (o : Obj) : Nat × Nat × Nat := match o.data with
  | .func fd => ((fd.closure.getD 0 default).2, refV fd.code, refV fd.closureTuple)
  | _ => default
noncomputable def codeKs (o : Obj) (i : Nat) : Nat := match i with
  | 0 => tokV (fldF o 0)
  | 1 => tokV (fldF o 1)
  | 2 => tokV (fldF o 2)
  | 3 => refV (fldF o 8)
  | 4 => refV (fldF o 11)
  | 5 => refV (fldF o 13)
  | 6 => refV (fldF o 14)
  | 7 => refV (fldF o 15)
  | 8 => (intV (fldF o 16)).toNat
  | _ => tokV (fldF o 18)
noncomputable def gSp (co : Code) (es : List En) : SqP := ⟨⟨frC co, itC co, refV (valOf (eO es 0) 0), refV (valOf (eO es 0) 1), (cloOf (eO es 3)).1, (cloOf (eO es 3)).2.1, (cloOf (eO es 3)).2.2, match (eO es 4).data with
    | .cell (some v) => refV v
    | _ => 0, refV (valOf (eO es 0) 2), refV (valOf (eO es 0) 3), hsOf (eO es 0), ksOf (eO es 0), getV (eO es 2), epO (eO es 2), codeKs (eO es 5), getV (eO es 6), epO (eO es 6)⟩, epO (eO es 7), epO (eO es 8)⟩
noncomputable abbrev sSp (K : KT) (hf : Str → Int) (fi : Bool → List Value → List Value → List Value) : SumFn := sumE (cSp K hf fi) 9 gSp
structure PaP where
  (hd : Nat) (hv : List Value) (eh pl : Nat) (pv : List Value) (ep c : Nat)
noncomputable def paOut (p : PaP) (c : Nat) (kc : Nat → Nat) (tu yes no : Nat) (fi : Bool → List Value → List Value → List Value) (ey en : Nat) : Sto :=
  [(136, t136 c), (p.hd, lst p.hv p.eh), (p.pl, lst p.pv p.ep), (c, code136 kc), (tu, tup [.ref yes, .ref no]), (yes, lst (fi true p.hv p.pv) ey), (no, lst (fi false p.hv p.pv) en)]
noncomputable def cPaE (fi : Bool → List Value → List Value → List Value) : Con PaP where
  lv := 14
  co p := .call (.ref 141) ⟨[.ref p.hd, .ref p.pl], []⟩
  E p := [(136, tableOf []), (p.hd, lst p.hv p.eh), (p.pl, lst p.pv p.ep)]
  cs p := [SpOk p.hv p.pv]
  res p σ := .ok (.ret (.ref (σ 1)))
  E' p σ := paOut p (σ 0) (fun i => σ (10 + i)) (σ 1) (σ 2) (σ 3) fi (σ 4) (σ 5)
noncomputable def gPa (co : Code) (es : List En) : PaP := ⟨refV ((argsOf co).getD 0 .none), getV (eO es 1), epO (eO es 1), refV ((argsOf co).getD 1 .none), getV (eO es 2), epO (eO es 2), refV (fldF (eO es 0) 2)⟩
noncomputable abbrev sPaE (fi : Bool → List Value → List Value → List Value) : SumFn := sumE (cPaE fi) 3 gPa
noncomputable def cPaF (fi : Bool → List Value → List Value → List Value) (kc : Nat → Nat) : Con PaP where
  lv := 14
  co p := .call (.ref 141) ⟨[.ref p.hd, .ref p.pl], []⟩
  E p := [(136, t136 p.c), (p.hd, lst p.hv p.eh), (p.pl, lst p.pv p.ep), (p.c, code136 kc)]
  cs p := [SpOk p.hv p.pv]
  res p σ := .ok (.ret (.ref (σ 1)))
  E' p σ := paOut p p.c kc (σ 1) (σ 2) (σ 3) fi (σ 4) (σ 5)
noncomputable abbrev sPaF (fi : Bool → List Value → List Value → List Value) (kc : Nat → Nat) : SumFn := sumE (cPaF fi kc) 4 gPa
@[irreducible] noncomputable def sp4t (P : Params) (b : Bool) (K : KT) (pg : Program) (p : SpP) (i : Int) (y : Str) (ty : Tok) (ys : List Value) (ey : Nat) (ns : List Value) (en : Nat) (ap : List Value → Value → List Value) (n t : Nat) (σ : Nat → Nat) : Ou :=
  goC (mkW P b K pg [sNext (.str y ty), sCont true, sApp ap]) 4000 12 (spC K p.it p.fr)
  (spE K p p.f4 (liO p.hd i) ys ey ns en) n t σ
  [2,0,2,2,1,2,1,1,1,1,4,0,4,6,10,10,0,0,10,5,7,7,0,7,3,6,1,8,8,8,8,1,0,8,4,7,1]
theorem sp4t_id : @sp4t = @sp4t := rfl
lay_z Mine.sp4t
end Mine
name_z sp4tY for Mine.sp4t by Mine.sp4t_id
namespace Mine
theorem sp4t_r (P : Params) (b : Bool) (p : SpP) (i : Int) (y : Str) (ty : Tok) (ys : List Value) (ey : Nat) (ns : List Value) (en : Nat) (ap : List Value → Value → List Value) (n t : Nat) (σ : Nat → Nat) : Go1 (spC (ktop P) p.it p.fr) (List.range 9) (spE (ktop P) p (p.f5 (hX 4 p.hs (PySem.W.ZFast.hKY P "x")) (kX 4 p.ks (cutS σ 1)) (.str y ty)) (liO p.hd (i + 1)) (ap ys (.str y ty)) (tlS 2 σ 0) ns en) [ys.length ≤ 100000, CT p.pv (.str y ty) true, ItemIs p.hv i (.str y ty)] (sp4t P b (ktop P) theProg p i y ty ys ey ns en ap n t σ) := by
  rw [PySem.W.ZFast.sp4tY_eq]
  cases b <;> refine ⟨⟨?_, ?_, ?_, ?_, ?_, ?_⟩, ?_, ?_, ?_, ?_⟩ <;> kernel_rfl
@[irreducible] noncomputable def sp4n (P : Params) (b : Bool) (K : KT) (pg : Program) (p : SpP) (i : Int) (y : Str) (ty : Tok) (ys : List Value) (ey : Nat) (ns : List Value) (en : Nat) (ap : List Value → Value → List Value) (n t : Nat) (σ : Nat → Nat) : Ou :=
  goC (mkW P b K pg [sNext (.str y ty), sCont false, sApp ap]) 4000 12 (spC K p.it p.fr)
  (spE K p p.f4 (liO p.hd i) ys ey ns en) n t σ
  [2,0,2,2,1,2,1,1,1,1,4,0,4,6,10,10,0,0,10,5,7,7,0,7,3,6,1,9,9,9,9,1,0,9,4,8,1]
theorem sp4n_id : @sp4n = @sp4n := rfl
lay_z Mine.sp4n
end Mine
name_z sp4nY for Mine.sp4n by Mine.sp4n_id
namespace Mine
theorem sp4n_r (P : Params) (b : Bool) (p : SpP) (i : Int) (y : Str) (ty : Tok) (ys : List Value) (ey : Nat) (ns : List Value) (en : Nat) (ap : List Value → Value → List Value) (n t : Nat) (σ : Nat → Nat) : Go1 (spC (ktop P) p.it p.fr) (List.range 9) (spE (ktop P) p (p.f5 (hX 4 p.hs (PySem.W.ZFast.hKY P "x")) (kX 4 p.ks (cutS σ 1)) (.str y ty)) (liO p.hd (i + 1)) ys ey (ap ns (.str y ty)) (tlS 2 σ 0)) [ns.length ≤ 100000, CT p.pv (.str y ty) false, ItemIs p.hv i (.str y ty)] (sp4n P b (ktop P) theProg p i y ty ys ey ns en ap n t σ) := by
  rw [PySem.W.ZFast.sp4nY_eq]
  cases b <;> refine ⟨⟨?_, ?_, ?_, ?_, ?_, ?_⟩, ?_, ?_, ?_, ?_⟩ <;> kernel_rfl
@[irreducible] noncomputable def sp5t (P : Params) (b : Bool) (K : KT) (pg : Program) (p : SpP) (hs : Nat → Int) (ks : Nat → Tok) (v : Value) (i : Int) (y : Str) (ty : Tok) (ys : List Value) (ey : Nat) (ns : List Value) (en : Nat) (ap : List Value → Value → List Value) (n t : Nat) (σ : Nat → Nat) : Ou :=
  goC (mkW P b K pg [sNext (.str y ty), sCont true, sApp ap]) 4000 12 (spC K p.it p.fr)
  (spE K p (p.f5 hs ks v) (liO p.hd i) ys ey ns en) n t σ
  [2,0,2,2,1,2,1,1,1,1,4,0,4,6,10,10,0,0,10,5,7,7,0,7,3,6,1,8,8,8,8,1,0,8,4,7,1]
theorem sp5t_id : @sp5t = @sp5t := rfl
lay_z Mine.sp5t
end Mine
name_z sp5tY for Mine.sp5t by Mine.sp5t_id
namespace Mine
theorem sp5t_r (P : Params) (b : Bool) (p : SpP) (hs : Nat → Int) (ks : Nat → Tok) (v : Value) (i : Int) (y : Str) (ty : Tok) (ys : List Value) (ey : Nat) (ns : List Value) (en : Nat) (ap : List Value → Value → List Value) (n t : Nat) (σ : Nat → Nat) : Go1 (spC (ktop P) p.it p.fr) (List.range 9) (spE (ktop P) p (p.f5 hs ks (.str y ty)) (liO p.hd (i + 1)) (ap ys (.str y ty)) (tlS 2 σ 0) ns en) [ys.length ≤ 100000, CT p.pv (.str y ty) true, ItemIs p.hv i (.str y ty)] (sp5t P b (ktop P) theProg p hs ks v i y ty ys ey ns en ap n t σ) := by
  rw [PySem.W.ZFast.sp5tY_eq]
  cases b <;> refine ⟨⟨?_, ?_, ?_, ?_, ?_, ?_⟩, ?_, ?_, ?_, ?_⟩ <;> kernel_rfl
@[irreducible] noncomputable def sp5n (P : Params) (b : Bool) (K : KT) (pg : Program) (p : SpP) (hs : Nat → Int) (ks : Nat → Tok) (v : Value) (i : Int) (y : Str) (ty : Tok) (ys : List Value) (ey : Nat) (ns : List Value) (en : Nat) (ap : List Value → Value → List Value) (n t : Nat) (σ : Nat → Nat) : Ou :=
  goC (mkW P b K pg [sNext (.str y ty), sCont false, sApp ap]) 4000 12 (spC K p.it p.fr)
  (spE K p (p.f5 hs ks v) (liO p.hd i) ys ey ns en) n t σ
  [2,0,2,2,1,2,1,1,1,1,4,0,4,6,10,10,0,0,10,5,7,7,0,7,3,6,1,9,9,9,9,1,0,9,4,8,1]
theorem sp5n_id : @sp5n = @sp5n := rfl
lay_z Mine.sp5n
end Mine
name_z sp5nY for Mine.sp5n by Mine.sp5n_id
namespace Mine
theorem sp5n_r (P : Params) (b : Bool) (p : SpP) (hs : Nat → Int) (ks : Nat → Tok) (v : Value) (i : Int) (y : Str) (ty : Tok) (ys : List Value) (ey : Nat) (ns : List Value) (en : Nat) (ap : List Value → Value → List Value) (n t : Nat) (σ : Nat → Nat) : Go1 (spC (ktop P) p.it p.fr) (List.range 9) (spE (ktop P) p (p.f5 hs ks (.str y ty)) (liO p.hd (i + 1)) ys ey (ap ns (.str y ty)) (tlS 2 σ 0)) [ns.length ≤ 100000, CT p.pv (.str y ty) false, ItemIs p.hv i (.str y ty)] (sp5n P b (ktop P) theProg p hs ks v i y ty ys ey ns en ap n t σ) := by
  rw [PySem.W.ZFast.sp5nY_eq]
  cases b <;> refine ⟨⟨?_, ?_, ?_, ?_, ?_, ?_⟩, ?_, ?_, ?_, ?_⟩ <;> kernel_rfl
@[irreducible] noncomputable def spe (P : Params) (b : Bool) (K : KT) (pg : Program) (p : SpP) (fo : Obj) (i : Int) (ys : List Value) (ey : Nat) (ns : List Value) (en : Nat) (n t : Nat) (σ : Nat → Nat) : Ou :=
  goC (mkW P b K pg [sNextEnd]) 4000 12 (spC K p.it p.fr)
  (spE K p fo (liO p.hd i) ys ey ns en) n t σ
  [2,0,2,2,1,2,11,0]
theorem spe_id : @spe = @spe := rfl
lay_z Mine.spe
end Mine
name_z speY for Mine.spe by Mine.spe_id
namespace Mine
theorem spe_r (P : Params) (b : Bool) (p : SpP) (fo : Obj) (i : Int) (ys : List Value) (ey : Nat) (ns : List Value) (en : Nat) (n t : Nat) (σ : Nat → Nat) : Go0 (.ok .next) (List.range 9) (spE (ktop P) p fo (liEnd i) ys ey ns en) [AtEnd p.hv i] (spe P b (ktop P) theProg p fo i ys ey ns en n t σ) := by
  rw [PySem.W.ZFast.speY_eq]
  cases b <;> refine ⟨⟨?_, ?_, ?_, ?_, ?_, ?_⟩, ?_, ?_, ?_⟩ <;> kernel_rfl
@[irreducible] noncomputable def paE (P : Params) (b : Bool) (K : KT) (pg : Program) (p : PaP) (fi : Bool → List Value → List Value → List Value) (hf : Str → Int) (n t : Nat) (σ : Nat → Nat) : Ou :=
  goC (mkW P b K pg [sSp K hf fi]) 4000 14 (.call (.ref 141) ⟨[.ref p.hd, .ref p.pl], []⟩)
  ((cPaE fi).E p) n t σ
  [0,0,4,4,5,5,0,0,0,4,0,1,1,1,1,0,0,0,0,0,0,0,14,14,14,14,0,0,14,14,14,14,14,2,2,0,2,0,17,2,13,16,1,12,4,11,2,14,15,14,14]
theorem paE_id : @paE = @paE := rfl
lay_z Mine.paE
end Mine
name_z paEY for Mine.paE by Mine.paE_id
namespace Mine
theorem paE_r (P : Params) (b : Bool) (p : PaP) (fi : Bool → List Value → List Value → List Value) (hf : Str → Int) (n t : Nat) (σ : Nat → Nat) : Go0 (.ok (.ret (.ref (cutS σ 0)))) [0, 1, 2, 11, 17, 14, 15] (paOut p (n + 8) (kL [t + 1, t + 2, t + 3, n + 3, n + 4, n + 5, n + 6, n + 7, t + 6, t + 7]) (cutS σ 0) (n + 11) (n + 12) fi (tlS 0 σ 1) (tlS 0 σ 2)) [SpOk p.hv p.pv] (paE P b (ktop P) theProg p fi hf n t σ) := by
  rw [PySem.W.ZFast.paEY_eq]
  cases b <;> refine ⟨⟨?_, ?_, ?_, ?_, ?_, ?_⟩, ?_, ?_, ?_⟩ <;> kernel_rfl
@[irreducible] noncomputable def paF (P : Params) (b : Bool) (K : KT) (pg : Program) (p : PaP) (fi : Bool → List Value → List Value → List Value) (kc : Nat → Nat) (hf : Str → Int) (n t : Nat) (σ : Nat → Nat) : Ou :=
  goC (mkW P b K pg [sSp K hf fi]) 4000 14 (.call (.ref 141) ⟨[.ref p.hd, .ref p.pl], []⟩)
  ((cPaF fi kc).E p) n t σ
  [0,0,5,5,6,6,0,0,0,5,0,1,0,0,0,0,0,0,0,9,9,9,9,0,0,9,9,9,9,9,2,2,0,2,0,12,2,8,11,1,7,5,3,2,9,10,9,9]
theorem paF_id : @paF = @paF := rfl
lay_z Mine.paF
end Mine
name_z paFY for Mine.paF by Mine.paF_id
namespace Mine
theorem paF_r (P : Params) (b : Bool) (p : PaP) (fi : Bool → List Value → List Value → List Value) (kc : Nat → Nat) (hf : Str → Int) (n t : Nat) (σ : Nat → Nat) : Go0 (.ok (.ret (.ref (cutS σ 0)))) [0, 1, 2, 3, 12, 9, 10] (paOut p p.c kc (cutS σ 0) (n + 5) (n + 6) fi (tlS 0 σ 1) (tlS 0 σ 2)) [SpOk p.hv p.pv] (paF P b (ktop P) theProg p fi kc hf n t σ) := by
  rw [PySem.W.ZFast.paFY_eq]
  cases b <;> refine ⟨⟨?_, ?_, ?_, ?_, ?_, ?_⟩, ?_, ?_, ?_⟩ <;> kernel_rfl
noncomputable def fiI (r : Bool) (hv pv : List Value) : List Value := hv.filter fun v => decide (sOf v ∈ pv.map sOf) == r
inductive FrSp (hf : Str → Int) (p : SpP) : Nat → Obj → Prop
  | f4 : FrSp hf p 0 p.f4
  | f5 (i t) : FrSp hf p (i + 1) (p.f5 (hX 4 p.hs (hf "x")) (kX 4 p.ks t) (p.hv.getD i .none))
theorem strsAre_map {vs : List Value} {ss : List Str} (h : StrsAre vs ss) : vs.map sOf = ss := by
  induction h with
  | nil => rfl
  | cons y t _ ih => rw [List.map_cons, ih]; rfl
section
variable {w : World} {p : SpP}
noncomputable def spQ (w : World) (p : SpP) (yt nt : List Value) (r : Result) (G : Sto) : Prop :=
  ∃ fo ey en, r = .ok .next ∧ FrSp (PySem.W.ZFast.hKY w.params) p p.hv.length fo ∧ G = spE (ktop w.params) p fo (liEnd (p.hv.length : Int)) yt ey nt en
theorem sp_turn {i : Nat} {fo : Obj} {ys ns : List Value} {ey en : Nat} {y : Str} {ty : Tok} {r : Bool} {Q : Result → Sto → Prop} (hf : FrSp (PySem.W.ZFast.hKY w.params) p i fo) (hi : i < p.hv.length) (hv : p.hv[i] = .str y ty) (hc : CT p.pv (.str y ty) r) (hl : p.hv.length ≤ 1000) (h1 : ys.length ≤ i) (h2 : ns.length ≤ i)
    (H : ∀ fo' ey' en', FrSp (PySem.W.ZFast.hKY w.params) p (i + 1) fo' → Ends w 12 (spC (ktop w.params) p.it p.fr) (spE (ktop w.params) p fo' (liO p.hd ((i + 1 : Nat) : Int)) (bif r then ys ++ [.str y ty] else ys) ey' (bif r then ns else ns ++ [.str y ty]) en') Q) :
    Ends w 12 (spC (ktop w.params) p.it p.fr) (spE (ktop w.params) p fo (liO p.hd (i : Int)) ys ey ns en) Q := by
  have hit : ItemIs p.hv (i : Int) (.str y ty) := ⟨by omega, by omega, by rw [← hv]; simp [hi]⟩
  have hg : p.hv.getD i .none = .str y ty := by rw [← hv]; simp [hi]
  have hy : ys.length ≤ 100000 := by omega
  have hn : ns.length ≤ 100000 := by omega
  have hs : ∀ r, SOk w [sNext (.str y ty), sCont r, sApp apI] := fun r => ⟨cNext_ok.ok _ _, cCont_ok.ok _ _, cApp_ok.ok _ _, trivial⟩
  have F : ∀ t, FrSp (PySem.W.ZFast.hKY w.params) p (i + 1) (p.f5 (hX 4 p.hs (PySem.W.ZFast.hKY w.params "x")) (kX 4 p.ks t) (.str y ty)) := fun t => by rw [← hg]; exact .f5 i t
  cases hf with
  | f4 =>
    cases r with
    | true => exact Ends.turn (fun n t σ => sp4t.eq_1 w.params (bOf w) (ktop w.params) theProg p _ y ty ys ey ns en apI n t σ) rfl (hs _) (fun n t σ => sp4t_r w.params (bOf w) p _ y ty ys ey ns en apI n t σ) (by decide) (fun _ _ _ _ => ⟨hy, hc, hit, trivial⟩) fun n t σ _ => H _ _ _ (F _)
    | false => exact Ends.turn (fun n t σ => sp4n.eq_1 w.params (bOf w) (ktop w.params) theProg p _ y ty ys ey ns en apI n t σ) rfl (hs _) (fun n t σ => sp4n_r w.params (bOf w) p _ y ty ys ey ns en apI n t σ) (by decide) (fun _ _ _ _ => ⟨hn, hc, hit, trivial⟩) fun n t σ _ => H _ _ _ (F _)
  | f5 i t =>
    cases r with
    | true => exact Ends.turn (fun n t' σ => sp5t.eq_1 w.params (bOf w) (ktop w.params) theProg p _ _ _ _ y ty ys ey ns en apI n t' σ) rfl (hs _) (fun n t' σ => sp5t_r w.params (bOf w) p _ _ _ _ y ty ys ey ns en apI n t' σ) (by decide) (fun _ _ _ _ => ⟨hy, hc, hit, trivial⟩) fun n t' σ _ => H _ _ _ (F _)
    | false => exact Ends.turn (fun n t' σ => sp5n.eq_1 w.params (bOf w) (ktop w.params) theProg p _ _ _ _ y ty ys ey ns en apI n t' σ) rfl (hs _) (fun n t' σ => sp5n_r w.params (bOf w) p _ _ _ _ y ty ys ey ns en apI n t' σ) (by decide) (fun _ _ _ _ => ⟨hn, hc, hit, trivial⟩) fun n t' σ _ => H _ _ _ (F _)
theorem sp_loop {ss pss : List Str} (hs : StrsAre p.hv ss) (ps : StrsAre p.pv pss) (hl : p.hv.length ≤ 1000) : ∀ (m i : Nat) (fo : Obj) (ys ns : List Value) (ey en : Nat), i + m = p.hv.length → FrSp (PySem.W.ZFast.hKY w.params) p i fo → ys.length ≤ i → ns.length ≤ i →
    Ends w 12 (spC (ktop w.params) p.it p.fr) (spE (ktop w.params) p fo (liO p.hd (i : Int)) ys ey ns en) (spQ w p (ys ++ fiI true (p.hv.drop i) p.pv) (ns ++ fiI false (p.hv.drop i) p.pv))
  | 0, i, fo, ys, ns, ey, en, hi, hf, h1, h2 => by
    have hi : i = p.hv.length := hi
    subst hi
    refine Ends.fin (fun n t σ => spe.eq_1 w.params (bOf w) (ktop w.params) theProg p fo _ ys ey ns en n t σ) rfl ⟨cNextEnd_ok.ok _ _, trivial⟩ (fun n t σ => spe_r w.params (bOf w) p fo _ ys ey ns en n t σ) (by decide) (fun _ _ _ _ => ⟨⟨by omega⟩, trivial⟩) fun n t σ _ => ?_
    rw [List.drop_length]
    unfold fiI
    rw [List.filter_nil, List.filter_nil, List.append_nil, List.append_nil]
    exact ⟨_, _, _, rfl, hf, rfl⟩
  | m + 1, i, fo, ys, ns, ey, en, hi, hf, h1, h2 => by
    have hlt : i < p.hv.length := by omega
    obtain ⟨y, ty, hv, -⟩ := strsAre_get hs i p.hv[i] (List.getElem?_eq_getElem hlt)
    have hm : p.pv.map sOf = pss := strsAre_map ps
    refine sp_turn (r := decide (y ∈ pss)) hf hlt hv ⟨pss, y, ty, ps, rfl, rfl⟩ hl h1 h2 fun fo' ey' en' hf' => (sp_loop hs ps hl m (i + 1) fo' _ _ ey' en' (by omega) hf' ?_ ?_).mono fun r G q => ?_
    · cases decide (y ∈ pss) <;> simp <;> omega
    · cases decide (y ∈ pss) <;> simp <;> omega
    · have e : ∀ r, fiI r (p.hv.drop i) p.pv = (bif decide (y ∈ pss) == r then [.str y ty] else []) ++ fiI r (p.hv.drop (i + 1)) p.pv := fun r => by
        unfold fiI
        rw [List.drop_eq_getElem_cons hlt, List.filter_cons, hv, hm]
        show (if (decide (y ∈ pss) == r) = true then _ else _) = _
        cases (decide (y ∈ pss) == r) <;> rfl
      rw [e, e]
      cases z : decide (y ∈ pss) <;> rw [z] at q <;> simpa using q
theorem cSp_ok : (cSp (ktop w.params) (PySem.W.ZFast.hKY w.params) fiI).Holds w where
  ad q σ := ⟨[], rfl⟩
  does q hc := by
    obtain ⟨⟨ss, hs⟩, ⟨pss, ps⟩, ne, le⟩ := hc.1
    refine (sp_loop hs ps le q.p.hv.length 0 _ [] [] q.ey q.en (Nat.zero_add _) .f4 (Nat.le_refl _) (Nat.le_refl _)).mono fun r G x => ?_
    obtain ⟨fo, ey, en, rfl, hf, rfl⟩ := x
    obtain ⟨k, hk⟩ : ∃ k, q.p.hv.length = k + 1 := Nat.exists_eq_succ_of_ne_zero fun z => ne (List.length_eq_zero_iff.mp z)
    have : ∃ t, fo = q.p.f5 (hX 4 q.p.hs (PySem.W.ZFast.hKY w.params "x")) (kX 4 q.p.ks t) (lastV q.p.hv) := by
      unfold lastV
      rw [hk] at hf ⊢
      cases hf with
      | f5 i t => exact ⟨t, rfl⟩
    obtain ⟨t, rfl⟩ := this
    exact ⟨sg [t, ey, en], sg_z (by simp), rfl, rfl⟩
theorem cPaE_ok : (cPaE fiI).Holds w where
  ad p σ := ⟨[σ 0, σ 1, σ 2, σ 3], rfl⟩
  does p hc := Ends.fin (fun n t σ => paE.eq_1 w.params (bOf w) (ktop w.params) theProg p fiI (PySem.W.ZFast.hKY w.params) n t σ) rfl ⟨cSp_ok.ok _ _, trivial⟩ (fun n t σ => paE_r w.params (bOf w) p fiI (PySem.W.ZFast.hKY w.params) n t σ) (by decide) (fun _ _ _ _ => hc) fun n t σ _ => ⟨sg [n + 8, cutS σ 0, n + 11, n + 12, tlS 0 σ 1, tlS 0 σ 2, 0, 0, 0, 0, t + 1, t + 2, t + 3, n + 3, n + 4, n + 5, n + 6, n + 7, t + 6, t + 7], sg_z (by simp), rfl, rfl⟩
theorem cPaF_ok {kc : Nat → Nat} : (cPaF fiI kc).Holds w where
  ad p σ := ⟨[σ 1, σ 2, σ 3], rfl⟩
  does p hc := Ends.fin (fun n t σ => paF.eq_1 w.params (bOf w) (ktop w.params) theProg p fiI kc (PySem.W.ZFast.hKY w.params) n t σ) rfl ⟨cSp_ok.ok _ _, trivial⟩ (fun n t σ => paF_r w.params (bOf w) p fiI kc (PySem.W.ZFast.hKY w.params) n t σ) (by decide) (fun _ _ _ _ => hc) fun n t σ _ => ⟨sg [0, cutS σ 0, n + 5, n + 6, tlS 0 σ 1, tlS 0 σ 2], sg_z (by simp), rfl, rfl⟩
end
end Mine
end
section
open PySem PySem.W PySem.W.X PyProof.Rows
namespace Mine
section
variable (bl : Int → Int) (xr : Int → Int → Int) (b x : Int)
noncomputable def dT : Int := x * 2 ^ (bl b).toNat
noncomputable def dU : Int := x * 2 ^ ((1 : Int) * bl b).toNat
noncomputable def dS : Int := x / 2 ^ ((1 : Int) * bl b).toNat
noncomputable def d1 : Int := dT bl b 0 + x
noncomputable def d2 : Int := dT bl b (d1 bl b (dS bl b x) % b) + xr x (dU bl b (dS bl b x))
noncomputable def e2 : Int := dU bl b (d1 bl b (dS bl b x) / b) + d2 bl xr b x / b
noncomputable def d3 : Int := dT bl b (d2 bl xr b (dS bl b x) % b) + xr x (dU bl b (dS bl b x))
noncomputable def e3 : Int := dU bl b (e2 bl xr b (dS bl b x)) + d3 bl xr b x / b
noncomputable def cS (h : Int) : Prop := 0 ≤ h ∧ h < 2 ^ 64 ∧ 0 ≤ (1 : Int) * bl b ∧ (1 : Int) * bl b < 64
noncomputable def cR (h : Int) : Prop := 0 ≤ h ∧ 0 ≤ (1 : Int) * bl b
noncomputable def cD (h y : Int) (l : List Prop) : List Prop := DivOk b :: ((bl y - bl b ≤ (4000 : Int)) = (true = true)) :: (0 ≤ h ∧ h < 2 ^ 64 ∧ 0 ≤ bl b ∧ bl b < 64) :: l
noncomputable def cB (k : Int) (z : Bool) : List Prop := [((x ≠ 0) = (z = true)), (0 < bl b ∧ bl b < 1024 ∧ (bl x + bl b - (1 : Int)) / bl b = k), ((x < (0 : Int)) = (false = true)), ((b < (0 : Int)) = (false = true)), ((b = (0 : Int)) = (false = true))]
noncomputable def dQ : Nat → Int
  | 0 => 0
  | 1 => d1 bl b x / b
  | 2 => e2 bl xr b x
  | _ => e3 bl xr b x
noncomputable def dR : Nat → Int
  | 0 => 0
  | 1 => d1 bl b x % b
  | 2 => d2 bl xr b x % b
  | _ => d3 bl xr b x % b
noncomputable def dC : Nat → List Prop
  | 0 => cB bl b x 0 false
  | 1 => cD bl b 0 (d1 bl b x) (cB bl b x 1 true)
  | 2 => cS bl b (d1 bl b (dS bl b x) / b) :: cD bl b (d1 bl b (dS bl b x) % b) (d2 bl xr b x) (cD bl b 0 (d1 bl b (dS bl b x)) (cS bl b (dS bl b x) :: cR bl b x :: cB bl b x 2 true))
  | _ => cS bl b (e2 bl xr b (dS bl b x)) :: cS bl b (d1 bl b (dS bl b (dS bl b x)) / b) :: cD bl b (d2 bl xr b (dS bl b x) % b) (d3 bl xr b x) (cD bl b (d1 bl b (dS bl b (dS bl b x)) % b) (d2 bl xr b (dS bl b x)) (cD bl b 0 (d1 bl b (dS bl b (dS bl b x))) (cS bl b (dS bl b (dS bl b x)) :: cR bl b (dS bl b x) :: cS bl b (dS bl b x) :: cR bl b x :: cB bl b x 3 true)))
end
noncomputable def dN (a b : Int) : List Prop := [((a < (0 : Int)) = (true = true)), ((b < (0 : Int)) = (false = true)), ((b = (0 : Int)) = (false = true))]
noncomputable def t30 (c : Nat) : Obj := tableOf [rawInt 32, rawInt 4, .ref c]
noncomputable def t37 (c : Nat) : Obj := tableOf [rawInt 47, rawInt 4, .ref c]
noncomputable def code30 (k : Nat → Nat) : Obj := codeK "inner" "_int2digits.<locals>.inner" 32 3 19 k
noncomputable def code37 (k : Nat → Nat) : Obj := codeK "inner" "_digits2int.<locals>.inner" 47 2 19 k
noncomputable def dvE (q r : Int) (p c30 c37 : Nat) (k30 k37 : Nat → Nat) (t1 t2 : Tok) : Sto := [(30, t30 c30), (37, t37 c37), (p, tup [.int q t1, .int r t2]), (c30, code30 k30), (c37, code37 k37)]
noncomputable def dvF (q r : Int) (p c30 c37 : Nat) (k30 k37 : Nat → Nat) (t1 t2 : Tok) : Sto := [(30, t30 c30), (37, t37 c37), (c30, code30 k30), (c37, code37 k37), (p, tup [.int q t1, .int r t2])]
@[irreducible] noncomputable def dmE (P : Params) (b : Bool) (K : KT) (pg : Program) (k : Int) (z : Bool) (bl : Int → Int) (xr : Int → Int → Int) (a bb : Int) (ta tb : Tok) (orc : List Nat) (n t : Nat) (σ : Nat → Nat) : Ou :=
  goC (mkW P b K pg [sV (opBits bl), sV (opDivL k), sV (opBoolL z), sV (opEqL false), sV (opLtL false), sV (opLtL true), sV (opLeL true), sDivmod, sV opShrB, sV opShr, sV opShl, sV (opXor xr), sV opMul]) 8000 14 (.call (.ref 56) ⟨[.int a ta, .int bb tb], []⟩)
  [(30, tableOf []), (37, tableOf [])] n t σ
  orc
theorem dmE_id : @dmE = @dmE := rfl
lay_z Mine.dmE
end Mine
name_z dmEY for Mine.dmE by Mine.dmE_id
namespace Mine
@[irreducible] noncomputable def dmF (P : Params) (b : Bool) (K : KT) (pg : Program) (c30 c37 : Nat) (k30 k37 : Nat → Nat) (k : Int) (z : Bool) (bl : Int → Int) (xr : Int → Int → Int) (a bb : Int) (ta tb : Tok) (orc : List Nat) (n t : Nat) (σ : Nat → Nat) : Ou :=
  goC (mkW P b K pg [sV (opBits bl), sV (opDivL k), sV (opBoolL z), sV (opEqL false), sV (opLtL false), sV (opLtL true), sV (opLeL true), sDivmod, sV opShrB, sV opShr, sV opShl, sV (opXor xr), sV opMul]) 8000 14 (.call (.ref 56) ⟨[.int a ta, .int bb tb], []⟩)
  [(30, t30 c30), (37, t37 c37), (c30, code30 k30), (c37, code37 k37)] n t σ
  orc
theorem dmF_id : @dmF = @dmF := rfl
lay_z Mine.dmF
end Mine
name_z dmFY for Mine.dmF by Mine.dmF_id
namespace Mine
theorem dE0_r (P : Params) (b : Bool) (bl : Int → Int) (xr : Int → Int → Int) (a bb : Int) (ta tb : Tok) (n t : Nat) (σ : Nat → Nat) : Go0 (.ok (.ret (.ref (cutS (shN 6 σ) 0 + 16)))) [0, 1, 34, 16, 32] (dvE (dQ bl xr bb a 0) (dR bl xr bb a 0) (cutS (shN 6 σ) 0 + 16) (cutS (shN 5 σ) 0 + 7) (cutS (shN 6 σ) 0 + 14) (kL [cutS (shN 5 σ) 1 + 0, cutS (shN 5 σ) 1 + 1, cutS (shN 5 σ) 1 + 2, cutS (shN 5 σ) 0 + 2, cutS (shN 5 σ) 0 + 3, cutS (shN 5 σ) 0 + 4, cutS (shN 5 σ) 0 + 5, cutS (shN 5 σ) 0 + 6, cutS (shN 5 σ) 1 + 13, cutS (shN 5 σ) 1 + 14]) (kL [cutS (shN 6 σ) 1 + 4, cutS (shN 6 σ) 1 + 5, cutS (shN 6 σ) 1 + 6, cutS (shN 6 σ) 0 + 9, cutS (shN 6 σ) 0 + 10, cutS (shN 6 σ) 0 + 11, cutS (shN 6 σ) 0 + 12, cutS (shN 6 σ) 0 + 13, cutS (shN 6 σ) 1 + 14, cutS (shN 6 σ) 1 + 15]) (cutS (shN 6 σ) 1 + 18) (cutS (shN 6 σ) 1 + 1)) (dC bl xr bb a 0) (dmE P b (ktop P) theProg 0 false bl xr a bb ta tb [0,0,3,3,3,3,0,0,3,0,5,3,0,6,3,0,6,0,3,3,0,0,0,0,4,4,4,4,0,0,4,0,2,4,4,0,4,4,0,0,0,0,5,5,6,6,0,0,5,0,2,6,0,0,0,0,6,0,3,9,0,0,9,9,0,9,0,9,7,7,0,1,1,1,1,0,0,0,8,8,5,0,4,7,4,4,4,4,4,4,0,0,4,0,0,0,0,10,0,10,0,10,20,20,20,0,20,0,20,0,20,0,20,0,20,22,0,4,19,19,19,19,0,19,0,19,19,19,0,4,4,0,0,0,0,24,24,25,25,0,0,0,2,2,2,2,0,0,0,26,26,24,19,19,0,19,0,19,0,19,4,4,4,4] n t σ) := by
  rw [PySem.W.ZFast.dmEY_eq]
  cases b <;> refine ⟨⟨?_, ?_, ?_, ?_, ?_, ?_⟩, ?_, ?_, ?_⟩ <;> kernel_rfl
theorem dF0_r (P : Params) (b : Bool) (c30 c37 : Nat) (k30 k37 : Nat → Nat) (bl : Int → Int) (xr : Int → Int → Int) (a bb : Int) (ta tb : Tok) (n t : Nat) (σ : Nat → Nat) : Go0 (.ok (.ret (.ref (cutS (shN 6 σ) 0 + 10)))) [0, 1, 2, 3, 24] (dvF (dQ bl xr bb a 0) (dR bl xr bb a 0) (cutS (shN 6 σ) 0 + 10) c30 c37 k30 k37 (cutS (shN 6 σ) 1 + 6) (cutS (shN 6 σ) 1 + 1)) (dC bl xr bb a 0) (dmF P b (ktop P) theProg c30 c37 k30 k37 0 false bl xr a bb ta tb [0,0,5,5,5,5,0,0,5,0,5,5,0,6,5,0,6,0,5,5,0,0,0,0,6,6,6,6,0,0,6,0,2,6,6,0,6,6,0,0,0,0,7,7,8,8,0,0,7,0,2,8,0,0,0,0,8,0,3,11,0,0,11,11,0,11,0,11,9,9,0,1,0,0,0,10,10,7,0,4,9,6,6,6,6,6,6,0,0,6,0,0,0,0,12,0,12,0,12,16,16,16,0,16,0,16,0,16,0,16,0,16,18,0,6,15,15,15,15,0,15,0,15,15,15,0,6,6,0,0,0,0,20,20,21,21,0,0,0,2,0,0,0,22,22,20,15,15,0,15,0,15,0,15,6,6,6,6] n t σ) := by
  rw [PySem.W.ZFast.dmFY_eq]
  cases b <;> refine ⟨⟨?_, ?_, ?_, ?_, ?_, ?_⟩, ?_, ?_, ?_⟩ <;> kernel_rfl
theorem dN0_r (P : Params) (b : Bool) (c30 c37 : Nat) (k30 k37 : Nat → Nat) (bl : Int → Int) (xr : Int → Int → Int) (a bb : Int) (ta tb : Tok) (n t : Nat) (σ : Nat → Nat) : Go0 (.ok (.ret (.ref (cutS (shN 9 σ) 0 + 14)))) [0, 1, 2, 3, 29] (dvF (PySem.Builtin.bitNot (dQ bl xr bb (PySem.Builtin.bitNot a) 0)) (bb + PySem.Builtin.bitNot (dR bl xr bb (PySem.Builtin.bitNot a) 0)) (cutS (shN 9 σ) 0 + 14) c30 c37 k30 k37 (cutS (shN 9 σ) 1 + 10) (cutS (shN 9 σ) 1 + 12)) (dC bl xr bb (PySem.Builtin.bitNot a) 0 ++ dN a bb) (dmF P b (ktop P) theProg c30 c37 k30 k37 0 false bl xr a bb ta tb [0,0,5,5,5,5,0,0,5,0,5,5,0,6,5,0,7,0,5,0,0,5,0,0,0,0,6,6,6,6,0,0,6,0,5,6,0,6,6,0,6,0,6,6,0,0,0,0,7,7,7,7,0,0,7,0,2,7,7,0,7,7,0,0,0,0,8,8,9,9,0,0,8,0,2,9,0,0,0,0,9,0,3,12,0,0,12,12,0,12,0,12,10,10,0,1,0,0,0,11,11,8,0,4,10,7,7,7,7,7,7,0,0,7,0,0,0,0,13,0,13,0,13,17,17,17,0,17,0,17,0,17,0,17,0,17,19,0,7,16,16,16,16,0,16,0,16,16,16,0,7,7,0,0,0,0,21,21,22,22,0,0,0,2,0,0,0,23,23,21,16,16,0,16,0,16,0,16,7,7,7,7,26,26,26,0,26,0,27,27,0,27,0,27,27,26,27,27,27,0,27,0,27,27,26,27,27,27,0,27,0,27,27,26,27,27,29,5,5,5,5,5,0,0,5,5,0,0,0,0] n t σ) := by
  rw [PySem.W.ZFast.dmFY_eq]
  cases b <;> refine ⟨⟨?_, ?_, ?_, ?_, ?_, ?_⟩, ?_, ?_, ?_⟩ <;> kernel_rfl
theorem dE1_r (P : Params) (b : Bool) (bl : Int → Int) (xr : Int → Int → Int) (a bb : Int) (ta tb : Tok) (n t : Nat) (σ : Nat → Nat) : Go0 (.ok (.ret (.ref (cutS (shN 10 σ) 0 + 18)))) [0, 1, 41, 16, 38] (dvE (dQ bl xr bb a 1) (dR bl xr bb a 1) (cutS (shN 10 σ) 0 + 18) (cutS (shN 5 σ) 0 + 7) (cutS (shN 10 σ) 0 + 15) (kL [cutS (shN 5 σ) 1 + 0, cutS (shN 5 σ) 1 + 1, cutS (shN 5 σ) 1 + 2, cutS (shN 5 σ) 0 + 2, cutS (shN 5 σ) 0 + 3, cutS (shN 5 σ) 0 + 4, cutS (shN 5 σ) 0 + 5, cutS (shN 5 σ) 0 + 6, cutS (shN 5 σ) 1 + 13, cutS (shN 5 σ) 1 + 14]) (kL [cutS (shN 10 σ) 1 + 2, cutS (shN 10 σ) 1 + 3, cutS (shN 10 σ) 1 + 4, cutS (shN 10 σ) 0 + 10, cutS (shN 10 σ) 0 + 11, cutS (shN 10 σ) 0 + 12, cutS (shN 10 σ) 0 + 13, cutS (shN 10 σ) 0 + 14, cutS (shN 10 σ) 1 + 12, cutS (shN 10 σ) 1 + 13]) (tlS 10 σ 1) (tlS 10 σ 2)) (dC bl xr bb a 1) (dmE P b (ktop P) theProg 1 true bl xr a bb ta tb [0,0,3,3,3,3,0,0,3,0,5,3,0,6,3,0,6,0,3,3,0,0,0,0,4,4,4,4,0,0,4,0,2,4,4,0,4,4,0,0,0,0,5,5,6,6,0,0,5,0,2,6,0,0,0,0,6,0,3,9,0,0,9,9,0,9,0,9,7,7,0,1,1,1,1,0,0,0,8,8,5,0,4,8,5,0,0,7,0,0,10,0,10,0,10,18,0,18,17,19,19,19,19,19,19,0,0,19,0,0,19,0,0,19,7,19,10,10,0,10,0,10,10,10,7,4,4,4,4,4,4,0,0,4,0,0,0,0,10,0,10,0,10,21,21,21,0,21,0,21,0,21,0,21,0,21,21,10,21,21,4,4,0,4,4,0,12,4,0,0,4,4,0,0,0,0,22,22,22,22,22,22,0,0,22,0,2,22,0,0,0,0,8,0,0,22,22,0,0,0,9,23,23,23,0,23,0,24,24,0,24,0,24,24,23,24,24,24,0,24,0,24,24,23,24,24,24,0,24,0,24,24,23,24,24,26,4,4,4,4,4,20,20,20,20,4,0,20,0,20,20,20,0,21,0,21,0,21,28,0,4,20,20,20,20,0,20,0,20,20,20,0,4,4,0,0,0,0,30,30,31,31,0,0,0,2,2,2,2,0,0,0,32,32,30,20,20,0,20,0,20,0,20,32,0,0,30,0,0,20,0,20,0,20,40,0,40,39,41,41,41,41,0,0,41,0,0,41,0,0,30,41,20,20,20,0,20,0,20,4,4,4,4] n t σ) := by
  rw [PySem.W.ZFast.dmEY_eq]
  cases b <;> refine ⟨⟨?_, ?_, ?_, ?_, ?_, ?_⟩, ?_, ?_, ?_⟩ <;> kernel_rfl
theorem dF1_r (P : Params) (b : Bool) (c30 c37 : Nat) (k30 k37 : Nat → Nat) (bl : Int → Int) (xr : Int → Int → Int) (a bb : Int) (ta tb : Tok) (n t : Nat) (σ : Nat → Nat) : Go0 (.ok (.ret (.ref (cutS (shN 10 σ) 0 + 12)))) [0, 1, 2, 3, 31] (dvF (dQ bl xr bb a 1) (dR bl xr bb a 1) (cutS (shN 10 σ) 0 + 12) c30 c37 k30 k37 (tlS 10 σ 1) (tlS 10 σ 2)) (dC bl xr bb a 1) (dmF P b (ktop P) theProg c30 c37 k30 k37 1 true bl xr a bb ta tb [0,0,5,5,5,5,0,0,5,0,5,5,0,6,5,0,6,0,5,5,0,0,0,0,6,6,6,6,0,0,6,0,2,6,6,0,6,6,0,0,0,0,7,7,8,8,0,0,7,0,2,8,0,0,0,0,8,0,3,11,0,0,11,11,0,11,0,11,9,9,0,1,0,0,0,10,10,7,0,4,10,7,0,0,9,0,0,12,0,12,0,12,14,0,14,3,15,15,15,15,15,15,0,0,15,0,0,15,0,0,15,9,15,12,12,0,12,0,12,12,12,9,6,6,6,6,6,6,0,0,6,0,0,0,0,12,0,12,0,12,17,17,17,0,17,0,17,0,17,0,17,0,17,17,12,17,17,6,6,0,6,6,0,12,6,0,0,6,6,0,0,0,0,18,18,18,18,18,18,0,0,18,0,2,18,0,0,0,0,8,0,0,18,18,0,0,0,9,19,19,19,0,19,0,20,20,0,20,0,20,20,19,20,20,20,0,20,0,20,20,19,20,20,20,0,20,0,20,20,19,20,20,22,6,6,6,6,6,16,16,16,16,6,0,16,0,16,16,16,0,17,0,17,0,17,24,0,6,16,16,16,16,0,16,0,16,16,16,0,6,6,0,0,0,0,26,26,27,27,0,0,0,2,0,0,0,28,28,26,16,16,0,16,0,16,0,16,28,0,0,26,0,0,16,0,16,0,16,30,0,30,4,31,31,31,31,0,0,31,0,0,31,0,0,26,31,16,16,16,0,16,0,16,6,6,6,6] n t σ) := by
  rw [PySem.W.ZFast.dmFY_eq]
  cases b <;> refine ⟨⟨?_, ?_, ?_, ?_, ?_, ?_⟩, ?_, ?_, ?_⟩ <;> kernel_rfl
theorem dN1_r (P : Params) (b : Bool) (c30 c37 : Nat) (k30 k37 : Nat → Nat) (bl : Int → Int) (xr : Int → Int → Int) (a bb : Int) (ta tb : Tok) (n t : Nat) (σ : Nat → Nat) : Go0 (.ok (.ret (.ref (cutS (shN 13 σ) 0 + 16)))) [0, 1, 2, 3, 36] (dvF (PySem.Builtin.bitNot (dQ bl xr bb (PySem.Builtin.bitNot a) 1)) (bb + PySem.Builtin.bitNot (dR bl xr bb (PySem.Builtin.bitNot a) 1)) (cutS (shN 13 σ) 0 + 16) c30 c37 k30 k37 (cutS (shN 13 σ) 1 + 14) (cutS (shN 13 σ) 1 + 16)) (dC bl xr bb (PySem.Builtin.bitNot a) 1 ++ dN a bb) (dmF P b (ktop P) theProg c30 c37 k30 k37 1 true bl xr a bb ta tb [0,0,5,5,5,5,0,0,5,0,5,5,0,6,5,0,7,0,5,0,0,5,0,0,0,0,6,6,6,6,0,0,6,0,5,6,0,6,6,0,6,0,6,6,0,0,0,0,7,7,7,7,0,0,7,0,2,7,7,0,7,7,0,0,0,0,8,8,9,9,0,0,8,0,2,9,0,0,0,0,9,0,3,12,0,0,12,12,0,12,0,12,10,10,0,1,0,0,0,11,11,8,0,4,11,8,0,0,10,0,0,13,0,13,0,13,15,0,15,3,16,16,16,16,16,16,0,0,16,0,0,16,0,0,16,10,16,13,13,0,13,0,13,13,13,10,7,7,7,7,7,7,0,0,7,0,0,0,0,13,0,13,0,13,18,18,18,0,18,0,18,0,18,0,18,0,18,18,13,18,18,7,7,0,7,7,0,12,7,0,0,7,7,0,0,0,0,19,19,19,19,19,19,0,0,19,0,2,19,0,0,0,0,8,0,0,19,19,0,0,0,9,20,20,20,0,20,0,21,21,0,21,0,21,21,20,21,21,21,0,21,0,21,21,20,21,21,21,0,21,0,21,21,20,21,21,23,7,7,7,7,7,17,17,17,17,7,0,17,0,17,17,17,0,18,0,18,0,18,25,0,7,17,17,17,17,0,17,0,17,17,17,0,7,7,0,0,0,0,27,27,28,28,0,0,0,2,0,0,0,29,29,27,17,17,0,17,0,17,0,17,29,0,0,27,0,0,17,0,17,0,17,31,0,31,4,32,32,32,32,0,0,32,0,0,32,0,0,27,32,17,17,17,0,17,0,17,7,7,7,7,33,33,33,0,33,0,34,34,0,34,0,34,34,33,34,34,34,0,34,0,34,34,33,34,34,34,0,34,0,34,34,33,34,34,36,5,5,5,5,5,0,0,5,5,0,0,0,0] n t σ) := by
  rw [PySem.W.ZFast.dmFY_eq]
  cases b <;> refine ⟨⟨?_, ?_, ?_, ?_, ?_, ?_⟩, ?_, ?_, ?_⟩ <;> kernel_rfl
theorem dE2_r (P : Params) (b : Bool) (bl : Int → Int) (xr : Int → Int → Int) (a bb : Int) (ta tb : Tok) (n t : Nat) (σ : Nat → Nat) : Go0 (.ok (.ret (.ref (cutS (shN 22 σ) 0 + 1)))) [0, 1, 50, 16, 45] (dvE (dQ bl xr bb a 2) (dR bl xr bb a 2) (cutS (shN 22 σ) 0 + 1) (cutS (shN 5 σ) 0 + 7) (cutS (shN 19 σ) 0 + 15) (kL [cutS (shN 5 σ) 1 + 0, cutS (shN 5 σ) 1 + 1, cutS (shN 5 σ) 1 + 2, cutS (shN 5 σ) 0 + 2, cutS (shN 5 σ) 0 + 3, cutS (shN 5 σ) 0 + 4, cutS (shN 5 σ) 0 + 5, cutS (shN 5 σ) 0 + 6, cutS (shN 5 σ) 1 + 13, cutS (shN 5 σ) 1 + 14]) (kL [cutS (shN 19 σ) 1 + 2, cutS (shN 19 σ) 1 + 3, cutS (shN 19 σ) 1 + 4, cutS (shN 19 σ) 0 + 10, cutS (shN 19 σ) 0 + 11, cutS (shN 19 σ) 0 + 12, cutS (shN 19 σ) 0 + 13, cutS (shN 19 σ) 0 + 14, cutS (shN 19 σ) 1 + 12, cutS (shN 19 σ) 1 + 13]) (cutS (shN 22 σ) 1 + 4) (tlS 19 σ 2)) (dC bl xr bb a 2) (dmE P b (ktop P) theProg 2 true bl xr a bb ta tb [0,0,3,3,3,3,0,0,3,0,5,3,0,6,3,0,6,0,3,3,0,0,0,0,4,4,4,4,0,0,4,0,2,4,4,0,4,4,0,0,0,0,5,5,6,6,0,0,5,0,2,6,0,0,0,0,6,0,3,9,0,0,9,9,0,9,0,9,7,7,0,1,1,1,1,0,0,0,8,8,5,0,4,8,5,0,0,7,0,0,10,0,10,0,10,18,0,18,17,19,19,19,19,19,19,0,0,19,0,0,19,0,0,19,19,0,0,0,10,19,19,19,19,0,0,6,0,14,19,19,19,19,0,11,19,19,19,19,19,0,12,0,13,19,19,8,19,19,19,18,0,18,17,20,20,20,20,20,20,0,0,20,0,0,20,0,0,20,7,20,10,10,0,10,0,10,10,10,8,19,19,19,18,0,18,17,21,21,21,21,21,21,0,0,21,0,0,21,0,0,21,7,21,10,10,0,10,0,10,10,10,7,4,4,4,4,4,4,0,0,4,0,0,0,0,10,0,10,0,10,23,23,23,0,23,0,23,0,23,0,23,0,23,23,10,23,23,4,4,0,4,4,0,12,4,0,0,4,4,0,0,0,0,24,24,24,24,24,24,0,0,24,0,2,24,0,0,0,0,8,0,0,24,24,0,0,0,9,25,25,25,0,25,0,26,26,0,26,0,26,26,25,26,26,26,0,26,0,26,26,25,26,26,26,0,26,0,26,26,25,26,26,28,4,4,4,4,4,22,22,22,22,4,0,22,0,22,22,22,0,23,0,23,0,23,23,10,23,23,4,4,0,4,4,0,12,4,0,0,4,4,0,0,0,0,29,29,29,29,29,29,0,0,29,0,2,29,0,0,0,0,8,0,0,29,29,0,0,0,9,30,30,30,0,30,0,31,31,0,31,0,31,31,30,31,31,31,0,31,0,31,31,30,31,31,31,0,31,0,31,31,30,31,31,33,4,4,4,4,4,22,22,22,22,4,0,22,0,22,22,22,0,23,0,23,0,23,35,0,4,22,22,22,22,0,22,0,22,22,22,0,4,4,0,0,0,0,37,37,38,38,0,0,0,2,2,2,2,0,0,0,39,39,37,22,22,0,22,0,22,0,22,39,0,0,37,0,0,22,0,22,0,22,47,0,47,46,48,48,48,48,0,0,48,0,0,48,0,0,48,48,0,0,0,10,48,48,48,48,0,0,38,0,14,48,48,39,48,48,47,0,47,46,49,49,49,49,0,0,49,0,0,49,0,0,37,49,22,22,22,0,22,0,22,48,0,12,39,48,48,47,0,47,46,50,50,50,50,0,0,50,0,0,50,0,0,37,50,22,22,22,0,22,0,22,0,0,4,4,4,4] n t σ) := by
  rw [PySem.W.ZFast.dmEY_eq]
  cases b <;> refine ⟨⟨?_, ?_, ?_, ?_, ?_, ?_⟩, ?_, ?_, ?_⟩ <;> kernel_rfl
theorem dF2_r (P : Params) (b : Bool) (c30 c37 : Nat) (k30 k37 : Nat → Nat) (bl : Int → Int) (xr : Int → Int → Int) (a bb : Int) (ta tb : Tok) (n t : Nat) (σ : Nat → Nat) : Go0 (.ok (.ret (.ref (cutS (shN 22 σ) 0 + 1)))) [0, 1, 2, 3, 40] (dvF (dQ bl xr bb a 2) (dR bl xr bb a 2) (cutS (shN 22 σ) 0 + 1) c30 c37 k30 k37 (cutS (shN 22 σ) 1 + 4) (tlS 19 σ 2)) (dC bl xr bb a 2) (dmF P b (ktop P) theProg c30 c37 k30 k37 2 true bl xr a bb ta tb [0,0,5,5,5,5,0,0,5,0,5,5,0,6,5,0,6,0,5,5,0,0,0,0,6,6,6,6,0,0,6,0,2,6,6,0,6,6,0,0,0,0,7,7,8,8,0,0,7,0,2,8,0,0,0,0,8,0,3,11,0,0,11,11,0,11,0,11,9,9,0,1,0,0,0,10,10,7,0,4,10,7,0,0,9,0,0,12,0,12,0,12,14,0,14,3,15,15,15,15,15,15,0,0,15,0,0,15,0,0,15,15,0,0,0,10,15,15,15,15,0,0,8,0,14,15,15,15,15,0,11,15,15,15,15,15,0,12,0,13,15,15,10,15,15,15,14,0,14,3,16,16,16,16,16,16,0,0,16,0,0,16,0,0,16,9,16,12,12,0,12,0,12,12,12,10,15,15,15,14,0,14,3,17,17,17,17,17,17,0,0,17,0,0,17,0,0,17,9,17,12,12,0,12,0,12,12,12,9,6,6,6,6,6,6,0,0,6,0,0,0,0,12,0,12,0,12,19,19,19,0,19,0,19,0,19,0,19,0,19,19,12,19,19,6,6,0,6,6,0,12,6,0,0,6,6,0,0,0,0,20,20,20,20,20,20,0,0,20,0,2,20,0,0,0,0,8,0,0,20,20,0,0,0,9,21,21,21,0,21,0,22,22,0,22,0,22,22,21,22,22,22,0,22,0,22,22,21,22,22,22,0,22,0,22,22,21,22,22,24,6,6,6,6,6,18,18,18,18,6,0,18,0,18,18,18,0,19,0,19,0,19,19,12,19,19,6,6,0,6,6,0,12,6,0,0,6,6,0,0,0,0,25,25,25,25,25,25,0,0,25,0,2,25,0,0,0,0,8,0,0,25,25,0,0,0,9,26,26,26,0,26,0,27,27,0,27,0,27,27,26,27,27,27,0,27,0,27,27,26,27,27,27,0,27,0,27,27,26,27,27,29,6,6,6,6,6,18,18,18,18,6,0,18,0,18,18,18,0,19,0,19,0,19,31,0,6,18,18,18,18,0,18,0,18,18,18,0,6,6,0,0,0,0,33,33,34,34,0,0,0,2,0,0,0,35,35,33,18,18,0,18,0,18,0,18,35,0,0,33,0,0,18,0,18,0,18,37,0,37,4,38,38,38,38,0,0,38,0,0,38,0,0,38,38,0,0,0,10,38,38,38,38,0,0,34,0,14,38,38,35,38,38,37,0,37,4,39,39,39,39,0,0,39,0,0,39,0,0,33,39,18,18,18,0,18,0,18,38,0,12,35,38,38,37,0,37,4,40,40,40,40,0,0,40,0,0,40,0,0,33,40,18,18,18,0,18,0,18,0,0,6,6,6,6] n t σ) := by
  rw [PySem.W.ZFast.dmFY_eq]
  cases b <;> refine ⟨⟨?_, ?_, ?_, ?_, ?_, ?_⟩, ?_, ?_, ?_⟩ <;> kernel_rfl
theorem dN2_r (P : Params) (b : Bool) (c30 c37 : Nat) (k30 k37 : Nat → Nat) (bl : Int → Int) (xr : Int → Int → Int) (a bb : Int) (ta tb : Tok) (n t : Nat) (σ : Nat → Nat) : Go0 (.ok (.ret (.ref (cutS (shN 25 σ) 0 + 5)))) [0, 1, 2, 3, 45] (dvF (PySem.Builtin.bitNot (dQ bl xr bb (PySem.Builtin.bitNot a) 2)) (bb + PySem.Builtin.bitNot (dR bl xr bb (PySem.Builtin.bitNot a) 2)) (cutS (shN 25 σ) 0 + 5) c30 c37 k30 k37 (cutS (shN 25 σ) 1 + 8) (cutS (shN 25 σ) 1 + 10)) (dC bl xr bb (PySem.Builtin.bitNot a) 2 ++ dN a bb) (dmF P b (ktop P) theProg c30 c37 k30 k37 2 true bl xr a bb ta tb [0,0,5,5,5,5,0,0,5,0,5,5,0,6,5,0,7,0,5,0,0,5,0,0,0,0,6,6,6,6,0,0,6,0,5,6,0,6,6,0,6,0,6,6,0,0,0,0,7,7,7,7,0,0,7,0,2,7,7,0,7,7,0,0,0,0,8,8,9,9,0,0,8,0,2,9,0,0,0,0,9,0,3,12,0,0,12,12,0,12,0,12,10,10,0,1,0,0,0,11,11,8,0,4,11,8,0,0,10,0,0,13,0,13,0,13,15,0,15,3,16,16,16,16,16,16,0,0,16,0,0,16,0,0,16,16,0,0,0,10,16,16,16,16,0,0,9,0,14,16,16,16,16,0,11,16,16,16,16,16,0,12,0,13,16,16,11,16,16,16,15,0,15,3,17,17,17,17,17,17,0,0,17,0,0,17,0,0,17,10,17,13,13,0,13,0,13,13,13,11,16,16,16,15,0,15,3,18,18,18,18,18,18,0,0,18,0,0,18,0,0,18,10,18,13,13,0,13,0,13,13,13,10,7,7,7,7,7,7,0,0,7,0,0,0,0,13,0,13,0,13,20,20,20,0,20,0,20,0,20,0,20,0,20,20,13,20,20,7,7,0,7,7,0,12,7,0,0,7,7,0,0,0,0,21,21,21,21,21,21,0,0,21,0,2,21,0,0,0,0,8,0,0,21,21,0,0,0,9,22,22,22,0,22,0,23,23,0,23,0,23,23,22,23,23,23,0,23,0,23,23,22,23,23,23,0,23,0,23,23,22,23,23,25,7,7,7,7,7,19,19,19,19,7,0,19,0,19,19,19,0,20,0,20,0,20,20,13,20,20,7,7,0,7,7,0,12,7,0,0,7,7,0,0,0,0,26,26,26,26,26,26,0,0,26,0,2,26,0,0,0,0,8,0,0,26,26,0,0,0,9,27,27,27,0,27,0,28,28,0,28,0,28,28,27,28,28,28,0,28,0,28,28,27,28,28,28,0,28,0,28,28,27,28,28,30,7,7,7,7,7,19,19,19,19,7,0,19,0,19,19,19,0,20,0,20,0,20,32,0,7,19,19,19,19,0,19,0,19,19,19,0,7,7,0,0,0,0,34,34,35,35,0,0,0,2,0,0,0,36,36,34,19,19,0,19,0,19,0,19,36,0,0,34,0,0,19,0,19,0,19,38,0,38,4,39,39,39,39,0,0,39,0,0,39,0,0,39,39,0,0,0,10,39,39,39,39,0,0,35,0,14,39,39,36,39,39,38,0,38,4,40,40,40,40,0,0,40,0,0,40,0,0,34,40,19,19,19,0,19,0,19,39,0,12,36,39,39,38,0,38,4,41,41,41,41,0,0,41,0,0,41,0,0,34,41,19,19,19,0,19,0,19,0,0,7,7,7,7,42,42,42,0,42,0,43,43,0,43,0,43,43,42,43,43,43,0,43,0,43,43,42,43,43,43,0,43,0,43,43,42,43,43,45,5,5,5,5,5,0,0,5,5,0,0,0,0] n t σ) := by
  rw [PySem.W.ZFast.dmFY_eq]
  cases b <;> refine ⟨⟨?_, ?_, ?_, ?_, ?_, ?_⟩, ?_, ?_, ?_⟩ <;> kernel_rfl
theorem dE3_r (P : Params) (b : Bool) (bl : Int → Int) (xr : Int → Int → Int) (a bb : Int) (ta tb : Tok) (n t : Nat) (σ : Nat → Nat) : Go0 (.ok (.ret (.ref (cutS (shN 34 σ) 0 + 1)))) [0, 1, 59, 16, 52] (dvE (dQ bl xr bb a 3) (dR bl xr bb a 3) (cutS (shN 34 σ) 0 + 1) (cutS (shN 5 σ) 0 + 7) (cutS (shN 28 σ) 0 + 15) (kL [cutS (shN 5 σ) 1 + 0, cutS (shN 5 σ) 1 + 1, cutS (shN 5 σ) 1 + 2, cutS (shN 5 σ) 0 + 2, cutS (shN 5 σ) 0 + 3, cutS (shN 5 σ) 0 + 4, cutS (shN 5 σ) 0 + 5, cutS (shN 5 σ) 0 + 6, cutS (shN 5 σ) 1 + 13, cutS (shN 5 σ) 1 + 14]) (kL [cutS (shN 28 σ) 1 + 2, cutS (shN 28 σ) 1 + 3, cutS (shN 28 σ) 1 + 4, cutS (shN 28 σ) 0 + 10, cutS (shN 28 σ) 0 + 11, cutS (shN 28 σ) 0 + 12, cutS (shN 28 σ) 0 + 13, cutS (shN 28 σ) 0 + 14, cutS (shN 28 σ) 1 + 12, cutS (shN 28 σ) 1 + 13]) (cutS (shN 34 σ) 1 + 4) (tlS 28 σ 2)) (dC bl xr bb a 3) (dmE P b (ktop P) theProg 3 true bl xr a bb ta tb [0,0,3,3,3,3,0,0,3,0,5,3,0,6,3,0,6,0,3,3,0,0,0,0,4,4,4,4,0,0,4,0,2,4,4,0,4,4,0,0,0,0,5,5,6,6,0,0,5,0,2,6,0,0,0,0,6,0,3,9,0,0,9,9,0,9,0,9,7,7,0,1,1,1,1,0,0,0,8,8,5,0,4,8,5,0,0,7,0,0,10,0,10,0,10,18,0,18,17,19,19,19,19,19,19,0,0,19,0,0,19,0,0,19,19,0,0,0,10,19,19,19,19,0,0,6,0,14,19,19,19,19,0,11,19,19,19,19,19,0,12,0,13,19,19,8,19,19,19,18,0,18,17,20,20,20,20,20,20,0,0,20,0,0,20,0,0,20,7,20,10,10,0,10,0,10,10,10,8,19,19,19,18,0,18,17,21,21,21,21,21,21,0,0,21,0,0,21,0,0,21,21,0,0,0,10,21,21,21,21,0,0,6,0,14,21,21,21,21,0,11,21,21,21,21,21,0,12,0,13,21,21,8,21,21,21,18,0,18,17,22,22,22,22,22,22,0,0,22,0,0,22,0,0,22,7,22,10,10,0,10,0,10,10,10,8,21,21,21,18,0,18,17,23,23,23,23,23,23,0,0,23,0,0,23,0,0,23,7,23,10,10,0,10,0,10,10,10,7,4,4,4,4,4,4,0,0,4,0,0,0,0,10,0,10,0,10,25,25,25,0,25,0,25,0,25,0,25,0,25,25,10,25,25,4,4,0,4,4,0,12,4,0,0,4,4,0,0,0,0,26,26,26,26,26,26,0,0,26,0,2,26,0,0,0,0,8,0,0,26,26,0,0,0,9,27,27,27,0,27,0,28,28,0,28,0,28,28,27,28,28,28,0,28,0,28,28,27,28,28,28,0,28,0,28,28,27,28,28,30,4,4,4,4,4,24,24,24,24,4,0,24,0,24,24,24,0,25,0,25,0,25,25,10,25,25,4,4,0,4,4,0,12,4,0,0,4,4,0,0,0,0,31,31,31,31,31,31,0,0,31,0,2,31,0,0,0,0,8,0,0,31,31,0,0,0,9,32,32,32,0,32,0,33,33,0,33,0,33,33,32,33,33,33,0,33,0,33,33,32,33,33,33,0,33,0,33,33,32,33,33,35,4,4,4,4,4,24,24,24,24,4,0,24,0,24,24,24,0,25,0,25,0,25,25,10,25,25,4,4,0,4,4,0,12,4,0,0,4,4,0,0,0,0,36,36,36,36,36,36,0,0,36,0,2,36,0,0,0,0,8,0,0,36,36,0,0,0,9,37,37,37,0,37,0,38,38,0,38,0,38,38,37,38,38,38,0,38,0,38,38,37,38,38,38,0,38,0,38,38,37,38,38,40,4,4,4,4,4,24,24,24,24,4,0,24,0,24,24,24,0,25,0,25,0,25,42,0,4,24,24,24,24,0,24,0,24,24,24,0,4,4,0,0,0,0,44,44,45,45,0,0,0,2,2,2,2,0,0,0,46,46,44,24,24,0,24,0,24,0,24,46,0,0,44,0,0,24,0,24,0,24,54,0,54,53,55,55,55,55,0,0,55,0,0,55,0,0,55,55,0,0,0,10,55,55,55,55,0,0,45,0,14,55,55,46,55,55,54,0,54,53,56,56,56,56,0,0,56,0,0,56,0,0,56,56,0,0,0,10,56,56,56,56,0,0,45,0,14,56,56,46,56,56,54,0,54,53,57,57,57,57,0,0,57,0,0,57,0,0,44,57,24,24,24,0,24,0,24,56,0,12,46,56,56,54,0,54,53,58,58,58,58,0,0,58,0,0,58,0,0,44,58,24,24,24,0,24,0,24,0,0,55,0,12,46,55,55,54,0,54,53,59,59,59,59,0,0,59,0,0,59,0,0,44,59,24,24,24,0,24,0,24,0,0,4,4,4,4] n t σ) := by
  rw [PySem.W.ZFast.dmEY_eq]
  cases b <;> refine ⟨⟨?_, ?_, ?_, ?_, ?_, ?_⟩, ?_, ?_, ?_⟩ <;> kernel_rfl
theorem dF3_r (P : Params) (b : Bool) (c30 c37 : Nat) (k30 k37 : Nat → Nat) (bl : Int → Int) (xr : Int → Int → Int) (a bb : Int) (ta tb : Tok) (n t : Nat) (σ : Nat → Nat) : Go0 (.ok (.ret (.ref (cutS (shN 34 σ) 0 + 1)))) [0, 1, 2, 3, 49] (dvF (dQ bl xr bb a 3) (dR bl xr bb a 3) (cutS (shN 34 σ) 0 + 1) c30 c37 k30 k37 (cutS (shN 34 σ) 1 + 4) (tlS 28 σ 2)) (dC bl xr bb a 3) (dmF P b (ktop P) theProg c30 c37 k30 k37 3 true bl xr a bb ta tb [0,0,5,5,5,5,0,0,5,0,5,5,0,6,5,0,6,0,5,5,0,0,0,0,6,6,6,6,0,0,6,0,2,6,6,0,6,6,0,0,0,0,7,7,8,8,0,0,7,0,2,8,0,0,0,0,8,0,3,11,0,0,11,11,0,11,0,11,9,9,0,1,0,0,0,10,10,7,0,4,10,7,0,0,9,0,0,12,0,12,0,12,14,0,14,3,15,15,15,15,15,15,0,0,15,0,0,15,0,0,15,15,0,0,0,10,15,15,15,15,0,0,8,0,14,15,15,15,15,0,11,15,15,15,15,15,0,12,0,13,15,15,10,15,15,15,14,0,14,3,16,16,16,16,16,16,0,0,16,0,0,16,0,0,16,9,16,12,12,0,12,0,12,12,12,10,15,15,15,14,0,14,3,17,17,17,17,17,17,0,0,17,0,0,17,0,0,17,17,0,0,0,10,17,17,17,17,0,0,8,0,14,17,17,17,17,0,11,17,17,17,17,17,0,12,0,13,17,17,10,17,17,17,14,0,14,3,18,18,18,18,18,18,0,0,18,0,0,18,0,0,18,9,18,12,12,0,12,0,12,12,12,10,17,17,17,14,0,14,3,19,19,19,19,19,19,0,0,19,0,0,19,0,0,19,9,19,12,12,0,12,0,12,12,12,9,6,6,6,6,6,6,0,0,6,0,0,0,0,12,0,12,0,12,21,21,21,0,21,0,21,0,21,0,21,0,21,21,12,21,21,6,6,0,6,6,0,12,6,0,0,6,6,0,0,0,0,22,22,22,22,22,22,0,0,22,0,2,22,0,0,0,0,8,0,0,22,22,0,0,0,9,23,23,23,0,23,0,24,24,0,24,0,24,24,23,24,24,24,0,24,0,24,24,23,24,24,24,0,24,0,24,24,23,24,24,26,6,6,6,6,6,20,20,20,20,6,0,20,0,20,20,20,0,21,0,21,0,21,21,12,21,21,6,6,0,6,6,0,12,6,0,0,6,6,0,0,0,0,27,27,27,27,27,27,0,0,27,0,2,27,0,0,0,0,8,0,0,27,27,0,0,0,9,28,28,28,0,28,0,29,29,0,29,0,29,29,28,29,29,29,0,29,0,29,29,28,29,29,29,0,29,0,29,29,28,29,29,31,6,6,6,6,6,20,20,20,20,6,0,20,0,20,20,20,0,21,0,21,0,21,21,12,21,21,6,6,0,6,6,0,12,6,0,0,6,6,0,0,0,0,32,32,32,32,32,32,0,0,32,0,2,32,0,0,0,0,8,0,0,32,32,0,0,0,9,33,33,33,0,33,0,34,34,0,34,0,34,34,33,34,34,34,0,34,0,34,34,33,34,34,34,0,34,0,34,34,33,34,34,36,6,6,6,6,6,20,20,20,20,6,0,20,0,20,20,20,0,21,0,21,0,21,38,0,6,20,20,20,20,0,20,0,20,20,20,0,6,6,0,0,0,0,40,40,41,41,0,0,0,2,0,0,0,42,42,40,20,20,0,20,0,20,0,20,42,0,0,40,0,0,20,0,20,0,20,44,0,44,4,45,45,45,45,0,0,45,0,0,45,0,0,45,45,0,0,0,10,45,45,45,45,0,0,41,0,14,45,45,42,45,45,44,0,44,4,46,46,46,46,0,0,46,0,0,46,0,0,46,46,0,0,0,10,46,46,46,46,0,0,41,0,14,46,46,42,46,46,44,0,44,4,47,47,47,47,0,0,47,0,0,47,0,0,40,47,20,20,20,0,20,0,20,46,0,12,42,46,46,44,0,44,4,48,48,48,48,0,0,48,0,0,48,0,0,40,48,20,20,20,0,20,0,20,0,0,45,0,12,42,45,45,44,0,44,4,49,49,49,49,0,0,49,0,0,49,0,0,40,49,20,20,20,0,20,0,20,0,0,6,6,6,6] n t σ) := by
  rw [PySem.W.ZFast.dmFY_eq]
  cases b <;> refine ⟨⟨?_, ?_, ?_, ?_, ?_, ?_⟩, ?_, ?_, ?_⟩ <;> kernel_rfl
theorem dN3_r (P : Params) (b : Bool) (c30 c37 : Nat) (k30 k37 : Nat → Nat) (bl : Int → Int) (xr : Int → Int → Int) (a bb : Int) (ta tb : Tok) (n t : Nat) (σ : Nat → Nat) : Go0 (.ok (.ret (.ref (cutS (shN 37 σ) 0 + 5)))) [0, 1, 2, 3, 54] (dvF (PySem.Builtin.bitNot (dQ bl xr bb (PySem.Builtin.bitNot a) 3)) (bb + PySem.Builtin.bitNot (dR bl xr bb (PySem.Builtin.bitNot a) 3)) (cutS (shN 37 σ) 0 + 5) c30 c37 k30 k37 (cutS (shN 37 σ) 1 + 8) (cutS (shN 37 σ) 1 + 10)) (dC bl xr bb (PySem.Builtin.bitNot a) 3 ++ dN a bb) (dmF P b (ktop P) theProg c30 c37 k30 k37 3 true bl xr a bb ta tb [0,0,5,5,5,5,0,0,5,0,5,5,0,6,5,0,7,0,5,0,0,5,0,0,0,0,6,6,6,6,0,0,6,0,5,6,0,6,6,0,6,0,6,6,0,0,0,0,7,7,7,7,0,0,7,0,2,7,7,0,7,7,0,0,0,0,8,8,9,9,0,0,8,0,2,9,0,0,0,0,9,0,3,12,0,0,12,12,0,12,0,12,10,10,0,1,0,0,0,11,11,8,0,4,11,8,0,0,10,0,0,13,0,13,0,13,15,0,15,3,16,16,16,16,16,16,0,0,16,0,0,16,0,0,16,16,0,0,0,10,16,16,16,16,0,0,9,0,14,16,16,16,16,0,11,16,16,16,16,16,0,12,0,13,16,16,11,16,16,16,15,0,15,3,17,17,17,17,17,17,0,0,17,0,0,17,0,0,17,10,17,13,13,0,13,0,13,13,13,11,16,16,16,15,0,15,3,18,18,18,18,18,18,0,0,18,0,0,18,0,0,18,18,0,0,0,10,18,18,18,18,0,0,9,0,14,18,18,18,18,0,11,18,18,18,18,18,0,12,0,13,18,18,11,18,18,18,15,0,15,3,19,19,19,19,19,19,0,0,19,0,0,19,0,0,19,10,19,13,13,0,13,0,13,13,13,11,18,18,18,15,0,15,3,20,20,20,20,20,20,0,0,20,0,0,20,0,0,20,10,20,13,13,0,13,0,13,13,13,10,7,7,7,7,7,7,0,0,7,0,0,0,0,13,0,13,0,13,22,22,22,0,22,0,22,0,22,0,22,0,22,22,13,22,22,7,7,0,7,7,0,12,7,0,0,7,7,0,0,0,0,23,23,23,23,23,23,0,0,23,0,2,23,0,0,0,0,8,0,0,23,23,0,0,0,9,24,24,24,0,24,0,25,25,0,25,0,25,25,24,25,25,25,0,25,0,25,25,24,25,25,25,0,25,0,25,25,24,25,25,27,7,7,7,7,7,21,21,21,21,7,0,21,0,21,21,21,0,22,0,22,0,22,22,13,22,22,7,7,0,7,7,0,12,7,0,0,7,7,0,0,0,0,28,28,28,28,28,28,0,0,28,0,2,28,0,0,0,0,8,0,0,28,28,0,0,0,9,29,29,29,0,29,0,30,30,0,30,0,30,30,29,30,30,30,0,30,0,30,30,29,30,30,30,0,30,0,30,30,29,30,30,32,7,7,7,7,7,21,21,21,21,7,0,21,0,21,21,21,0,22,0,22,0,22,22,13,22,22,7,7,0,7,7,0,12,7,0,0,7,7,0,0,0,0,33,33,33,33,33,33,0,0,33,0,2,33,0,0,0,0,8,0,0,33,33,0,0,0,9,34,34,34,0,34,0,35,35,0,35,0,35,35,34,35,35,35,0,35,0,35,35,34,35,35,35,0,35,0,35,35,34,35,35,37,7,7,7,7,7,21,21,21,21,7,0,21,0,21,21,21,0,22,0,22,0,22,39,0,7,21,21,21,21,0,21,0,21,21,21,0,7,7,0,0,0,0,41,41,42,42,0,0,0,2,0,0,0,43,43,41,21,21,0,21,0,21,0,21,43,0,0,41,0,0,21,0,21,0,21,45,0,45,4,46,46,46,46,0,0,46,0,0,46,0,0,46,46,0,0,0,10,46,46,46,46,0,0,42,0,14,46,46,43,46,46,45,0,45,4,47,47,47,47,0,0,47,0,0,47,0,0,47,47,0,0,0,10,47,47,47,47,0,0,42,0,14,47,47,43,47,47,45,0,45,4,48,48,48,48,0,0,48,0,0,48,0,0,41,48,21,21,21,0,21,0,21,47,0,12,43,47,47,45,0,45,4,49,49,49,49,0,0,49,0,0,49,0,0,41,49,21,21,21,0,21,0,21,0,0,46,0,12,43,46,46,45,0,45,4,50,50,50,50,0,0,50,0,0,50,0,0,41,50,21,21,21,0,21,0,21,0,0,7,7,7,7,51,51,51,0,51,0,52,52,0,52,0,52,52,51,52,52,52,0,52,0,52,52,51,52,52,52,0,52,0,52,52,51,52,52,54,5,5,5,5,5,0,0,5,5,0,0,0,0] n t σ) := by
  rw [PySem.W.ZFast.dmFY_eq]
  cases b <;> refine ⟨⟨?_, ?_, ?_, ?_, ?_, ?_⟩, ?_, ?_, ?_⟩ <;> kernel_rfl
end Mine
end
section
open PySem PySem.W PySem.W.X PyProof.Rows
namespace Mine
noncomputable abbrev blI : Int → Int := fun a => ((PySem.Builtin.Int.intBits a : Nat) : Int)
noncomputable abbrev xrI : Int → Int → Int := PySem.Builtin.bitXor
theorem intBits_le {a : Int} {k : Nat} (h0 : 0 ≤ a) (h : a < 2 ^ k) : Builtin.Int.intBits a ≤ k := by
  unfold Builtin.Int.intBits
  split
  · exact Nat.zero_le _
  · rename_i hz
    have hz' : a.natAbs ≠ 0 := by simpa using hz
    have : a.natAbs < 2 ^ k := by
      have e : ((2 ^ k : Nat) : Int) = (2 : Int) ^ k := by push_cast; rfl
      omega
    exact (Nat.log2_lt hz').mpr this
theorem intBits_pos {a : Int} (h : a ≠ 0) : 1 ≤ Builtin.Int.intBits a := by
  unfold Builtin.Int.intBits
  rw [if_neg (by simpa using h)]
  exact Nat.succ_le_succ (Nat.zero_le _)
theorem intBits_lt {a : Int} (h0 : 0 ≤ a) : a < 2 ^ (Builtin.Int.intBits a) := by
  have h := lt_two_pow_bits a
  have e : ((2 ^ (Builtin.Int.intBits a) : Nat) : Int) = (2 : Int) ^ (Builtin.Int.intBits a) := by push_cast; rfl
  omega
theorem nat_and_high (x N : Nat) : x &&& (x / 2 ^ N * 2 ^ N) = x / 2 ^ N * 2 ^ N := by
  apply Nat.eq_of_testBit_eq
  intro i
  rw [Nat.testBit_and, ← Nat.shiftRight_eq_div_pow, ← Nat.shiftLeft_eq, Nat.testBit_shiftLeft, Nat.testBit_shiftRight]
  by_cases h : i ≥ N
  · rw [Nat.add_sub_cancel' h]; simp [h]
  · simp [h]
theorem nat_or_high (x N : Nat) : x ||| (x / 2 ^ N * 2 ^ N) = x := by
  apply Nat.eq_of_testBit_eq
  intro i
  rw [Nat.testBit_or, ← Nat.shiftRight_eq_div_pow, ← Nat.shiftLeft_eq, Nat.testBit_shiftLeft, Nat.testBit_shiftRight]
  by_cases h : i ≥ N
  · rw [Nat.add_sub_cancel' h]; simp [h]
  · simp [h]
theorem bitNot_eq (a : Int) : Builtin.bitNot a = -a - 1 := rfl
theorem xr_low {x : Int} (h : 0 ≤ x) (N : Nat) : xrI x (x / 2 ^ N * 2 ^ N) = x % 2 ^ N := by
  obtain ⟨m, rfl⟩ := Int.eq_ofNat_of_zero_le h
  have e1 : ((m : Int) / 2 ^ N * 2 ^ N) = ((m / 2 ^ N * 2 ^ N : Nat) : Int) := by push_cast; rfl
  have e2 : ((m : Int) % 2 ^ N) = ((m % 2 ^ N : Nat) : Int) := by push_cast; rfl
  rw [e1, e2]
  have p1 : (0 : Int) ≤ (m : Int) := Int.natCast_nonneg _
  have p2 : (0 : Int) ≤ ((m / 2 ^ N * 2 ^ N : Nat) : Int) := Int.natCast_nonneg _
  have n1 : ¬ (0 : Int) ≤ Builtin.bitNot (m : Int) := by rw [bitNot_eq]; omega
  have n2 : ¬ (0 : Int) ≤ Builtin.bitNot ((m / 2 ^ N * 2 ^ N : Nat) : Int) := by rw [bitNot_eq]; omega
  have bb : ∀ y : Int, Builtin.bitNot (Builtin.bitNot y) = y := fun y => by rw [bitNot_eq, bitNot_eq]; omega
  show Builtin.bitOr _ _ - Builtin.bitAnd _ _ = _
  unfold Builtin.bitOr Builtin.bitAnd
  rw [decide_eq_true p1, decide_eq_true p2, decide_eq_false n1, decide_eq_false n2]
  dsimp only
  rw [bb, bb, bb, Int.toNat_natCast, Int.toNat_natCast, nat_or_high, nat_and_high]
  have := Nat.div_add_mod m (2 ^ N)
  have q : m / 2 ^ N * 2 ^ N = 2 ^ N * (m / 2 ^ N) := Nat.mul_comm _ _
  omega
theorem two_fig {a b B : Int} (hb : 0 < b) (hB : 0 < B) : (a / B) / b * B + ((a / B) % b * B + a % B) / b = a / b ∧ ((a / B) % b * B + a % B) % b = a % b := by
  have h1 := Int.mul_ediv_add_emod a B
  have h2 := Int.mul_ediv_add_emod (a / B) b
  have e : a = ((a / B) % b * B + a % B) + ((a / B) / b * B) * b := by
    have : B * (a / B) = ((a / B) % b) * B + ((a / B) / b * B) * b := by
      have e2 : B * (a / B) = B * (b * (a / B / b) + a / B % b) := by rw [h2]
      rw [e2, Int.mul_add, Int.add_comm, Int.mul_comm B ((a / B) % b), Int.mul_comm b, Int.mul_comm B, Int.mul_assoc, Int.mul_assoc, Int.mul_comm b B]
    omega
  constructor
  · conv => rhs; rw [e]
    rw [Int.add_mul_ediv_right _ _ (Int.ne_of_gt hb)]
    omega
  · conv => rhs; rw [e]
    rw [Int.add_mul_emod_self_right]
structure DmOk (a b : Int) : Prop where
  b2 : 2 ≤ b
  b1 : b < 1000
  a0 : 0 ≤ a
  a1 : a < 16 * b
structure DmN (a b B : Int) (N : Nat) : Prop where
  eN : Builtin.Int.intBits b = N
  eB : (2 : Int) ^ N = B
  n2 : 2 ≤ N
  n10 : N ≤ 10
  b2 : 2 ≤ b
  b1 : b < 1000
  a0 : 0 ≤ a
  a1 : a < 16000
  B0 : 0 < B
  B1 : B ≤ 1024
  bB : b < B
  dl : (blI a + blI b - 1) / blI b = 0 ∨ (blI a + blI b - 1) / blI b = 1 ∨ (blI a + blI b - 1) / blI b = 2 ∨ (blI a + blI b - 1) / blI b = 3
  dz : (blI a + blI b - 1) / blI b = 0 ↔ a = 0
theorem DmOk.n {a b : Int} (h : DmOk a b) : ∃ B N, DmN a b B N := by
  obtain ⟨b2, b1, a0, a1⟩ := h
  have hb0 : 0 ≤ b := by omega
  have n10 : Builtin.Int.intBits b ≤ 10 := intBits_le hb0 (by omega)
  have bl := intBits_lt hb0
  have n2 : 2 ≤ Builtin.Int.intBits b := by
    rcases Nat.lt_or_ge (Builtin.Int.intBits b) 2 with q | q
    · have : Builtin.Int.intBits b = 0 ∨ Builtin.Int.intBits b = 1 := by omega
      rcases this with q | q <;> rw [q] at bl <;> omega
    · exact q
  have hB1 : (2 : Int) ^ Builtin.Int.intBits b ≤ 1024 := by
    have : (2 : Nat) ^ Builtin.Int.intBits b ≤ 2 ^ 10 := Nat.pow_le_pow_right (by decide) n10
    have e : ((2 ^ (Builtin.Int.intBits b) : Nat) : Int) = (2 : Int) ^ (Builtin.Int.intBits b) := by push_cast; rfl
    omega
  have hA : Builtin.Int.intBits a ≤ Builtin.Int.intBits b + 4 := intBits_le a0 (by rw [Int.pow_add]; omega)
  refine ⟨_, _, rfl, rfl, n2, n10, b2, b1, a0, by omega, Int.pow_pos (by decide), hB1, bl, ?_, ?_⟩
  · show (((Builtin.Int.intBits a : Nat) : Int) + ((Builtin.Int.intBits b : Nat) : Int) - 1) / ((Builtin.Int.intBits b : Nat) : Int) = 0 ∨ (((Builtin.Int.intBits a : Nat) : Int) + ((Builtin.Int.intBits b : Nat) : Int) - 1) / ((Builtin.Int.intBits b : Nat) : Int) = 1 ∨ (((Builtin.Int.intBits a : Nat) : Int) + ((Builtin.Int.intBits b : Nat) : Int) - 1) / ((Builtin.Int.intBits b : Nat) : Int) = 2 ∨ (((Builtin.Int.intBits a : Nat) : Int) + ((Builtin.Int.intBits b : Nat) : Int) - 1) / ((Builtin.Int.intBits b : Nat) : Int) = 3
    generalize Builtin.Int.intBits a = x at *
    generalize Builtin.Int.intBits b = y at *
    have h1 : 0 ≤ ((x : Int) + (y : Int) - 1) / (y : Int) := Int.ediv_nonneg (by omega) (by omega)
    have h2 : ((x : Int) + (y : Int) - 1) / (y : Int) < 4 := Int.ediv_lt_of_lt_mul (by omega) (by omega)
    omega
  · show (((Builtin.Int.intBits a : Nat) : Int) + ((Builtin.Int.intBits b : Nat) : Int) - 1) / ((Builtin.Int.intBits b : Nat) : Int) = 0 ↔ a = 0
    constructor
    · intro z
      by_cases ha : a = 0
      · exact ha
      · have := intBits_pos ha
        generalize Builtin.Int.intBits a = x at *
        generalize Builtin.Int.intBits b = y at *
        have : 1 ≤ ((x : Int) + (y : Int) - 1) / (y : Int) := Int.le_ediv_of_mul_le (by omega) (by omega)
        omega
    · intro z
      subst z
      have : Builtin.Int.intBits 0 = 0 := by decide
      rw [this]
      generalize Builtin.Int.intBits b = y at *
      exact Int.ediv_eq_zero_of_lt (by omega) (by omega)
theorem bl_le64 {x : Int} (h0 : 0 ≤ x) (h : x < 2 ^ 64) : blI x ≤ 64 := by
  have := intBits_le h0 h
  show ((Builtin.Int.intBits x : Nat) : Int) ≤ 64
  omega
theorem mul_lt_of {x y m n : Int} (hx : 0 ≤ x) (hy : 0 ≤ y) (h1 : x < m) (h2 : y ≤ n) : x * y ≤ m * n := by
  have hm : 0 ≤ m := by omega
  exact Int.mul_le_mul (Int.le_of_lt h1) h2 hy hm
theorem eqF {p : Prop} (h : ¬ p) : p = (false = true) := propext ⟨fun q => absurd q h, fun q => nomatch q⟩
theorem eqT {p : Prop} (h : p) : p = (true = true) := propext ⟨fun _ => rfl, fun _ => h⟩
theorem blc {X b : Int} (h0 : 0 ≤ X) (h : X < 2 ^ 64) : blI X - blI b ≤ 4000 := by
  have := bl_le64 h0 h
  have h2 : 0 ≤ blI b := Int.natCast_nonneg _
  omega
section
variable {a b B : Int} {N : Nat}
theorem DmN.bl (h : DmN a b B N) : blI b = (N : Int) := by show ((Builtin.Int.intBits b : Nat) : Int) = _; rw [h.eN]
theorem DmN.tn (h : DmN a b B N) : (blI b).toNat = N := by rw [h.bl]; exact Int.toNat_natCast N
theorem DmN.mb (h : DmN a b B N) (x : Int) : 0 ≤ x % b ∧ x % b < b ∧ 0 ≤ x % b * B ∧ x % b * B ≤ 1000 * 1024 := by
  have h1 := Int.emod_nonneg x (b := b) (by have := h.b2; omega)
  have h2 := Int.emod_lt_of_pos x (b := b) (by have := h.b2; omega)
  have := h.b1
  exact ⟨h1, h2, Int.mul_nonneg h1 (Int.le_of_lt h.B0), mul_lt_of h1 (Int.le_of_lt h.B0) (by omega) h.B1⟩
theorem DmN.hi (h : DmN a b B N) {x : Int} (h0 : 0 ≤ x) : 0 ≤ x / B ∧ x / B ≤ x ∧ 0 ≤ x % B ∧ x % B < B ∧ 0 ≤ x / b ∧ x / b ≤ x := by
  have := h.B0
  have := h.b2
  exact ⟨Int.ediv_nonneg h0 (by omega), Int.ediv_le_self _ h0, Int.emod_nonneg _ (by omega), Int.emod_lt_of_pos _ (by omega), Int.ediv_nonneg h0 (by omega), Int.ediv_le_self _ h0⟩
theorem DmN.xr (h : DmN a b B N) {x : Int} (h0 : 0 ≤ x) : xrI x (x / B * B) = x % B := by rw [← h.eB]; exact xr_low h0 N
theorem allP_app : ∀ {l m : List Prop}, AllP l → AllP m → AllP (l ++ m)
  | [], _, _, h => h
  | _ :: _, _, h, g => ⟨h.1, allP_app h.2 g⟩
theorem dmAll (h : DmN a b B N) : ∃ k, k < 4 ∧ AllP (dC blI xrI b a k) ∧ dQ blI xrI b a k = a / b ∧ dR blI xrI b a k = a % b := by
  have hz := h.dz
  have hb := h.bl
  have h2 := h.n2
  have h10 := h.n10
  have hb2 := h.b2
  have hb1 := h.b1
  have ha0 := h.a0
  have ha1 := h.a1
  have hB0 := h.B0
  have hB1 := h.B1
  obtain ⟨u0, u1, z0, z1, w0, w1⟩ := h.hi ha0
  obtain ⟨uu0, uu1, zz0, zz1, ww0, ww1⟩ := h.hi u0
  obtain ⟨-, -, -, -, x0, x1⟩ := h.hi uu0
  obtain ⟨m0, m1, m2, m3⟩ := h.mb (a / B)
  obtain ⟨n0, n1, n2, n3⟩ := h.mb (a / B / B)
  have k1 := (two_fig (a := a / B) (b := b) (B := B) (by omega) hB0)
  have k2 := (two_fig (a := a) (b := b) (B := B) (by omega) hB0)
  rcases h.dl with hdiv | hdiv | hdiv | hdiv
  refine ⟨0, by decide, ?_, by rw [hz.mp hdiv]; simp [dQ], by rw [hz.mp hdiv]; simp [dR]⟩
  rotate_left 1
  refine ⟨1, by decide, ?_, ?_, ?_⟩
  rotate_left 3
  refine ⟨2, by decide, ?_, ?_, ?_⟩
  rotate_left 3
  refine ⟨3, by decide, ?_, ?_, ?_⟩
  all_goals simp only [dC, dQ, dR, cB, cD, cS, cR, d1, d2, e2, d3, e3, dS, dU, dT, Int.one_mul, h.tn, h.eB, Int.zero_mul, Int.zero_add, h.xr ha0, h.xr u0, k1.1, k1.2, k2.1, k2.2, AllP, and_true]
  all_goals and_intros
  all_goals first
    | omega
    | exact hdiv
    | exact ⟨⟨by omega, by omega⟩⟩
    | exact eqF (by omega)
    | exact eqT (by omega)
    | exact eq_true (by omega)
    | (refine eqT (blc ?_ ?_) <;> omega)
    | (refine eq_true (blc ?_ ?_) <;> omega)
end
theorem neg_div {a b : Int} (hb : 0 < b) : Builtin.bitNot (Builtin.bitNot a / b) = a / b ∧ b + Builtin.bitNot (Builtin.bitNot a % b) = a % b := by
  rw [bitNot_eq, bitNot_eq, bitNot_eq]
  have h1 := Int.mul_ediv_add_emod a b
  have h2 := Int.mul_ediv_add_emod (-a - 1) b
  have e1 := Int.emod_nonneg a (Int.ne_of_gt hb)
  have e2 := Int.emod_lt_of_pos a hb
  have key : (-a - 1) / b = - (a / b) - 1 := by
    have : -a - 1 = (b - 1 - a % b) + (- (a / b) - 1) * b := by
      have : (- (a / b) - 1) * b = - (b * (a / b)) - b := by rw [Int.sub_mul, Int.neg_mul, Int.one_mul, Int.mul_comm]
      omega
    rw [this, Int.add_mul_ediv_right _ _ (Int.ne_of_gt hb), Int.ediv_eq_zero_of_lt (by omega) (by omega)]
    omega
  refine ⟨by rw [key]; omega, ?_⟩
  rw [key] at h2
  have : b * (- (a / b) - 1) = - (b * (a / b)) - b := by rw [Int.mul_sub, Int.mul_neg, Int.mul_one]
  omega
structure DvP where
  (a : Int) (ta : Tok) (bb : Int) (tb : Tok)
noncomputable def kT (σ : Nat → Nat) (b : Nat) : Nat → Nat := kL [σ b, σ (b + 1), σ (b + 2), σ (b + 3), σ (b + 4), σ (b + 5), σ (b + 6), σ (b + 7), σ (b + 8), σ (b + 9)]
noncomputable def cDvE : Con DvP where
  lv := 14
  co p := .call (.ref 56) ⟨[.int p.a p.ta, .int p.bb p.tb], []⟩
  E p := [(30, tableOf []), (37, tableOf [])]
  cs p := [DmOk p.a p.bb]
  res p σ := .ok (.ret (.ref (σ 0)))
  E' p σ := dvE (p.a / p.bb) (p.a % p.bb) (σ 0) (σ 1) (σ 2) (kT σ 10) (kT σ 20) (σ 3) (σ 4)
noncomputable def gDv (co : Code) (es : List En) : DvP := ⟨intV ((argsOf co).getD 0 .none), tokV ((argsOf co).getD 0 .none), intV ((argsOf co).getD 1 .none), tokV ((argsOf co).getD 1 .none)⟩
noncomputable abbrev sDvE : SumFn := sumE cDvE 2 gDv
structure DvOk (a b : Int) : Prop where
  ok : DmOk a b ∨ (a < 0 ∧ DmOk (-a - 1) b)
structure DwP where
  (p : DvP) (c30 c37 : Nat) (k30 k37 : Nat → Nat)
noncomputable def cDvF : Con DwP where
  lv := 14
  co p := .call (.ref 56) ⟨[.int p.p.a p.p.ta, .int p.p.bb p.p.tb], []⟩
  E p := [(30, t30 p.c30), (37, t37 p.c37), (p.c30, code30 p.k30), (p.c37, code37 p.k37)]
  cs p := [DvOk p.p.a p.p.bb]
  res p σ := .ok (.ret (.ref (σ 0)))
  E' p σ := dvF (p.p.a / p.p.bb) (p.p.a % p.p.bb) (σ 0) p.c30 p.c37 p.k30 p.k37 (σ 1) (σ 2)
noncomputable def gDw (co : Code) (es : List En) : DwP := ⟨gDv co es, refV (fldF (eO es 0) 2), refV (fldF (eO es 1) 2), codeKs (eO es 2), codeKs (eO es 3)⟩
noncomputable abbrev sDvF : SumFn := sumE cDvF 4 gDw
section
variable {w : World}
theorem dvS_ok {k : Int} {z : Bool} : SOk w [sV (opBits blI), sV (opDivL k), sV (opBoolL z), sV (opEqL false), sV (opLtL false), sV (opLtL true), sV (opLeL true), sDivmod, sV opShrB, sV opShr, sV opShl, sV (opXor xrI), sV opMul] :=
  ⟨sV_ok opBits_good, sV_ok opDivL_good, sV_ok opBoolL_good, sV_ok opEqL_good, sV_ok opLtL_good, sV_ok opLtL_good, sV_ok opLeL_good, cDivmod_ok.ok _ _, sV_ok opShrB_good, sV_ok opShr_good, sV_ok opShl_good, sV_ok opXor_good, sV_ok opMul_good, trivial⟩
theorem dvE_go {a bb : Int} {ta tb : Tok} : ∀ k, k < 4 → AllP (dC blI xrI bb a k) → Ends w 14 (.call (.ref 56) ⟨[.int a ta, .int bb tb], []⟩) [(30, tableOf []), (37, tableOf [])] (QS (fun σ => .ok (.ret (.ref (σ 0)))) fun σ => dvE (dQ blI xrI bb a k) (dR blI xrI bb a k) (σ 0) (σ 1) (σ 2) (kT σ 10) (kT σ 20) (σ 3) (σ 4))
  | 0, _, h => Ends.fin (fun n t σ => dmE.eq_1 w.params (bOf w) (ktop w.params) theProg 0 false blI xrI a bb ta tb _ n t σ) rfl dvS_ok (fun n t σ => dE0_r w.params (bOf w) blI xrI a bb ta tb n t σ) (by decide) (fun _ _ _ _ => h) fun n t σ _ => ⟨sg [cutS (shN 6 σ) 0 + 16, cutS (shN 5 σ) 0 + 7, cutS (shN 6 σ) 0 + 14, cutS (shN 6 σ) 1 + 18, cutS (shN 6 σ) 1 + 1, 0, 0, 0, 0, 0, cutS (shN 5 σ) 1 + 0, cutS (shN 5 σ) 1 + 1, cutS (shN 5 σ) 1 + 2, cutS (shN 5 σ) 0 + 2, cutS (shN 5 σ) 0 + 3, cutS (shN 5 σ) 0 + 4, cutS (shN 5 σ) 0 + 5, cutS (shN 5 σ) 0 + 6, cutS (shN 5 σ) 1 + 13, cutS (shN 5 σ) 1 + 14, cutS (shN 6 σ) 1 + 4, cutS (shN 6 σ) 1 + 5, cutS (shN 6 σ) 1 + 6, cutS (shN 6 σ) 0 + 9, cutS (shN 6 σ) 0 + 10, cutS (shN 6 σ) 0 + 11, cutS (shN 6 σ) 0 + 12, cutS (shN 6 σ) 0 + 13, cutS (shN 6 σ) 1 + 14, cutS (shN 6 σ) 1 + 15], sg_z (by simp), rfl, rfl⟩
  | 1, _, h => Ends.fin (fun n t σ => dmE.eq_1 w.params (bOf w) (ktop w.params) theProg 1 true blI xrI a bb ta tb _ n t σ) rfl dvS_ok (fun n t σ => dE1_r w.params (bOf w) blI xrI a bb ta tb n t σ) (by decide) (fun _ _ _ _ => h) fun n t σ _ => ⟨sg [cutS (shN 10 σ) 0 + 18, cutS (shN 5 σ) 0 + 7, cutS (shN 10 σ) 0 + 15, tlS 10 σ 1, tlS 10 σ 2, 0, 0, 0, 0, 0, cutS (shN 5 σ) 1 + 0, cutS (shN 5 σ) 1 + 1, cutS (shN 5 σ) 1 + 2, cutS (shN 5 σ) 0 + 2, cutS (shN 5 σ) 0 + 3, cutS (shN 5 σ) 0 + 4, cutS (shN 5 σ) 0 + 5, cutS (shN 5 σ) 0 + 6, cutS (shN 5 σ) 1 + 13, cutS (shN 5 σ) 1 + 14, cutS (shN 10 σ) 1 + 2, cutS (shN 10 σ) 1 + 3, cutS (shN 10 σ) 1 + 4, cutS (shN 10 σ) 0 + 10, cutS (shN 10 σ) 0 + 11, cutS (shN 10 σ) 0 + 12, cutS (shN 10 σ) 0 + 13, cutS (shN 10 σ) 0 + 14, cutS (shN 10 σ) 1 + 12, cutS (shN 10 σ) 1 + 13], sg_z (by simp), rfl, rfl⟩
  | 2, _, h => Ends.fin (fun n t σ => dmE.eq_1 w.params (bOf w) (ktop w.params) theProg 2 true blI xrI a bb ta tb _ n t σ) rfl dvS_ok (fun n t σ => dE2_r w.params (bOf w) blI xrI a bb ta tb n t σ) (by decide) (fun _ _ _ _ => h) fun n t σ _ => ⟨sg [cutS (shN 22 σ) 0 + 1, cutS (shN 5 σ) 0 + 7, cutS (shN 19 σ) 0 + 15, cutS (shN 22 σ) 1 + 4, tlS 19 σ 2, 0, 0, 0, 0, 0, cutS (shN 5 σ) 1 + 0, cutS (shN 5 σ) 1 + 1, cutS (shN 5 σ) 1 + 2, cutS (shN 5 σ) 0 + 2, cutS (shN 5 σ) 0 + 3, cutS (shN 5 σ) 0 + 4, cutS (shN 5 σ) 0 + 5, cutS (shN 5 σ) 0 + 6, cutS (shN 5 σ) 1 + 13, cutS (shN 5 σ) 1 + 14, cutS (shN 19 σ) 1 + 2, cutS (shN 19 σ) 1 + 3, cutS (shN 19 σ) 1 + 4, cutS (shN 19 σ) 0 + 10, cutS (shN 19 σ) 0 + 11, cutS (shN 19 σ) 0 + 12, cutS (shN 19 σ) 0 + 13, cutS (shN 19 σ) 0 + 14, cutS (shN 19 σ) 1 + 12, cutS (shN 19 σ) 1 + 13], sg_z (by simp), rfl, rfl⟩
  | 3, _, h => Ends.fin (fun n t σ => dmE.eq_1 w.params (bOf w) (ktop w.params) theProg 3 true blI xrI a bb ta tb _ n t σ) rfl dvS_ok (fun n t σ => dE3_r w.params (bOf w) blI xrI a bb ta tb n t σ) (by decide) (fun _ _ _ _ => h) fun n t σ _ => ⟨sg [cutS (shN 34 σ) 0 + 1, cutS (shN 5 σ) 0 + 7, cutS (shN 28 σ) 0 + 15, cutS (shN 34 σ) 1 + 4, tlS 28 σ 2, 0, 0, 0, 0, 0, cutS (shN 5 σ) 1 + 0, cutS (shN 5 σ) 1 + 1, cutS (shN 5 σ) 1 + 2, cutS (shN 5 σ) 0 + 2, cutS (shN 5 σ) 0 + 3, cutS (shN 5 σ) 0 + 4, cutS (shN 5 σ) 0 + 5, cutS (shN 5 σ) 0 + 6, cutS (shN 5 σ) 1 + 13, cutS (shN 5 σ) 1 + 14, cutS (shN 28 σ) 1 + 2, cutS (shN 28 σ) 1 + 3, cutS (shN 28 σ) 1 + 4, cutS (shN 28 σ) 0 + 10, cutS (shN 28 σ) 0 + 11, cutS (shN 28 σ) 0 + 12, cutS (shN 28 σ) 0 + 13, cutS (shN 28 σ) 0 + 14, cutS (shN 28 σ) 1 + 12, cutS (shN 28 σ) 1 + 13], sg_z (by simp), rfl, rfl⟩
  | k + 4, h, _ => absurd h (by omega)
theorem dvF_go {c30 c37 : Nat} {k30 k37 : Nat → Nat} {a bb : Int} {ta tb : Tok} : ∀ k, k < 4 → AllP (dC blI xrI bb a k) → Ends w 14 (.call (.ref 56) ⟨[.int a ta, .int bb tb], []⟩) [(30, t30 c30), (37, t37 c37), (c30, code30 k30), (c37, code37 k37)] (QS (fun σ => .ok (.ret (.ref (σ 0)))) fun σ => dvF (dQ blI xrI bb a k) (dR blI xrI bb a k) (σ 0) c30 c37 k30 k37 (σ 1) (σ 2))
  | 0, _, h => Ends.fin (fun n t σ => dmF.eq_1 w.params (bOf w) (ktop w.params) theProg c30 c37 k30 k37 0 false blI xrI a bb ta tb _ n t σ) rfl dvS_ok (fun n t σ => dF0_r w.params (bOf w) c30 c37 k30 k37 blI xrI a bb ta tb n t σ) (by decide) (fun _ _ _ _ => h) fun n t σ _ => ⟨sg [cutS (shN 6 σ) 0 + 10, cutS (shN 6 σ) 1 + 6, cutS (shN 6 σ) 1 + 1], sg_z (by simp), rfl, rfl⟩
  | 1, _, h => Ends.fin (fun n t σ => dmF.eq_1 w.params (bOf w) (ktop w.params) theProg c30 c37 k30 k37 1 true blI xrI a bb ta tb _ n t σ) rfl dvS_ok (fun n t σ => dF1_r w.params (bOf w) c30 c37 k30 k37 blI xrI a bb ta tb n t σ) (by decide) (fun _ _ _ _ => h) fun n t σ _ => ⟨sg [cutS (shN 10 σ) 0 + 12, tlS 10 σ 1, tlS 10 σ 2], sg_z (by simp), rfl, rfl⟩
  | 2, _, h => Ends.fin (fun n t σ => dmF.eq_1 w.params (bOf w) (ktop w.params) theProg c30 c37 k30 k37 2 true blI xrI a bb ta tb _ n t σ) rfl dvS_ok (fun n t σ => dF2_r w.params (bOf w) c30 c37 k30 k37 blI xrI a bb ta tb n t σ) (by decide) (fun _ _ _ _ => h) fun n t σ _ => ⟨sg [cutS (shN 22 σ) 0 + 1, cutS (shN 22 σ) 1 + 4, tlS 19 σ 2], sg_z (by simp), rfl, rfl⟩
  | 3, _, h => Ends.fin (fun n t σ => dmF.eq_1 w.params (bOf w) (ktop w.params) theProg c30 c37 k30 k37 3 true blI xrI a bb ta tb _ n t σ) rfl dvS_ok (fun n t σ => dF3_r w.params (bOf w) c30 c37 k30 k37 blI xrI a bb ta tb n t σ) (by decide) (fun _ _ _ _ => h) fun n t σ _ => ⟨sg [cutS (shN 34 σ) 0 + 1, cutS (shN 34 σ) 1 + 4, tlS 28 σ 2], sg_z (by simp), rfl, rfl⟩
  | k + 4, h, _ => absurd h (by omega)
theorem dvN_go {c30 c37 : Nat} {k30 k37 : Nat → Nat} {a bb : Int} {ta tb : Tok} : ∀ k, k < 4 → AllP (dC blI xrI bb (PySem.Builtin.bitNot a) k ++ dN a bb) → Ends w 14 (.call (.ref 56) ⟨[.int a ta, .int bb tb], []⟩) [(30, t30 c30), (37, t37 c37), (c30, code30 k30), (c37, code37 k37)] (QS (fun σ => .ok (.ret (.ref (σ 0)))) fun σ => dvF (PySem.Builtin.bitNot (dQ blI xrI bb (PySem.Builtin.bitNot a) k)) (bb + PySem.Builtin.bitNot (dR blI xrI bb (PySem.Builtin.bitNot a) k)) (σ 0) c30 c37 k30 k37 (σ 1) (σ 2))
  | 0, _, h => Ends.fin (fun n t σ => dmF.eq_1 w.params (bOf w) (ktop w.params) theProg c30 c37 k30 k37 0 false blI xrI a bb ta tb _ n t σ) rfl dvS_ok (fun n t σ => dN0_r w.params (bOf w) c30 c37 k30 k37 blI xrI a bb ta tb n t σ) (by decide) (fun _ _ _ _ => h) fun n t σ _ => ⟨sg [cutS (shN 9 σ) 0 + 14, cutS (shN 9 σ) 1 + 10, cutS (shN 9 σ) 1 + 12], sg_z (by simp), rfl, rfl⟩
  | 1, _, h => Ends.fin (fun n t σ => dmF.eq_1 w.params (bOf w) (ktop w.params) theProg c30 c37 k30 k37 1 true blI xrI a bb ta tb _ n t σ) rfl dvS_ok (fun n t σ => dN1_r w.params (bOf w) c30 c37 k30 k37 blI xrI a bb ta tb n t σ) (by decide) (fun _ _ _ _ => h) fun n t σ _ => ⟨sg [cutS (shN 13 σ) 0 + 16, cutS (shN 13 σ) 1 + 14, cutS (shN 13 σ) 1 + 16], sg_z (by simp), rfl, rfl⟩
  | 2, _, h => Ends.fin (fun n t σ => dmF.eq_1 w.params (bOf w) (ktop w.params) theProg c30 c37 k30 k37 2 true blI xrI a bb ta tb _ n t σ) rfl dvS_ok (fun n t σ => dN2_r w.params (bOf w) c30 c37 k30 k37 blI xrI a bb ta tb n t σ) (by decide) (fun _ _ _ _ => h) fun n t σ _ => ⟨sg [cutS (shN 25 σ) 0 + 5, cutS (shN 25 σ) 1 + 8, cutS (shN 25 σ) 1 + 10], sg_z (by simp), rfl, rfl⟩
  | 3, _, h => Ends.fin (fun n t σ => dmF.eq_1 w.params (bOf w) (ktop w.params) theProg c30 c37 k30 k37 3 true blI xrI a bb ta tb _ n t σ) rfl dvS_ok (fun n t σ => dN3_r w.params (bOf w) c30 c37 k30 k37 blI xrI a bb ta tb n t σ) (by decide) (fun _ _ _ _ => h) fun n t σ _ => ⟨sg [cutS (shN 37 σ) 0 + 5, cutS (shN 37 σ) 1 + 8, cutS (shN 37 σ) 1 + 10], sg_z (by simp), rfl, rfl⟩
  | k + 4, h, _ => absurd h (by omega)
theorem cDvE_ok : cDvE.Holds w where
  ad p σ := ⟨[σ 0, σ 1, σ 2], rfl⟩
  does p hc := by
    obtain ⟨B, N, hn⟩ := hc.1.n
    obtain ⟨k, hk, hC, e1, e2⟩ := dmAll hn
    have := dvE_go (w := w) (ta := p.ta) (tb := p.tb) k hk hC
    rw [e1, e2] at this
    exact this
theorem cDvF_ok : cDvF.Holds w where
  ad p σ := ⟨[σ 0], rfl⟩
  does q hc := by
    obtain ⟨p, c30, c37, k30, k37⟩ := q
    have hok : DmOk p.a p.bb ∨ (p.a < 0 ∧ DmOk (-p.a - 1) p.bb) := hc.1.ok
    rcases hok with hok | ⟨hneg, hok⟩
    · obtain ⟨B, N, hn⟩ := hok.n
      obtain ⟨k, hk, hC, e1, e2⟩ := dmAll hn
      have := dvF_go (w := w) (c30 := c30) (c37 := c37) (k30 := k30) (k37 := k37) (ta := p.ta) (tb := p.tb) k hk hC
      rw [e1, e2] at this
      exact this
    · have e : -p.a - 1 = Builtin.bitNot p.a := rfl
      rw [e] at hok
      obtain ⟨B, N, hn⟩ := hok.n
      have hb2 := hn.b2
      obtain ⟨n1, n2⟩ := neg_div (a := p.a) (b := p.bb) (by omega)
      obtain ⟨k, hk, hC, e1, e2⟩ := dmAll hn
      have := dvN_go (w := w) (c30 := c30) (c37 := c37) (k30 := k30) (k37 := k37) (ta := p.ta) (tb := p.tb) k hk (allP_app (m := dN p.a p.bb) hC ⟨eqT hneg, eqF (by omega), eqF (by omega), trivial⟩)
      rw [e1, e2, n1, n2] at this
      exact this
end
end Mine
end
section
open PySem PySem.W PySem.W.X PyProof.Rows
namespace Mine
noncomputable def ifTestOf : Stmt → Expr
  | .If t _ _ _ => t
  | _ => .Constant (.int 0) 0 ⟨0, 0, 0, 0⟩
noncomputable def cmpRightOf : Expr → Expr
  | .Compare _ _ (c :: _) _ => c
  | e => e
noncomputable def scopeOfE (d : Scope) : Expr → Scope
  | .ListComp _ _ s _ => s
  | _ => d
noncomputable def turnStmts (K : KT) : List Stmt := bodyS (nthS (stmtsOf (fdK K 146)) 5)
noncomputable def keptE (K : KT) : Expr := cmpRightOf (ifTestOf (nthS (turnStmts K) 12))
noncomputable def goneE (K : KT) : Expr := cmpRightOf (ifTestOf (nthS (turnStmts K) 13))
noncomputable def freeToCell : List (Str × NameKind) → List (Str × NameKind)
  | [] => []
  | p :: r => (p.1, match p.2 with | .free => .cell | k => k) :: freeToCell r
noncomputable def compC (K : KT) (e : Expr) (it acc loc fr : Nat) (cells : List (Str × Addr)) : Code :=
  .compLoop e 0 (.ref it) (.ref acc) { scope := { scopeOfE (fdK K 146).scope e with names := freeToCell (scopeOfE (fdK K 146).scope e).names }, locals := loc, globals := 3, cells, qual := "_law_trick.<locals>.", func := none, code := .ref 145, frame := some fr, builtins := 0 }
noncomputable def loc0 : Obj := { cls := .type "dict", data := .dict #[] 0 }
noncomputable def loc1 (nm : Str) (h : Int) (k : Tok) (v : Value) : Obj := { cls := .type "dict", data := .dict #[⟨h, .str nm k, v⟩] 1 }
noncomputable def locC : Code → Nat
  | .compLoop _ _ _ _ e => e.locals
  | _ => 0
noncomputable def itCc : Code → Nat
  | .compLoop _ _ it _ _ => refV it
  | _ => 0
noncomputable def accC : Code → Nat
  | .compLoop _ _ _ a _ => refV a
  | _ => 0
noncomputable def frmC : Code → Nat
  | .compLoop _ _ _ _ e => e.frame.getD 0
  | _ => 0
noncomputable def celC (c : Code) (i : Nat) : Nat := match c with
  | .compLoop _ _ _ _ e => (e.cells.getD i default).2
  | _ => 0
noncomputable def cellV (o : Obj) : Value := match o.data with
  | .cell (some v) => v
  | _ => .none
structure KeP where
  (it acc loc fr cp cn cl nm : Nat) (pw : Int) (tp : Tok) (lo : Int) (tl : Tok) (nv : List Value) (en : Nat)
noncomputable def KeP.C (K : KT) (p : KeP) : Code := compC K (keptE K) p.it p.acc p.loc p.fr [("power", p.cp), ("names", p.cn), ("low", p.cl)]
noncomputable def keE (p : KeP) (lo it : Obj) (ys : List Value) (ey : Nat) : Sto := [(p.cp, cellOf (.int p.pw p.tp)), (p.cn, cellOf (.ref p.nm)), (p.cl, cellOf (.int p.lo p.tl)), (p.nm, lst p.nv p.en), (p.loc, lo), (p.it, it), (p.acc, lst ys ey)]
structure KeptOk (nv : List Value) (pw ct : Int) : Prop where
  len : ((nv.length : Nat) : Int) = ct
  pw : 0 < pw
  ne : nv ≠ []
  le : nv.length ≤ 1000
structure KfP where
  (p : KeP) (ct : Int) (ey : Nat)
noncomputable def cKept (K : KT) (hf : Str → Int) (kp : List Value → Int → Int → List Value) : Con KfP where
  lv := 11
  co q := q.p.C K
  E q := keE q.p loc0 (riO 0 q.ct) [] q.ey
  cs q := [KeptOk q.p.nv q.p.pw q.ct]
  res q σ := .ok .next
  E' q σ := keE q.p (loc1 "k" (hf "k") (σ 0) (.int (q.ct - 1) (σ 1))) (riO q.ct 0) (kp q.p.nv q.p.pw q.p.lo) (σ 2)
noncomputable def gKe (co : Code) (es : List En) : KfP := ⟨⟨itCc co, accC co, locC co, frmC co, celC co 0, celC co 1, celC co 2, refV (cellV (eO es 1)), intV (cellV (eO es 0)), tokV (cellV (eO es 0)), intV (cellV (eO es 2)), tokV (cellV (eO es 2)), getV (eO es 3), epO (eO es 3)⟩, intV (fldF (eO es 5) 1), epO (eO es 6)⟩
noncomputable abbrev sKept (K : KT) (hf : Str → Int) (kp : List Value → Int → Int → List Value) : SumFn := sumE (cKept K hf kp) 7 gKe
structure GoP where
  (it acc loc fr ch h2 th : Nat) (hv : List Value) (eh : Nat) (tv : List Value) (et : Nat)
noncomputable def GoP.C (K : KT) (p : GoP) : Code := compC K (goneE K) p.it p.acc p.loc p.fr [("hands", p.ch)]
noncomputable def goE (p : GoP) (lo it : Obj) (ys : List Value) (ey : Nat) : Sto := [(p.ch, cellOf (.ref p.h2)), (p.h2, lst p.hv p.eh), (p.th, lst p.tv p.et), (p.loc, lo), (p.it, it), (p.acc, lst ys ey)]
structure GfP where
  (p : GoP) (ey : Nat)
noncomputable def cGone (K : KT) (hf : Str → Int) (fi : Bool → List Value → List Value → List Value) : Con GfP where
  lv := 11
  co q := q.p.C K
  E q := goE q.p loc0 (liO q.p.th 0) [] q.ey
  cs q := [SpOk q.p.tv q.p.hv]
  res q σ := .ok .next
  E' q σ := goE q.p (loc1 "name" (hf "name") (σ 0) (lastV q.p.tv)) (liEnd (q.p.tv.length : Int)) (fi false q.p.tv q.p.hv) (σ 1)
noncomputable def gGo (co : Code) (es : List En) : GfP := ⟨⟨itCc co, accC co, locC co, frmC co, celC co 0, refV (cellV (eO es 0)), refV (fldF (eO es 4) 0), getV (eO es 1), epO (eO es 1), getV (eO es 2), epO (eO es 2)⟩, epO (eO es 5)⟩
noncomputable abbrev sGone (K : KT) (hf : Str → Int) (fi : Bool → List Value → List Value → List Value) : SumFn := sumE (cGone K hf fi) 6 gGo
noncomputable def keDev : KeP := ⟨101, 102, 103, 104, 105, 106, 107, 108, 16, 201, 3, 202, [.str "a" 301, .str "b" 302], 5⟩
noncomputable def goDev : GoP := ⟨101, 102, 103, 104, 105, 106, 107, [.str "b" 301], 5, [.str "a" 302, .str "b" 303], 6⟩
@[irreducible] noncomputable def kp0t (P : Params) (b : Bool) (K : KT) (pg : Program) (p : KeP) (k l : Nat) (v : Value) (ys : List Value) (ey : Nat) (ap : List Value → Value → List Value) (n t : Nat) (σ : Nat → Nat) : Ou :=
  goC (mkW P b K pg [sV opModS, sV (opEqL true), sItem v, sApp ap]) 4000 11 (p.C K)
  (keE p loc0 (riO (k : Int) ((l + 1 : Nat) : Int)) ys ey) n t σ
  [6,0,6,0,6,6,6,6,6,6,6,5,5,5,1,0,2,3,0,3,2,5,4,4,4,0,4,4,3,0,7,5,6,1]
theorem kp0t_id : @kp0t = @kp0t := rfl
lay_z Mine.kp0t
end Mine
name_z kp0tY for Mine.kp0t by Mine.kp0t_id
namespace Mine
theorem kp0t_r (P : Params) (b : Bool) (p : KeP) (k l : Nat) (v : Value) (ys : List Value) (ey : Nat) (ap : List Value → Value → List Value) (n t : Nat) (σ : Nat → Nat) : Go1 (p.C (ktop P)) (List.range 7) (keE p (loc1 "k" (PySem.W.ZFast.hKY P "k") (t + 1) (.int (k : Int) (t))) (riO ((k : Int) + 1) (((l + 1 : Nat) : Int) - 1)) (ap ys v) (tlS 3 σ 0)) [ys.length ≤ 100000, ItemV p.nv (.int (k : Int) t) v, (((k : Int) % p.pw = p.lo) = (true = true)), 0 < p.pw] (kp0t P b (ktop P) theProg p k l v ys ey ap n t σ) := by
  rw [PySem.W.ZFast.kp0tY_eq]
  cases b <;> refine ⟨⟨?_, ?_, ?_, ?_, ?_, ?_⟩, ?_, ?_, ?_, ?_⟩ <;> kernel_rfl
@[irreducible] noncomputable def kp0n (P : Params) (b : Bool) (K : KT) (pg : Program) (p : KeP) (k l : Nat) (v : Value) (ys : List Value) (ey : Nat) (ap : List Value → Value → List Value) (n t : Nat) (σ : Nat → Nat) : Ou :=
  goC (mkW P b K pg [sV opModS, sV (opEqL false), sItem v, sApp ap]) 4000 11 (p.C K)
  (keE p loc0 (riO (k : Int) ((l + 1 : Nat) : Int)) ys ey) n t σ
  [6,0,6,0,6,6,6,6,6,6,6,5,5,5,1,0,2,3,0,3,1]
theorem kp0n_id : @kp0n = @kp0n := rfl
lay_z Mine.kp0n
end Mine
name_z kp0nY for Mine.kp0n by Mine.kp0n_id
namespace Mine
theorem kp0n_r (P : Params) (b : Bool) (p : KeP) (k l : Nat) (v : Value) (ys : List Value) (ey : Nat) (ap : List Value → Value → List Value) (n t : Nat) (σ : Nat → Nat) : Go1 (p.C (ktop P)) (List.range 7) (keE p (loc1 "k" (PySem.W.ZFast.hKY P "k") (t + 1) (.int (k : Int) (t))) (riO ((k : Int) + 1) (((l + 1 : Nat) : Int) - 1)) ys ey) [(((k : Int) % p.pw = p.lo) = (false = true)), 0 < p.pw] (kp0n P b (ktop P) theProg p k l v ys ey ap n t σ) := by
  rw [PySem.W.ZFast.kp0nY_eq]
  cases b <;> refine ⟨⟨?_, ?_, ?_, ?_, ?_, ?_⟩, ?_, ?_, ?_, ?_⟩ <;> kernel_rfl
@[irreducible] noncomputable def kp1t (P : Params) (b : Bool) (K : KT) (pg : Program) (p : KeP) (k l : Nat) (v : Value) (ys : List Value) (ey : Nat) (ap : List Value → Value → List Value) (hx : Int) (kx : Tok) (vx : Value) (n t : Nat) (σ : Nat → Nat) : Ou :=
  goC (mkW P b K pg [sV opModS, sV (opEqL true), sItem v, sApp ap]) 4000 11 (p.C K)
  (keE p (loc1 "k" hx kx vx) (riO (k : Int) ((l + 1 : Nat) : Int)) ys ey) n t σ
  [6,0,6,0,6,6,6,6,6,6,6,5,5,5,1,0,2,3,0,3,2,5,4,4,4,0,4,4,3,0,7,5,6,1]
theorem kp1t_id : @kp1t = @kp1t := rfl
lay_z Mine.kp1t
end Mine
name_z kp1tY for Mine.kp1t by Mine.kp1t_id
namespace Mine
theorem kp1t_r (P : Params) (b : Bool) (p : KeP) (k l : Nat) (v : Value) (ys : List Value) (ey : Nat) (ap : List Value → Value → List Value) (hx : Int) (kx : Tok) (vx : Value) (n t : Nat) (σ : Nat → Nat) : Go1 (p.C (ktop P)) (List.range 7) (keE p (loc1 "k" hx kx (.int (k : Int) t)) (riO ((k : Int) + 1) (((l + 1 : Nat) : Int) - 1)) (ap ys v) (tlS 3 σ 0)) [ys.length ≤ 100000, ItemV p.nv (.int (k : Int) t) v, (((k : Int) % p.pw = p.lo) = (true = true)), 0 < p.pw] (kp1t P b (ktop P) theProg p k l v ys ey ap hx kx vx n t σ) := by
  rw [PySem.W.ZFast.kp1tY_eq]
  cases b <;> refine ⟨⟨?_, ?_, ?_, ?_, ?_, ?_⟩, ?_, ?_, ?_, ?_⟩ <;> kernel_rfl
@[irreducible] noncomputable def kp1n (P : Params) (b : Bool) (K : KT) (pg : Program) (p : KeP) (k l : Nat) (v : Value) (ys : List Value) (ey : Nat) (ap : List Value → Value → List Value) (hx : Int) (kx : Tok) (vx : Value) (n t : Nat) (σ : Nat → Nat) : Ou :=
  goC (mkW P b K pg [sV opModS, sV (opEqL false), sItem v, sApp ap]) 4000 11 (p.C K)
  (keE p (loc1 "k" hx kx vx) (riO (k : Int) ((l + 1 : Nat) : Int)) ys ey) n t σ
  [6,0,6,0,6,6,6,6,6,6,6,5,5,5,1,0,2,3,0,3,1]
theorem kp1n_id : @kp1n = @kp1n := rfl
lay_z Mine.kp1n
end Mine
name_z kp1nY for Mine.kp1n by Mine.kp1n_id
namespace Mine
theorem kp1n_r (P : Params) (b : Bool) (p : KeP) (k l : Nat) (v : Value) (ys : List Value) (ey : Nat) (ap : List Value → Value → List Value) (hx : Int) (kx : Tok) (vx : Value) (n t : Nat) (σ : Nat → Nat) : Go1 (p.C (ktop P)) (List.range 7) (keE p (loc1 "k" hx kx (.int (k : Int) t)) (riO ((k : Int) + 1) (((l + 1 : Nat) : Int) - 1)) ys ey) [(((k : Int) % p.pw = p.lo) = (false = true)), 0 < p.pw] (kp1n P b (ktop P) theProg p k l v ys ey ap hx kx vx n t σ) := by
  rw [PySem.W.ZFast.kp1nY_eq]
  cases b <;> refine ⟨⟨?_, ?_, ?_, ?_, ?_, ?_⟩, ?_, ?_, ?_, ?_⟩ <;> kernel_rfl
@[irreducible] noncomputable def kpz (P : Params) (b : Bool) (K : KT) (pg : Program) (p : KeP) (k : Nat) (lo : Obj) (ys : List Value) (ey : Nat) (n t : Nat) (σ : Nat → Nat) : Ou :=
  goC (mkW P b K pg []) 4000 11 (p.C K)
  (keE p lo (riO (k : Int) 0) ys ey) n t σ
  [6,0,6,0,6,6,6,9]
theorem kpz_id : @kpz = @kpz := rfl
lay_z Mine.kpz
end Mine
name_z kpzY for Mine.kpz by Mine.kpz_id
namespace Mine
theorem kpz_r (P : Params) (b : Bool) (p : KeP) (k : Nat) (lo : Obj) (ys : List Value) (ey : Nat) (n t : Nat) (σ : Nat → Nat) : Go0 (.ok .next) (List.range 7) (keE p lo (riO (k : Int) 0) ys ey) [] (kpz P b (ktop P) theProg p k lo ys ey n t σ) := by
  rw [PySem.W.ZFast.kpzY_eq]
  cases b <;> refine ⟨⟨?_, ?_, ?_, ?_, ?_, ?_⟩, ?_, ?_, ?_⟩ <;> kernel_rfl
@[irreducible] noncomputable def gn0t (P : Params) (b : Bool) (K : KT) (pg : Program) (p : GoP) (i : Int) (y : Str) (ty : Tok) (ys : List Value) (ey : Nat) (ap : List Value → Value → List Value) (n t : Nat) (σ : Nat → Nat) : Ou :=
  goC (mkW P b K pg [sNext (.str y ty), sCont false, sApp ap]) 4000 11 (p.C K)
  (goE p loc0 (liO p.th i) ys ey) n t σ
  [5,0,5,2,4,2,4,4,4,1,2,2,0,2,3,1,4,0,6,4,5,1]
theorem gn0t_id : @gn0t = @gn0t := rfl
lay_z Mine.gn0t
end Mine
name_z gn0tY for Mine.gn0t by Mine.gn0t_id
namespace Mine
theorem gn0t_r (P : Params) (b : Bool) (p : GoP) (i : Int) (y : Str) (ty : Tok) (ys : List Value) (ey : Nat) (ap : List Value → Value → List Value) (n t : Nat) (σ : Nat → Nat) : Go1 (p.C (ktop P)) (List.range 6) (goE p (loc1 "name" (PySem.W.ZFast.hKY P "name") (cutS σ 1) (.str y ty)) (liO p.th (i + 1)) (ap ys (.str y ty)) (tlS 2 σ 0)) [ys.length ≤ 100000, CT p.hv (.str y ty) false, ItemIs p.tv i (.str y ty)] (gn0t P b (ktop P) theProg p i y ty ys ey ap n t σ) := by
  rw [PySem.W.ZFast.gn0tY_eq]
  cases b <;> refine ⟨⟨?_, ?_, ?_, ?_, ?_, ?_⟩, ?_, ?_, ?_, ?_⟩ <;> kernel_rfl
@[irreducible] noncomputable def gn0n (P : Params) (b : Bool) (K : KT) (pg : Program) (p : GoP) (i : Int) (y : Str) (ty : Tok) (ys : List Value) (ey : Nat) (ap : List Value → Value → List Value) (n t : Nat) (σ : Nat → Nat) : Ou :=
  goC (mkW P b K pg [sNext (.str y ty), sCont true, sApp ap]) 4000 11 (p.C K)
  (goE p loc0 (liO p.th i) ys ey) n t σ
  [5,0,5,2,4,2,4,4,4,1,2,2,0,2,3,1,1]
theorem gn0n_id : @gn0n = @gn0n := rfl
lay_z Mine.gn0n
end Mine
name_z gn0nY for Mine.gn0n by Mine.gn0n_id
namespace Mine
theorem gn0n_r (P : Params) (b : Bool) (p : GoP) (i : Int) (y : Str) (ty : Tok) (ys : List Value) (ey : Nat) (ap : List Value → Value → List Value) (n t : Nat) (σ : Nat → Nat) : Go1 (p.C (ktop P)) (List.range 6) (goE p (loc1 "name" (PySem.W.ZFast.hKY P "name") (cutS σ 1) (.str y ty)) (liO p.th (i + 1)) ys ey) [CT p.hv (.str y ty) true, ItemIs p.tv i (.str y ty)] (gn0n P b (ktop P) theProg p i y ty ys ey ap n t σ) := by
  rw [PySem.W.ZFast.gn0nY_eq]
  cases b <;> refine ⟨⟨?_, ?_, ?_, ?_, ?_, ?_⟩, ?_, ?_, ?_, ?_⟩ <;> kernel_rfl
@[irreducible] noncomputable def gn1t (P : Params) (b : Bool) (K : KT) (pg : Program) (p : GoP) (i : Int) (y : Str) (ty : Tok) (ys : List Value) (ey : Nat) (ap : List Value → Value → List Value) (hx : Int) (kx : Tok) (vx : Value) (n t : Nat) (σ : Nat → Nat) : Ou :=
  goC (mkW P b K pg [sNext (.str y ty), sCont false, sApp ap]) 4000 11 (p.C K)
  (goE p (loc1 "name" hx kx vx) (liO p.th i) ys ey) n t σ
  [5,0,5,2,4,2,4,4,4,1,2,2,0,2,3,1,4,0,6,4,5,1]
theorem gn1t_id : @gn1t = @gn1t := rfl
lay_z Mine.gn1t
end Mine
name_z gn1tY for Mine.gn1t by Mine.gn1t_id
namespace Mine
theorem gn1t_r (P : Params) (b : Bool) (p : GoP) (i : Int) (y : Str) (ty : Tok) (ys : List Value) (ey : Nat) (ap : List Value → Value → List Value) (hx : Int) (kx : Tok) (vx : Value) (n t : Nat) (σ : Nat → Nat) : Go1 (p.C (ktop P)) (List.range 6) (goE p (loc1 "name" hx kx (.str y ty)) (liO p.th (i + 1)) (ap ys (.str y ty)) (tlS 2 σ 0)) [ys.length ≤ 100000, CT p.hv (.str y ty) false, ItemIs p.tv i (.str y ty)] (gn1t P b (ktop P) theProg p i y ty ys ey ap hx kx vx n t σ) := by
  rw [PySem.W.ZFast.gn1tY_eq]
  cases b <;> refine ⟨⟨?_, ?_, ?_, ?_, ?_, ?_⟩, ?_, ?_, ?_, ?_⟩ <;> kernel_rfl
@[irreducible] noncomputable def gn1n (P : Params) (b : Bool) (K : KT) (pg : Program) (p : GoP) (i : Int) (y : Str) (ty : Tok) (ys : List Value) (ey : Nat) (ap : List Value → Value → List Value) (hx : Int) (kx : Tok) (vx : Value) (n t : Nat) (σ : Nat → Nat) : Ou :=
  goC (mkW P b K pg [sNext (.str y ty), sCont true, sApp ap]) 4000 11 (p.C K)
  (goE p (loc1 "name" hx kx vx) (liO p.th i) ys ey) n t σ
  [5,0,5,2,4,2,4,4,4,1,2,2,0,2,3,1,1]
theorem gn1n_id : @gn1n = @gn1n := rfl
lay_z Mine.gn1n
end Mine
name_z gn1nY for Mine.gn1n by Mine.gn1n_id
namespace Mine
theorem gn1n_r (P : Params) (b : Bool) (p : GoP) (i : Int) (y : Str) (ty : Tok) (ys : List Value) (ey : Nat) (ap : List Value → Value → List Value) (hx : Int) (kx : Tok) (vx : Value) (n t : Nat) (σ : Nat → Nat) : Go1 (p.C (ktop P)) (List.range 6) (goE p (loc1 "name" hx kx (.str y ty)) (liO p.th (i + 1)) ys ey) [CT p.hv (.str y ty) true, ItemIs p.tv i (.str y ty)] (gn1n P b (ktop P) theProg p i y ty ys ey ap hx kx vx n t σ) := by
  rw [PySem.W.ZFast.gn1nY_eq]
  cases b <;> refine ⟨⟨?_, ?_, ?_, ?_, ?_, ?_⟩, ?_, ?_, ?_, ?_⟩ <;> kernel_rfl
@[irreducible] noncomputable def gnz (P : Params) (b : Bool) (K : KT) (pg : Program) (p : GoP) (i : Int) (lo : Obj) (ys : List Value) (ey : Nat) (n t : Nat) (σ : Nat → Nat) : Ou :=
  goC (mkW P b K pg [sNextEnd]) 4000 11 (p.C K)
  (goE p lo (liO p.th i) ys ey) n t σ
  [5,0,5,2,4,2,8]
theorem gnz_id : @gnz = @gnz := rfl
lay_z Mine.gnz
end Mine
name_z gnzY for Mine.gnz by Mine.gnz_id
namespace Mine
theorem gnz_r (P : Params) (b : Bool) (p : GoP) (i : Int) (lo : Obj) (ys : List Value) (ey : Nat) (n t : Nat) (σ : Nat → Nat) : Go0 (.ok .next) (List.range 6) (goE p lo (liEnd i) ys ey) [AtEnd p.tv i] (gnz P b (ktop P) theProg p i lo ys ey n t σ) := by
  rw [PySem.W.ZFast.gnzY_eq]
  cases b <;> refine ⟨⟨?_, ?_, ?_, ?_, ?_, ?_⟩, ?_, ?_, ?_⟩ <;> kernel_rfl
noncomputable def keptL (nv : List Value) (pw lo : Int) : Nat → Nat → List Value
  | 0, _ => []
  | m + 1, k => bif decide ((k : Int) % pw = lo) then nv.getD k .none :: keptL nv pw lo m (k + 1) else keptL nv pw lo m (k + 1)
noncomputable def kpI (nv : List Value) (pw lo : Int) : List Value := keptL nv pw lo nv.length 0
inductive LoK (nm : Str) (hf : Str → Int) (f : Nat → Tok → Value) : Nat → Obj → Prop
  | z : LoK nm hf f 0 loc0
  | s (k t1 t2) : LoK nm hf f (k + 1) (loc1 nm (hf nm) t1 (f k t2))
section
variable {w : World} {p : KeP} {g : GoP}
theorem kp_turn {k l : Nat} {lo : Obj} {ys : List Value} {ey : Nat} {Q : Result → Sto → Prop} (hl : LoK "k" (PySem.W.ZFast.hKY w.params) (fun k t => .int (k : Int) t) k lo) (hk : k < p.nv.length) (hn : p.nv.length ≤ 1000) (hp : 0 < p.pw) (hy : ys.length ≤ k)
    (H : ∀ lo' ey', LoK "k" (PySem.W.ZFast.hKY w.params) (fun k t => .int (k : Int) t) (k + 1) lo' → Ends w 11 (p.C (ktop w.params)) (keE p lo' (riO ((k + 1 : Nat) : Int) (l : Int)) (bif decide ((k : Int) % p.pw = p.lo) then ys ++ [p.nv.getD k .none] else ys) ey') Q) :
    Ends w 11 (p.C (ktop w.params)) (keE p lo (riO (k : Int) ((l + 1 : Nat) : Int)) ys ey) Q := by
  have e1 : ((l + 1 : Nat) : Int) - 1 = (l : Int) := by omega
  have hi : ∀ t, ItemV p.nv (.int (k : Int) t) (p.nv.getD k .none) := fun t => ⟨_, _, rfl, Int.natCast_nonneg _, by omega, by simp [hk]⟩
  have hys : ys.length ≤ 100000 := by omega
  have hs : ∀ r, SOk w [sV opModS, sV (opEqL r), sItem (p.nv.getD k .none), sApp apI] := fun r => ⟨sV_ok opModS_good, sV_ok opEqL_good, cItem_ok.ok _ _, cApp_ok.ok _ _, trivial⟩
  by_cases q : (k : Int) % p.pw = p.lo
  · rw [decide_eq_true q] at H
    cases hl with
    | z => exact Ends.turn (fun n t σ => kp0t.eq_1 w.params (bOf w) (ktop w.params) theProg p 0 l _ ys ey apI n t σ) rfl (hs _) (fun n t σ => kp0t_r w.params (bOf w) p 0 l _ ys ey apI n t σ) (by decide) (fun _ _ _ _ => ⟨hys, hi _, eqT q, hp, trivial⟩) fun n t σ _ => by rw [e1]; exact H _ _ (.s 0 _ _)
    | s k t1 t2 => exact Ends.turn (fun n t σ => kp1t.eq_1 w.params (bOf w) (ktop w.params) theProg p (k + 1) l _ ys ey apI _ _ _ n t σ) rfl (hs _) (fun n t σ => kp1t_r w.params (bOf w) p (k + 1) l _ ys ey apI _ _ _ n t σ) (by decide) (fun _ _ _ _ => ⟨hys, hi _, eqT q, hp, trivial⟩) fun n t σ _ => by rw [e1]; exact H _ _ (.s (k + 1) _ _)
  · rw [decide_eq_false q] at H
    cases hl with
    | z => exact Ends.turn (fun n t σ => kp0n.eq_1 w.params (bOf w) (ktop w.params) theProg p 0 l (p.nv.getD 0 .none) ys ey apI n t σ) rfl (hs _) (fun n t σ => kp0n_r w.params (bOf w) p 0 l _ ys ey apI n t σ) (by decide) (fun _ _ _ _ => ⟨eqF q, hp, trivial⟩) fun n t σ _ => by rw [e1]; exact H _ _ (.s 0 _ _)
    | s k t1 t2 => exact Ends.turn (fun n t σ => kp1n.eq_1 w.params (bOf w) (ktop w.params) theProg p (k + 1) l (p.nv.getD (k + 1) .none) ys ey apI _ _ _ n t σ) rfl (hs _) (fun n t σ => kp1n_r w.params (bOf w) p (k + 1) l _ ys ey apI _ _ _ n t σ) (by decide) (fun _ _ _ _ => ⟨eqF q, hp, trivial⟩) fun n t σ _ => by rw [e1]; exact H _ _ (.s (k + 1) _ _)
theorem kp_loop (hn : p.nv.length ≤ 1000) (hp : 0 < p.pw) : ∀ (m k : Nat) (lo : Obj) (ys : List Value) (ey : Nat), k + m = p.nv.length → LoK "k" (PySem.W.ZFast.hKY w.params) (fun k t => .int (k : Int) t) k lo → ys.length ≤ k →
    Ends w 11 (p.C (ktop w.params)) (keE p lo (riO (k : Int) (m : Int)) ys ey) (fun r G => r = .ok .next ∧ ∃ lo' e, LoK "k" (PySem.W.ZFast.hKY w.params) (fun k t => .int (k : Int) t) p.nv.length lo' ∧ G = keE p lo' (riO (p.nv.length : Int) 0) (ys ++ keptL p.nv p.pw p.lo m k) e)
  | 0, k, lo, ys, ey, hk, hl, hy => by
    have hk : k = p.nv.length := hk
    subst hk
    rw [keptL, List.append_nil]
    exact Ends.fin (fun n t σ => kpz.eq_1 w.params (bOf w) (ktop w.params) theProg p _ lo ys ey n t σ) rfl trivial (fun n t σ => kpz_r w.params (bOf w) p _ lo ys ey n t σ) (by decide) (fun _ _ _ _ => trivial) fun n t σ _ => ⟨rfl, _, _, hl, rfl⟩
  | m + 1, k, lo, ys, ey, hk, hl, hy => by
    refine kp_turn hl (by omega) hn hp hy fun lo' ey' hl' => (kp_loop hn hp m (k + 1) lo' _ ey' (by omega) hl' ?_).mono fun r G q => ?_
    · cases decide ((k : Int) % p.pw = p.lo) <;> simp <;> omega
    · rw [keptL]
      cases z : decide ((k : Int) % p.pw = p.lo) <;> rw [z] at q <;> simpa using q
theorem cKept_ok : (cKept (ktop w.params) (PySem.W.ZFast.hKY w.params) kpI).Holds w where
  ad q σ := ⟨[], rfl⟩
  does q hc := by
    obtain ⟨p, ct, ey⟩ := q
    have hK : KeptOk p.nv p.pw ct := hc.1
    obtain ⟨rfl, hp, ne, le⟩ := hK
    refine (kp_loop le hp p.nv.length 0 loc0 [] ey (Nat.zero_add _) .z (Nat.le_refl _)).mono fun r G x => ?_
    obtain ⟨rfl, lo, e, hl, rfl⟩ := x
    obtain ⟨k, hk⟩ : ∃ k, p.nv.length = k + 1 := Nat.exists_eq_succ_of_ne_zero fun z => ne (List.length_eq_zero_iff.mp z)
    have : ∃ t1 t2, lo = loc1 "k" (PySem.W.ZFast.hKY w.params "k") t1 (.int ((p.nv.length : Int) - 1) t2) := by
      rw [hk] at hl ⊢
      cases hl with
      | s _ t1 t2 => exact ⟨t1, t2, by rw [show ((k + 1 : Nat) : Int) - 1 = (k : Int) by omega]⟩
    obtain ⟨t1, t2, rfl⟩ := this
    exact ⟨sg [t1, t2, e], sg_z (by simp), rfl, rfl⟩
theorem gn_turn {i : Nat} {lo : Obj} {ys : List Value} {ey : Nat} {y : Str} {ty : Tok} {r : Bool} {Q : Result → Sto → Prop} (hl : LoK "name" (PySem.W.ZFast.hKY w.params) (fun k _ => g.tv.getD k .none) i lo) (hi : i < g.tv.length) (hv : g.tv[i] = .str y ty) (hc : CT g.hv (.str y ty) r) (hn : g.tv.length ≤ 1000) (hy : ys.length ≤ i)
    (H : ∀ lo' ey', LoK "name" (PySem.W.ZFast.hKY w.params) (fun k _ => g.tv.getD k .none) (i + 1) lo' → Ends w 11 (g.C (ktop w.params)) (goE g lo' (liO g.th ((i + 1 : Nat) : Int)) (bif r then ys else ys ++ [.str y ty]) ey') Q) :
    Ends w 11 (g.C (ktop w.params)) (goE g lo (liO g.th (i : Int)) ys ey) Q := by
  have hit : ItemIs g.tv (i : Int) (.str y ty) := ⟨by omega, by omega, by rw [← hv]; simp [hi]⟩
  have hg : g.tv.getD i .none = .str y ty := by rw [← hv]; simp [hi]
  have hys : ys.length ≤ 100000 := by omega
  have hs : ∀ r, SOk w [sNext (.str y ty), sCont r, sApp apI] := fun r => ⟨cNext_ok.ok _ _, cCont_ok.ok _ _, cApp_ok.ok _ _, trivial⟩
  have F : ∀ t, LoK "name" (PySem.W.ZFast.hKY w.params) (fun k _ => g.tv.getD k .none) (i + 1) (loc1 "name" (PySem.W.ZFast.hKY w.params "name") t (.str y ty)) := fun t => by rw [← hg]; exact .s i t 0
  cases hl with
  | z =>
    cases r with
    | false => exact Ends.turn (fun n t σ => gn0t.eq_1 w.params (bOf w) (ktop w.params) theProg g _ y ty ys ey apI n t σ) rfl (hs _) (fun n t σ => gn0t_r w.params (bOf w) g _ y ty ys ey apI n t σ) (by decide) (fun _ _ _ _ => ⟨hys, hc, hit, trivial⟩) fun n t σ _ => H _ _ (F _)
    | true => exact Ends.turn (fun n t σ => gn0n.eq_1 w.params (bOf w) (ktop w.params) theProg g _ y ty ys ey apI n t σ) rfl (hs _) (fun n t σ => gn0n_r w.params (bOf w) g _ y ty ys ey apI n t σ) (by decide) (fun _ _ _ _ => ⟨hc, hit, trivial⟩) fun n t σ _ => H _ _ (F _)
  | s i t1 t2 =>
    cases r with
    | false => exact Ends.turn (fun n t σ => gn1t.eq_1 w.params (bOf w) (ktop w.params) theProg g _ y ty ys ey apI _ _ _ n t σ) rfl (hs _) (fun n t σ => gn1t_r w.params (bOf w) g _ y ty ys ey apI _ _ _ n t σ) (by decide) (fun _ _ _ _ => ⟨hys, hc, hit, trivial⟩) fun n t σ _ => H _ _ (F _)
    | true => exact Ends.turn (fun n t σ => gn1n.eq_1 w.params (bOf w) (ktop w.params) theProg g _ y ty ys ey apI _ _ _ n t σ) rfl (hs _) (fun n t σ => gn1n_r w.params (bOf w) g _ y ty ys ey apI _ _ _ n t σ) (by decide) (fun _ _ _ _ => ⟨hc, hit, trivial⟩) fun n t σ _ => H _ _ (F _)
theorem gn_loop {ss pss : List Str} (hs : StrsAre g.tv ss) (ps : StrsAre g.hv pss) (hn : g.tv.length ≤ 1000) : ∀ (m i : Nat) (lo : Obj) (ys : List Value) (ey : Nat), i + m = g.tv.length → LoK "name" (PySem.W.ZFast.hKY w.params) (fun k _ => g.tv.getD k .none) i lo → ys.length ≤ i →
    Ends w 11 (g.C (ktop w.params)) (goE g lo (liO g.th (i : Int)) ys ey) (fun r G => r = .ok .next ∧ ∃ lo' e, LoK "name" (PySem.W.ZFast.hKY w.params) (fun k _ => g.tv.getD k .none) g.tv.length lo' ∧ G = goE g lo' (liEnd (g.tv.length : Int)) (ys ++ fiI false (g.tv.drop i) g.hv) e)
  | 0, i, lo, ys, ey, hi, hl, hy => by
    have hi : i = g.tv.length := hi
    subst hi
    refine Ends.fin (fun n t σ => gnz.eq_1 w.params (bOf w) (ktop w.params) theProg g _ lo ys ey n t σ) rfl ⟨cNextEnd_ok.ok _ _, trivial⟩ (fun n t σ => gnz_r w.params (bOf w) g _ lo ys ey n t σ) (by decide) (fun _ _ _ _ => ⟨⟨by omega⟩, trivial⟩) fun n t σ _ => ?_
    rw [List.drop_length]
    unfold fiI
    rw [List.filter_nil, List.append_nil]
    exact ⟨rfl, _, _, hl, rfl⟩
  | m + 1, i, lo, ys, ey, hi, hl, hy => by
    have hlt : i < g.tv.length := by omega
    obtain ⟨y, ty, hv, -⟩ := strsAre_get hs i g.tv[i] (List.getElem?_eq_getElem hlt)
    have hm : g.hv.map sOf = pss := strsAre_map ps
    refine gn_turn (r := decide (y ∈ pss)) hl hlt hv ⟨pss, y, ty, ps, rfl, rfl⟩ hn hy fun lo' ey' hl' => (gn_loop hs ps hn m (i + 1) lo' _ ey' (by omega) hl' ?_).mono fun r G q => ?_
    · cases decide (y ∈ pss) <;> simp <;> omega
    · have e : fiI false (g.tv.drop i) g.hv = (bif decide (y ∈ pss) then [] else [.str y ty]) ++ fiI false (g.tv.drop (i + 1)) g.hv := by
        unfold fiI
        rw [List.drop_eq_getElem_cons hlt, List.filter_cons, hv, hm]
        show (if (decide (y ∈ pss) == false) = true then _ else _) = _
        cases decide (y ∈ pss) <;> rfl
      rw [e]
      cases z : decide (y ∈ pss) <;> rw [z] at q <;> simpa using q
theorem cGone_ok : (cGone (ktop w.params) (PySem.W.ZFast.hKY w.params) fiI).Holds w where
  ad q σ := ⟨[], rfl⟩
  does q hc := by
    obtain ⟨g, ey⟩ := q
    have hS : SpOk g.tv g.hv := hc.1
    obtain ⟨⟨ss, hs⟩, ⟨pss, ps⟩, ne, le⟩ := hS
    refine (gn_loop hs ps le g.tv.length 0 loc0 [] ey (Nat.zero_add _) .z (Nat.le_refl _)).mono fun r G x => ?_
    obtain ⟨rfl, lo, e, hl, rfl⟩ := x
    obtain ⟨k, hk⟩ : ∃ k, g.tv.length = k + 1 := Nat.exists_eq_succ_of_ne_zero fun z => ne (List.length_eq_zero_iff.mp z)
    have : ∃ t1, lo = loc1 "name" (PySem.W.ZFast.hKY w.params "name") t1 (lastV g.tv) := by
      unfold lastV
      rw [hk] at hl ⊢
      cases hl with
      | s _ t1 t2 => exact ⟨t1, rfl⟩
    obtain ⟨t1, rfl⟩ := this
    exact ⟨sg [t1, e], sg_z (by simp), rfl, rfl⟩
end
end Mine
end
section
open PySem PySem.W PySem.W.X PyProof.Rows
namespace Mine
noncomputable def cContF (ct : List Value → Value → Bool) : Con LsP := cLs "list.__contains__" (fun vs x => CT vs x (ct vs x)) (fun vs x _ => .bool (ct vs x))
noncomputable abbrev sContF (ct : List Value → Value → Bool) : SumFn := sumE (cContF ct) 1 gLs
structure IXB (vs : List Value) (v : Value) (j : Nat) : Prop where
  v : v = .bool true
  ix : ∃ bs : List Bool, vs = bs.map Value.bool ∧ j < 1000 ∧ bs[j]? = some true ∧ ∀ m, m < j → bs[m]? ≠ some true
noncomputable def cIdxB (j : Nat) : Con LsP := cLs "list.index" (fun vs v => IXB vs v j) (fun _ _ k => .int (j : Int) k)
noncomputable abbrev sIdxB (j : Nat) : SumFn := sumE (cIdxB j) 1 gLs
noncomputable def cSlF (f : List Value → List Value) : Con SlP where
  lv := 0
  co p := .builtin "list.__getitem__" ⟨[.ref p.a, .ref p.s], []⟩
  E p := [(p.a, lst p.vs p.ep), (p.s, slO p.lo p.hi)]
  cs p := [SlIs p.vs (partV p.lo) (partV p.hi) (f p.vs), (isPartB p.lo && isPartB p.hi) = true]
  res p σ := .ok (.ret (.ref (σ 0)))
  E' p σ := [(p.a, lst p.vs p.ep), (p.s, slO p.lo p.hi), (σ 0, lst (f p.vs) 0)]
noncomputable abbrev sSlF (f : List Value → List Value) : SumFn := sumE (cSlF f) 2 gSl
noncomputable def cCatF (f : List Value → List Value → List Value) : Con L2P where
  lv := 0
  co p := .builtin "list.__add__" ⟨[.ref p.a, .ref p.b], []⟩
  E p := p.E
  cs p := [CatIs p.vs p.us (f p.vs p.us)]
  res p σ := .ok (.ret (.ref (σ 0)))
  E' p σ := [(p.a, lst p.vs p.ep), (p.b, lst p.us p.eq), (σ 0, lst (f p.vs p.us) 0)]
noncomputable abbrev sCatF (f : List Value → List Value → List Value) : SumFn := sumE (cCatF f) 2 gL2
noncomputable def ordV (tkn : List Value → Nat → Tok) (cat : List Value → List Value → List Value) (q : Nat → Nat) (W : Nat) (vs us : List Value) : List Value := upN (fun i => .int (q i : Int) (tkn (cat vs us) i)) W 0
structure LaidOk (vs : List Value) (v : Value) (j : Nat) : Prop where
  it : ItemV vs v (.ref (refI vs j))
noncomputable def cLaid (j : Nat) : Con LsP := cLs "list.__getitem__" (fun vs v => LaidOk vs v j) (fun vs _ _ => .ref (refI vs j))
noncomputable abbrev sLaid (j : Nat) : SumFn := sumE (cLaid j) 1 gLs
noncomputable def posQ (q : Nat → Nat) (j : Nat) : Nat → Nat
  | 0 => 0
  | k + 1 => match Nat.beq (q k) j with
    | true => k
    | false => posQ q j k
noncomputable def upQ (q : Nat → Nat) : Nat → Nat → List Nat
  | 0, _ => []
  | k + 1, i => q i :: upQ q k (i + 1)
noncomputable def upL (f : Nat → List Value) : Nat → Nat → List (List Value)
  | 0, _ => []
  | k + 1, i => f i :: upL f k (i + 1)
noncomputable def selI : List (List Value) → Nat → List Value
  | [], _ => []
  | a :: _, 0 => a
  | _ :: r, i + 1 => selI r i
structure GnP where
  (lx d st pl pls el oa eo ed : Nat) (o1 : LexD) (pv : List Value) (q : Nat → Nat) (ot : Nat → Tok) (Ls : List (List Value)) (eps : Nat → Nat) (tps : Nat → Tok) (x : Nat → LexD)
section
variable (sel : List (List Value) → Nat → List Value)
noncomputable def GnP.na (p : GnP) : GaP := ⟨p.lx, p.d, p.st, p.pl, p.pls, p.el, p.oa, p.eo, p.ed, p.o1, p.pv, p.q, p.ot, fun _ => ⟨#[]⟩, fun _ => 0, fun _ => [], p.eps, p.tps, p.x⟩
noncomputable def GnP.qd (p : GnP) : GaP := ⟨p.lx, p.d, p.st, p.pl, p.pls, p.el, p.oa, p.eo, p.ed, p.o1, p.pv, p.q, p.ot, fun i => sOf ((sel p.Ls (p.q i)).headD .none), fun i => tokV ((sel p.Ls (p.q i)).headD .none), fun i => (sel p.Ls (p.q i)).tail, fun i => p.eps (p.q i), fun i => p.tps (p.q i), fun i => p.x (p.q i)⟩
structure GnOk (W : Nat) (q : List Nat) (Ls : List (List Value)) (pv : List Value) (mc : Nat → Mc) : Prop where
  q : q.Perm (List.range W)
  L : ∀ i, i < W → ∃ y t vr, sel Ls i = .str y t :: vr ∧ y ≠ ⟨#[]⟩ ∧ vr.length ≤ 10 ∧ ∃ ss, StrsAre vr ss ∧ ∀ y ∈ ss, y ≠ ⟨#[]⟩
  pv : pv = upN (fun j => .ref (mc j).lx) W 0
noncomputable def gnRow (cat : List Value → List Value → List Value) (W : Nat) (p : GnP) : List Value := gaRow cat (fun i => sel p.Ls (p.q i)) W
noncomputable def gnOut (K : KT) (rc : Nat) (kk : Nat → Nat) (mc : Nat → Mc) (W : Nat) (cat : List Value → List Value → List Value) (p : GnP) (σ : Nat → Nat) : Sto :=
  gaE K rc kk mc W p.na (gnRow sel cat W p) (σ 1) (fun i => lst [] (σ (4 + i))) (fun i => σ (8 + i)) ++ [(σ 0, lst (gnRow sel cat W p) (σ 2))]
noncomputable def cGn (K : KT) (rc : Nat) (kk : Nat → Nat) (mc : Nat → Mc) (W : Nat) (cat : List Value → List Value → List Value) : Con GnP where
  lv := 18
  co p := .call (.ref 134) ⟨[.ref p.lx, .ref p.pls, .ref p.oa], []⟩
  E p := gaE K rc kk mc W p.na [] p.ed (fun i => lst (selI p.Ls i) (p.eps i)) p.tps
  cs p := [GnOk sel W (upQ p.q W 0) p.Ls p.pv mc]
  res p σ := .ok (.ret (.ref (σ 0)))
  E' p σ := gnOut sel K rc kk mc W cat p σ
noncomputable def gGn (W : Nat) (co : Code) (es : List En) : GnP :=
  ⟨refV ((argsOf co).getD 0 .none), dictN (eO es 0), refV (entryAt (eO es 1) 1).val, refV (entryAt (eO es 1) 3).val, refV ((argsOf co).getD 1 .none), epO (eO es 3), refV ((argsOf co).getD 2 .none), epO (eO es 4), epO (eO es 2), lexOf (eO es 1), getV (eO es 3),
    fun i => (intV (itemV (eO es 4) i)).toNat, fun i => tokV (itemV (eO es 4) i), upL (fun i => getV (eO es (6 + 9 * i + 8))) W 0, fun i => epO (eO es (6 + 9 * i + 8)), fun i => tokV (itemV (eO es (6 + 9 * i + 7)) 0), fun i => lexOf (eO es (6 + 9 * i + 6))⟩
noncomputable abbrev sGn (K : KT) (rc : Nat) (kk : Nat → Nat) (mc : Nat → Mc) (W : Nat) (cat : List Value → List Value → List Value) : SumFn := sumE (cGn sel K rc kk mc W cat) (6 + 9 * W) (gGn W)
structure PnP where
  (hd : Nat) (hv : List Value) (eh ld : Nat) (lav : List Value) (el : Nat) (Ls : List (List Value)) (eps : Nat → Nat) (c : Nat)
noncomputable def PnP.pl (p : PnP) (j : Nat) : Sto := [(refI p.lav j, lst (selI p.Ls j) (p.eps j))]
noncomputable def PnP.pa (p : PnP) (to : Nat) : PaP := ⟨p.hd, p.hv, p.eh, refI p.lav to, sel p.Ls to, p.eps to, p.c⟩
noncomputable def pnN (p : PnP) (to : Nat) (fi : Bool → List Value → List Value → List Value) (σ : Nat → Nat) : Sto := [(σ 1, tup [.ref (σ 2), .ref (σ 3)]), (σ 2, lst (fi true p.hv (sel p.Ls to)) (σ 4)), (σ 3, lst (fi false p.hv (sel p.Ls to)) (σ 5))]
noncomputable def cPnE (W to : Nat) (fi : Bool → List Value → List Value → List Value) : Con PnP where
  lv := 14
  co p := .call (.ref 141) ⟨[.ref p.hd, .ref (refI p.lav to)], []⟩
  E p := (136, tableOf []) :: (p.hd, lst p.hv p.eh) :: (p.ld, lst p.lav p.el) :: flS p.pl W 0
  cs p := [to < W, SpOk p.hv (sel p.Ls to)]
  res p σ := .ok (.ret (.ref (σ 1)))
  E' p σ := (136, t136 (σ 0)) :: (p.hd, lst p.hv p.eh) :: (p.ld, lst p.lav p.el) :: (flS p.pl W 0 ++ ((σ 0, code136 (fun i => σ (10 + i))) :: pnN sel p to fi σ))
noncomputable def gPn (b W : Nat) (co : Code) (es : List En) : PnP := ⟨refV ((argsOf co).getD 0 .none), getV (eO es 1), epO (eO es 1), eA es 2, getV (eO es 2), epO (eO es 2), upL (fun j => getV (eO es (b + j))) W 0, fun j => epO (eO es (b + j)), refV (fldF (eO es 0) 2)⟩
noncomputable abbrev sPnE (W to : Nat) (fi : Bool → List Value → List Value → List Value) : SumFn := sumE (cPnE sel W to fi) (3 + W) (gPn 3 W)
noncomputable def cPnF (W to : Nat) (fi : Bool → List Value → List Value → List Value) (kc : Nat → Nat) : Con PnP where
  lv := 14
  co p := .call (.ref 141) ⟨[.ref p.hd, .ref (refI p.lav to)], []⟩
  E p := (136, t136 p.c) :: (p.hd, lst p.hv p.eh) :: (p.ld, lst p.lav p.el) :: (p.c, code136 kc) :: flS p.pl W 0
  cs p := [to < W, SpOk p.hv (sel p.Ls to)]
  res p σ := .ok (.ret (.ref (σ 1)))
  E' p σ := (136, t136 p.c) :: (p.hd, lst p.hv p.eh) :: (p.ld, lst p.lav p.el) :: (p.c, code136 kc) :: (flS p.pl W 0 ++ pnN sel p to fi σ)
noncomputable abbrev sPnF (W to : Nat) (fi : Bool → List Value → List Value → List Value) (kc : Nat → Nat) : SumFn := sumE (cPnF sel W to fi kc) (4 + W) (gPn 4 W)
end
noncomputable def othV (to : Nat) (τ : Nat → Tok) : Nat → Nat → List Value
  | 0, _ => []
  | m + 1, k => match Nat.beq k to with
    | true => othV to τ m (k + 1)
    | false => .int (k : Int) (τ k) :: othV to τ m (k + 1)
noncomputable def othE (K : KT) : Expr := valS (nthS (turnStmts K) 2)
structure OtP where
  (it acc loc fr ce : Nat) (tt : Tok) (ey : Nat)
noncomputable def OtP.C (K : KT) (p : OtP) : Code := compC K (othE K) p.it p.acc p.loc p.fr [("told", p.ce)]
noncomputable def otE (p : OtP) (to : Nat) (lo it : Obj) (ys : List Value) (ey : Nat) : Sto := [(p.ce, cellOf (.int (to : Int) p.tt)), (p.loc, lo), (p.it, it), (p.acc, lst ys ey)]
noncomputable def cOth (K : KT) (hf : Str → Int) (W to : Nat) (oth : (Nat → Tok) → List Value) : Con OtP where
  lv := 8
  co p := p.C K
  E p := otE p to loc0 (riO 0 (W : Int)) [] p.ey
  cs p := [to < W]
  res p σ := .ok .next
  E' p σ := otE p to (loc1 "k" (hf "k") (σ 0) (.int ((W : Int) - 1) (σ 1))) (riO (W : Int) 0) (oth fun i => σ (3 + i)) (σ 2)
noncomputable def gOt (co : Code) (es : List En) : OtP := ⟨itCc co, accC co, locC co, frmC co, celC co 0, tokV (cellV (eO es 0)), epO (eO es 3)⟩
noncomputable abbrev sOth (K : KT) (hf : Str → Int) (W to : Nat) (oth : (Nat → Tok) → List Value) : SumFn := sumE (cOth K hf W to oth) 4 gOt
noncomputable def otDev : OtP := ⟨101, 102, 103, 104, 105, 201, 5⟩
@[irreducible] noncomputable def otd (P : Params) (b : Bool) (K : KT) (pg : Program) (W to : Nat) (p : OtP) (orc : List Nat) (n t : Nat) (σ : Nat → Nat) : Ou :=
  goC (mkW P b K pg []) 4000 8 (p.C K)
  (otE p to loc0 (riO 0 (W : Int)) [] p.ey) n t σ
  orc
theorem otd_id : @otd = @otd := rfl
lay_z Mine.otd
end Mine
name_z otdY for Mine.otd by Mine.otd_id
namespace Mine
theorem ot20_r (P : Params) (b : Bool) (p : OtP) (n t : Nat) (σ : Nat → Nat) : Go0 (.ok .next) (List.range 4) (otE p 0 (loc1 "k" (PySem.W.ZFast.hKY P "k") (t + 1) (.int ((2 : Int) - 1) (t + 2))) (riO (2 : Int) 0) (othV 0 (kL [t, t + 2, t + 4, t + 6]) 2 0) (p.ey + 1)) [] (otd P b (ktop P) theProg 2 0 p [3,0,3,0,3,3,3,3,3,3,3,2,2,2,1,0,0,0,3,0,3,0,3,3,3,3,3,3,3,2,2,2,1,0,0,2,0,4,0,4,4,4,0,3,0,3,0,3,3,3,6] n t σ) := by
  rw [PySem.W.ZFast.otdY_eq]
  cases b <;> refine ⟨⟨?_, ?_, ?_, ?_, ?_, ?_⟩, ?_, ?_, ?_⟩ <;> kernel_rfl
theorem ot21_r (P : Params) (b : Bool) (p : OtP) (n t : Nat) (σ : Nat → Nat) : Go0 (.ok .next) (List.range 4) (otE p 1 (loc1 "k" (PySem.W.ZFast.hKY P "k") (t + 1) (.int ((2 : Int) - 1) (t + 2))) (riO (2 : Int) 0) (othV 1 (kL [t, t + 2, t + 4, t + 6]) 2 0) (p.ey + 1)) [] (otd P b (ktop P) theProg 2 1 p [3,0,3,0,3,3,3,3,3,3,3,2,2,2,1,0,0,2,0,4,0,4,4,4,0,3,0,3,0,3,3,3,3,3,3,3,2,2,2,1,0,0,0,3,0,3,0,3,3,3,6] n t σ) := by
  rw [PySem.W.ZFast.otdY_eq]
  cases b <;> refine ⟨⟨?_, ?_, ?_, ?_, ?_, ?_⟩, ?_, ?_, ?_⟩ <;> kernel_rfl
theorem ot30_r (P : Params) (b : Bool) (p : OtP) (n t : Nat) (σ : Nat → Nat) : Go0 (.ok .next) (List.range 4) (otE p 0 (loc1 "k" (PySem.W.ZFast.hKY P "k") (t + 1) (.int ((3 : Int) - 1) (t + 4))) (riO (3 : Int) 0) (othV 0 (kL [t, t + 2, t + 4, t + 6]) 3 0) (p.ey + 2)) [] (otd P b (ktop P) theProg 3 0 p [3,0,3,0,3,3,3,3,3,3,3,2,2,2,1,0,0,0,3,0,3,0,3,3,3,3,3,3,3,2,2,2,1,0,0,2,0,4,0,4,4,4,0,3,0,3,0,3,3,3,3,3,3,3,2,2,2,1,0,0,2,0,4,0,4,4,4,0,3,0,3,0,3,3,3,6] n t σ) := by
  rw [PySem.W.ZFast.otdY_eq]
  cases b <;> refine ⟨⟨?_, ?_, ?_, ?_, ?_, ?_⟩, ?_, ?_, ?_⟩ <;> kernel_rfl
theorem ot31_r (P : Params) (b : Bool) (p : OtP) (n t : Nat) (σ : Nat → Nat) : Go0 (.ok .next) (List.range 4) (otE p 1 (loc1 "k" (PySem.W.ZFast.hKY P "k") (t + 1) (.int ((3 : Int) - 1) (t + 4))) (riO (3 : Int) 0) (othV 1 (kL [t, t + 2, t + 4, t + 6]) 3 0) (p.ey + 2)) [] (otd P b (ktop P) theProg 3 1 p [3,0,3,0,3,3,3,3,3,3,3,2,2,2,1,0,0,2,0,4,0,4,4,4,0,3,0,3,0,3,3,3,3,3,3,3,2,2,2,1,0,0,0,3,0,3,0,3,3,3,3,3,3,3,2,2,2,1,0,0,2,0,4,0,4,4,4,0,3,0,3,0,3,3,3,6] n t σ) := by
  rw [PySem.W.ZFast.otdY_eq]
  cases b <;> refine ⟨⟨?_, ?_, ?_, ?_, ?_, ?_⟩, ?_, ?_, ?_⟩ <;> kernel_rfl
theorem ot32_r (P : Params) (b : Bool) (p : OtP) (n t : Nat) (σ : Nat → Nat) : Go0 (.ok .next) (List.range 4) (otE p 2 (loc1 "k" (PySem.W.ZFast.hKY P "k") (t + 1) (.int ((3 : Int) - 1) (t + 4))) (riO (3 : Int) 0) (othV 2 (kL [t, t + 2, t + 4, t + 6]) 3 0) (p.ey + 2)) [] (otd P b (ktop P) theProg 3 2 p [3,0,3,0,3,3,3,3,3,3,3,2,2,2,1,0,0,2,0,4,0,4,4,4,0,3,0,3,0,3,3,3,3,3,3,3,2,2,2,1,0,0,2,0,4,0,4,4,4,0,3,0,3,0,3,3,3,3,3,3,3,2,2,2,1,0,0,0,3,0,3,0,3,3,3,6] n t σ) := by
  rw [PySem.W.ZFast.otdY_eq]
  cases b <;> refine ⟨⟨?_, ?_, ?_, ?_, ?_, ?_⟩, ?_, ?_, ?_⟩ <;> kernel_rfl
theorem ot40_r (P : Params) (b : Bool) (p : OtP) (n t : Nat) (σ : Nat → Nat) : Go0 (.ok .next) (List.range 4) (otE p 0 (loc1 "k" (PySem.W.ZFast.hKY P "k") (t + 1) (.int ((4 : Int) - 1) (t + 6))) (riO (4 : Int) 0) (othV 0 (kL [t, t + 2, t + 4, t + 6]) 4 0) (p.ey + 3)) [] (otd P b (ktop P) theProg 4 0 p [3,0,3,0,3,3,3,3,3,3,3,2,2,2,1,0,0,0,3,0,3,0,3,3,3,3,3,3,3,2,2,2,1,0,0,2,0,4,0,4,4,4,0,3,0,3,0,3,3,3,3,3,3,3,2,2,2,1,0,0,2,0,4,0,4,4,4,0,3,0,3,0,3,3,3,3,3,3,3,2,2,2,1,0,0,2,0,4,0,4,4,4,0,3,0,3,0,3,3,3,6] n t σ) := by
  rw [PySem.W.ZFast.otdY_eq]
  cases b <;> refine ⟨⟨?_, ?_, ?_, ?_, ?_, ?_⟩, ?_, ?_, ?_⟩ <;> kernel_rfl
theorem ot41_r (P : Params) (b : Bool) (p : OtP) (n t : Nat) (σ : Nat → Nat) : Go0 (.ok .next) (List.range 4) (otE p 1 (loc1 "k" (PySem.W.ZFast.hKY P "k") (t + 1) (.int ((4 : Int) - 1) (t + 6))) (riO (4 : Int) 0) (othV 1 (kL [t, t + 2, t + 4, t + 6]) 4 0) (p.ey + 3)) [] (otd P b (ktop P) theProg 4 1 p [3,0,3,0,3,3,3,3,3,3,3,2,2,2,1,0,0,2,0,4,0,4,4,4,0,3,0,3,0,3,3,3,3,3,3,3,2,2,2,1,0,0,0,3,0,3,0,3,3,3,3,3,3,3,2,2,2,1,0,0,2,0,4,0,4,4,4,0,3,0,3,0,3,3,3,3,3,3,3,2,2,2,1,0,0,2,0,4,0,4,4,4,0,3,0,3,0,3,3,3,6] n t σ) := by
  rw [PySem.W.ZFast.otdY_eq]
  cases b <;> refine ⟨⟨?_, ?_, ?_, ?_, ?_, ?_⟩, ?_, ?_, ?_⟩ <;> kernel_rfl
theorem ot42_r (P : Params) (b : Bool) (p : OtP) (n t : Nat) (σ : Nat → Nat) : Go0 (.ok .next) (List.range 4) (otE p 2 (loc1 "k" (PySem.W.ZFast.hKY P "k") (t + 1) (.int ((4 : Int) - 1) (t + 6))) (riO (4 : Int) 0) (othV 2 (kL [t, t + 2, t + 4, t + 6]) 4 0) (p.ey + 3)) [] (otd P b (ktop P) theProg 4 2 p [3,0,3,0,3,3,3,3,3,3,3,2,2,2,1,0,0,2,0,4,0,4,4,4,0,3,0,3,0,3,3,3,3,3,3,3,2,2,2,1,0,0,2,0,4,0,4,4,4,0,3,0,3,0,3,3,3,3,3,3,3,2,2,2,1,0,0,0,3,0,3,0,3,3,3,3,3,3,3,2,2,2,1,0,0,2,0,4,0,4,4,4,0,3,0,3,0,3,3,3,6] n t σ) := by
  rw [PySem.W.ZFast.otdY_eq]
  cases b <;> refine ⟨⟨?_, ?_, ?_, ?_, ?_, ?_⟩, ?_, ?_, ?_⟩ <;> kernel_rfl
theorem ot43_r (P : Params) (b : Bool) (p : OtP) (n t : Nat) (σ : Nat → Nat) : Go0 (.ok .next) (List.range 4) (otE p 3 (loc1 "k" (PySem.W.ZFast.hKY P "k") (t + 1) (.int ((4 : Int) - 1) (t + 6))) (riO (4 : Int) 0) (othV 3 (kL [t, t + 2, t + 4, t + 6]) 4 0) (p.ey + 3)) [] (otd P b (ktop P) theProg 4 3 p [3,0,3,0,3,3,3,3,3,3,3,2,2,2,1,0,0,2,0,4,0,4,4,4,0,3,0,3,0,3,3,3,3,3,3,3,2,2,2,1,0,0,2,0,4,0,4,4,4,0,3,0,3,0,3,3,3,3,3,3,3,2,2,2,1,0,0,2,0,4,0,4,4,4,0,3,0,3,0,3,3,3,3,3,3,3,2,2,2,1,0,0,0,3,0,3,0,3,3,3,6] n t σ) := by
  rw [PySem.W.ZFast.otdY_eq]
  cases b <;> refine ⟨⟨?_, ?_, ?_, ?_, ?_, ?_⟩, ?_, ?_, ?_⟩ <;> kernel_rfl
section
variable {w : World}
theorem cContF_ok {ct : List Value → Value → Bool} : (cContF ct).Holds w where
  ad p σ := ⟨[], (List.append_nil _).symm⟩
  does p hc := (cCont_ok (r := ct p.vs p.v)).does p hc
noncomputable def isTr : Value → Bool
  | .bool b => b == true
  | _ => false
theorem cIdxB_ok {j : Nat} : (cIdxB j).Holds w := cLs_ok fun l vs ep v hc A h g d t os hE R H => by
  obtain ⟨rfl, bs, rfl, hj, h1, h2⟩ := hc
  obtain ⟨hl, -⟩ := List.getElem?_eq_some_iff.mp h1
  have hv : ∀ m (hm : m < (bs.map Value.bool).toArray.size), isTr (bs.map Value.bool).toArray[m] = decide (bs[m]? = some true) := fun m hm => by
    have hm' : m < bs.length := by simpa using hm
    simp only [List.getElem_toArray, List.getElem_map, List.getElem?_eq_getElem hm']
    cases bs[m] <;> rfl
  refine code_meets F.entry_list_index plain_index (SeqAt.list_indexAt l (bs.map Value.bool).toArray ep none #[] (.bool true) isTr j (by simpa using hl) (by omega) (by rw [hv]; simp [h1]) (fun m hm hlt => by rw [hv]; simp [h2 m hlt])) ⟨hE, fun v hv => ?_, H _ _ _ ⟨rfl, _, rfl⟩⟩
  obtain ⟨b, -, rfl⟩ := List.mem_map.mp (show v ∈ bs.map Value.bool by simpa using hv)
  exact SeqAt.EqAt.bool_bool b true
theorem cSlF_ok {f : List Value → List Value} : (cSlF f).Holds w where
  ad p σ := ⟨[σ 0], rfl⟩
  does p hc := (cSl_ok (xs := f p.vs)).does p hc
theorem cCatF_ok {f : List Value → List Value → List Value} : (cCatF f).Holds w where
  ad p σ := ⟨[σ 0], rfl⟩
  does p hc := (cCat_ok (xs := f p.vs p.us)).does p hc
theorem cLaid_ok {j : Nat} : (cLaid j).Holds w where
  ad p σ := ⟨[], (List.append_nil _).symm⟩
  does p hc := (cItem_ok (r := .ref (refI p.vs j))).does p ⟨hc.1.it, trivial⟩
theorem flS_eq (f : Nat → Sto) : ∀ k i, flS f k i = (List.range k).flatMap fun x => f (i + x)
  | 0, _ => rfl
  | k + 1, i => by
    rw [flS, flS_eq f k (i + 1), List.range_succ_eq_map, List.flatMap_cons, List.flatMap_map]
    refine congrArg (f i ++ ·) ?_
    simp only [Nat.add_assoc, Nat.add_comm 1]
theorem flS0 (f : Nat → Sto) (k : Nat) : flS f k 0 = (List.range k).flatMap f := by rw [flS_eq]; simp only [Nat.zero_add]
theorem flS_perm {W : Nat} {q : Nat → Nat} (h : ((List.range W).map q).Perm (List.range W)) (f : Nat → Sto) : (flS (fun i => f (q i)) W 0).Perm (flS f W 0) := by
  rw [flS0, flS0, ← List.flatMap_map (f := q) (g := f)]
  exact h.flatMap_right f
theorem flS_congr {W : Nat} {f g : Nat → Sto} (h : ∀ i, i < W → f i = g i) : flS f W 0 = flS g W 0 := by
  rw [flS0, flS0]; exact flat_congr h
noncomputable def gnS (W : Nat) (q : Nat → Nat) (σ : Nat → Nat) (i : Nat) : Nat :=
  if i < 4 then σ i else if i < 8 then σ (4 + posQ q (i - 4) W) else if i < 12 then σ (8 + posQ q (i - 8) W) else 0
theorem upN_get (f : Nat → Value) : ∀ k i x, x < k → (upN f k i)[x]? = some (f (i + x)) := fun k i x h => by
  rw [upN_eq]; simp [h]
theorem upQ_eq (q : Nat → Nat) : ∀ k i, upQ q k i = (List.range k).map fun x => q (i + x)
  | 0, _ => rfl
  | k + 1, i => by
    rw [upQ, upQ_eq q k (i + 1), List.range_succ_eq_map, List.map_cons, List.map_map]
    refine congrArg (q i :: ·) (List.map_congr_left fun x _ => ?_)
    show q (i + 1 + x) = q (i + (x + 1))
    rw [Nat.add_assoc, Nat.add_comm 1 x]
theorem upQ_perm {W : Nat} {q : Nat → Nat} (h : (upQ q W 0).Perm (List.range W)) : ((List.range W).map q).Perm (List.range W) := by
  rw [upQ_eq] at h
  simpa using h
theorem posQ_eq {q : Nat → Nat} {i : Nat} : ∀ {W : Nat}, ((List.range W).map q).Nodup → i < W → posQ q (q i) W = i
  | 0, _, h => absurd h (by omega)
  | k + 1, hn, hi => by
    rw [List.range_succ, List.map_append, List.nodup_append] at hn
    unfold posQ
    cases e : Nat.beq (q k) (q i) with
    | true =>
      have e := Nat.eq_of_beq_eq_true e
      by_cases z : i = k
      · exact z.symm
      · exact absurd e.symm (hn.2.2 _ (List.mem_map_of_mem (List.mem_range.mpr (show i < k by omega))) _ (by simp))
    | false =>
      refine posQ_eq hn.1 ?_
      have : i ≠ k := fun z => by rw [z, Nat.beq_refl] at e; cases e
      omega
theorem gn_cs {mc : Nat → Mc} {rc : Nat} {kk : Nat → Nat} {W : Nat} {p : GnP} (hW : W ≤ 4) (H : GnOk selI W (upQ p.q W 0) p.Ls p.pv mc) : ∀ k, k ≤ W → (gaRow catI (p.qd selI).L k).length ≤ 11 * k ∧ AllP (gaCs (fun i => mc (p.q i)) rc kk catI (p.qd selI) k)
  | 0, _ => ⟨Nat.le_refl _, trivial⟩
  | k + 1, hk => by
    obtain ⟨l1, a1⟩ := gn_cs hW H k (by omega)
    have hq : p.q k < W := List.mem_range.mp ((upQ_perm H.q).mem_iff.mp (List.mem_map_of_mem (List.mem_range.mpr hk)))
    obtain ⟨y, t, vr, e, hy, hl, ss, hs, hn⟩ := H.L (p.q k) hq
    have e1 : (p.qd selI).y k = y := by show sOf ((selI p.Ls (p.q k)).headD .none) = y; rw [e]; rfl
    have e2 : (p.qd selI).vr k = vr := by show (selI p.Ls (p.q k)).tail = vr; rw [e]; rfl
    have hi : ItemV p.pv (.int (p.q k : Int) (p.ot k)) (.ref (mc (p.q k)).lx) := ⟨_, _, rfl, Int.natCast_nonneg _, by omega, by
      rw [H.pv, Int.toNat_natCast, upN_get _ _ _ _ hq, Nat.zero_add]⟩
    refine ⟨?_, ⟨hi, by rw [e1]; exact hy, by rw [e2]; exact ⟨ss, hs, hn⟩, by rw [e2]; omega, by rw [e2]; omega, by rw [e2]; omega⟩, by rw [e2]; omega, hi, a1⟩
    show (gaRow catI (p.qd selI).L k ++ Value.str ((p.qd selI).y k) _ :: (p.qd selI).vr k).length ≤ _
    rw [List.length_append, List.length_cons, e2]
    omega
theorem gn_row {mc : Nat → Mc} {W : Nat} {p : GnP} (H : GnOk selI W (upQ p.q W 0) p.Ls p.pv mc) : ∀ k, k ≤ W → gaRow catI (p.qd selI).L k = gaRow catI (fun i => selI p.Ls (p.q i)) k
  | 0, _ => rfl
  | k + 1, hk => by
    have hq : p.q k < W := List.mem_range.mp ((upQ_perm H.q).mem_iff.mp (List.mem_map_of_mem (List.mem_range.mpr hk)))
    obtain ⟨y, t, vr, e, -⟩ := H.L (p.q k) hq
    rw [gaRow, gaRow, gn_row H k (by omega)]
    refine congrArg (catI _) ?_
    show Value.str (sOf ((selI p.Ls (p.q k)).headD .none)) (tokV ((selI p.Ls (p.q k)).headD .none)) :: (selI p.Ls (p.q k)).tail = selI p.Ls (p.q k)
    rw [e]; rfl
theorem cGn_ok {rc : Nat} {kk : Nat → Nat} {mc : Nat → Mc} {W : Nat} (hW : W = 2 ∨ W = 3 ∨ W = 4) (hm : ∀ i, (mc i).sheet = ⟨#[]⟩) : (cGn selI (ktop w.params) rc kk mc W catI).Holds w where
  ad p σ := ⟨[σ 0], (Sto.ad_app _ _).trans (congrArg (· ++ [σ 0]) gaE_ad)⟩
  does p hc := by
    have H : GnOk selI W (upQ p.q W 0) p.Ls p.pv mc := hc.1
    have hp := upQ_perm H.q
    have hq : ∀ i, i < W → posQ p.q (p.q i) W = i := fun i hi => posQ_eq (hp.nodup_iff.mpr List.nodup_range) hi
    have w4 : W ≤ 4 := by omega
    have hlt : ∀ i, i < W → p.q i < W := fun i hi => List.mem_range.mp (hp.mem_iff.mp (List.mem_map_of_mem (List.mem_range.mpr hi)))
    have eL : ∀ i, i < W → (p.qd selI).L i = selI p.Ls (p.q i) := fun i hi => by
      obtain ⟨y, t, vr, e, -⟩ := H.L (p.q i) (hlt i hi)
      show Value.str (sOf ((selI p.Ls (p.q i)).headD .none)) (tokV ((selI p.Ls (p.q i)).headD .none)) :: (selI p.Ls (p.q i)).tail = selI p.Ls (p.q i)
      rw [e]; rfl
    have e0 := flS_congr (W := W) (f := fun i => ((mc (p.q i)).R rc kk).O9 (ktop w.params) (p.x (p.q i)) (lst [.int 0 (p.tps (p.q i))] 0) (lst ((p.qd selI).L i) (p.eps (p.q i)))) (g := fun i => ((mc (p.q i)).R rc kk).O9 (ktop w.params) (p.x (p.q i)) (lst [.int 0 (p.tps (p.q i))] 0) (lst (selI p.Ls (p.q i)) (p.eps (p.q i)))) fun i hi => by rw [eL i hi]
    have C := ((cGa_ok (w := w) (rc := rc) (kk := kk) (mc := fun i => mc (p.q i)) hW fun i => hm (p.q i)).does (p.qd selI) (gn_cs w4 H W (Nat.le_refl _)).2)
    refine C.perm (((flS_perm hp (fun i => ((mc i).R rc kk).O9 (ktop w.params) (p.x i) (lst [.int 0 (p.tps i)] 0) (lst (selI p.Ls i) (p.eps i)))).symm.trans (.of_eq e0.symm)).append_left [(p.lx, instOf p.d), (p.d, lexD p.o1 p.st p.pl), (p.pl, lst [] p.ed), (p.pls, lst p.pv p.el), (p.oa, lst (upN (fun i => .int (p.q i : Int) (p.ot i)) W 0) p.eo), (rc, oRc kk)]) fun r G x => ?_
    obtain ⟨σ, hz, rfl, rfl⟩ := x
    refine ⟨gnOut selI (ktop w.params) rc kk mc W catI p (gnS W p.q σ), ?_, gnS W p.q σ, fun i hi => ?_, rfl, rfl⟩
    · have e := flS_congr (W := W) (f := fun i => ((mc (p.q i)).R rc kk).O9 (ktop w.params) (p.x (p.q i)) (lst [.int 0 (σ (8 + i))] 0) (lst [] (σ (4 + i)))) (g := fun i => ((mc (p.q i)).R rc kk).O9 (ktop w.params) (p.x (p.q i)) (lst [.int 0 (gnS W p.q σ (8 + p.q i))] 0) (lst [] (gnS W p.q σ (4 + p.q i)))) fun i hi => by
        have z := hlt i hi
        unfold gnS
        rw [if_neg (by omega), if_neg (by omega), if_pos (by omega), if_neg (by omega), if_pos (by omega), Nat.add_sub_cancel_left, Nat.add_sub_cancel_left, hq i hi]
      have P := (flS_perm hp (fun i => ((mc i).R rc kk).O9 (ktop w.params) (p.x i) (lst [.int 0 (gnS W p.q σ (8 + i))] 0) (lst [] (gnS W p.q σ (4 + i))))).append_left [(p.lx, instOf p.d), (p.d, lexD p.o1 p.st p.pl), (p.pl, lst (gnRow selI catI W p) (σ 1)), (p.pls, lst p.pv p.el), (p.oa, lst (upN (fun i => .int (p.q i : Int) (p.ot i)) W 0) p.eo), (rc, oRc kk)]
      have e2 : (cGa (ktop w.params) rc kk (fun i => mc (p.q i)) W catI).E' (p.qd selI) σ = ([(p.lx, instOf p.d), (p.d, lexD p.o1 p.st p.pl), (p.pl, lst (gnRow selI catI W p) (σ 1)), (p.pls, lst p.pv p.el), (p.oa, lst (upN (fun i => .int (p.q i : Int) (p.ot i)) W 0) p.eo), (rc, oRc kk)] ++ flS (fun i => ((mc (p.q i)).R rc kk).O9 (ktop w.params) (p.x (p.q i)) (lst [.int 0 (σ (8 + i))] 0) (lst [] (σ (4 + i)))) W 0) ++ [(σ 0, lst (gnRow selI catI W p) (σ 2))] := by
        have z := gn_row H W (Nat.le_refl _)
        show gaOut (ktop w.params) rc kk (fun i => mc (p.q i)) W catI (p.qd selI) σ = _
        unfold gaOut gnRow
        rw [z]
        rfl
      rw [e2, e]
      exact P.append_right _
    · unfold gnS
      rw [if_neg (by omega), if_neg (by omega), if_neg (by omega)]
theorem pn_perm {W to : Nat} (p : PnP) (h : to < W) : (flS p.pl W 0).Perm (p.pl to ++ others W to p.pl) := by
  rw [flS0]; exact part_perm p.pl h
theorem cPnE_ok {W to : Nat} : (cPnE selI W to fiI).Holds w where
  ad p σ := ⟨[σ 0, σ 1, σ 2, σ 3], by
    show Sto.ad (_ :: _ :: _ :: (_ ++ _)) = Sto.ad (_ :: _ :: _ :: _) ++ _
    simp only [Sto.ad, List.map_cons, List.map_append, List.cons_append]
    rfl⟩
  does p hc := by
    obtain ⟨h1, h2, -⟩ := hc
    refine (((cPaE_ok (w := w)).does (p.pa selI to) ⟨h2, trivial⟩).frame ((p.ld, lst p.lav p.el) :: others W to p.pl)).perm ?_ fun r G x => ?_
    · refine (((pn_perm p h1).append_left [(136, tableOf []), (p.hd, lst p.hv p.eh), (p.ld, lst p.lav p.el)]).trans ?_)
      exact List.Perm.cons _ (List.Perm.cons _ (List.Perm.swap _ _ _))
    · obtain ⟨E', rfl, σ, hz, rfl, rfl⟩ := x
      refine ⟨_, ?_, σ, hz, rfl, rfl⟩
      refine List.Perm.symm ((((pn_perm p h1).append_right ((σ 0, code136 (fun i => σ (10 + i))) :: pnN selI p to fiI σ)).append_left [(136, t136 (σ 0)), (p.hd, lst p.hv p.eh), (p.ld, lst p.lav p.el)]).trans ?_)
      refine List.Perm.cons _ (List.Perm.cons _ ?_)
      refine (List.Perm.swap _ _ _).trans (List.Perm.cons _ ?_)
      show ((p.ld, lst p.lav p.el) :: (others W to p.pl ++ ((σ 0, code136 (fun i => σ (10 + i))) :: pnN selI p to fiI σ))).Perm (((σ 0, code136 (fun i => σ (10 + i))) :: pnN selI p to fiI σ) ++ ((p.ld, lst p.lav p.el) :: others W to p.pl))
      exact List.perm_append_comm (l₁ := (p.ld, lst p.lav p.el) :: others W to p.pl)
theorem cPnF_ok {W to : Nat} {kc : Nat → Nat} : (cPnF selI W to fiI kc).Holds w where
  ad p σ := ⟨[σ 1, σ 2, σ 3], by
    show Sto.ad (_ :: _ :: _ :: _ :: (_ ++ _)) = Sto.ad (_ :: _ :: _ :: _ :: _) ++ _
    simp only [Sto.ad, List.map_cons, List.map_append, List.cons_append]
    rfl⟩
  does p hc := by
    obtain ⟨h1, h2, -⟩ := hc
    refine (((cPaF_ok (w := w) (kc := kc)).does (p.pa selI to) ⟨h2, trivial⟩).frame ((p.ld, lst p.lav p.el) :: others W to p.pl)).perm ?_ fun r G x => ?_
    · refine (((pn_perm p h1).append_left [(136, t136 p.c), (p.hd, lst p.hv p.eh), (p.ld, lst p.lav p.el), (p.c, code136 kc)]).trans ?_)
      refine List.Perm.cons _ (List.Perm.cons _ ?_)
      exact (pick_perm [2, 1, 0] (n := 3) (by decide) rfl rfl : [(p.ld, lst p.lav p.el), (p.c, code136 kc), (refI p.lav to, lst (selI p.Ls to) (p.eps to))].Perm [(refI p.lav to, lst (selI p.Ls to) (p.eps to)), (p.c, code136 kc), (p.ld, lst p.lav p.el)]).append_right (others W to p.pl)
    · obtain ⟨E', rfl, σ, hz, rfl, rfl⟩ := x
      refine ⟨_, ?_, σ, hz, rfl, rfl⟩
      refine List.Perm.symm ((((pn_perm p h1).append_right (pnN selI p to fiI σ)).append_left [(136, t136 p.c), (p.hd, lst p.hv p.eh), (p.ld, lst p.lav p.el), (p.c, code136 kc)]).trans ?_)
      refine List.Perm.cons _ (List.Perm.cons _ ?_)
      refine ((pick_perm [2, 1, 0] (n := 3) (by decide) rfl rfl : [(p.ld, lst p.lav p.el), (p.c, code136 kc), (refI p.lav to, lst (selI p.Ls to) (p.eps to))].Perm [(refI p.lav to, lst (selI p.Ls to) (p.eps to)), (p.c, code136 kc), (p.ld, lst p.lav p.el)]).append_right (others W to p.pl ++ pnN selI p to fiI σ)).trans ?_
      refine List.Perm.cons _ (List.Perm.cons _ ?_)
      exact List.perm_append_comm (l₁ := (p.ld, lst p.lav p.el) :: others W to p.pl)
theorem cOth_ok {W to : Nat} (hW : W = 2 ∨ W = 3 ∨ W = 4) : (cOth (ktop w.params) (PySem.W.ZFast.hKY w.params) W to (fun τ => othV to τ W 0)).Holds w where
  ad p σ := ⟨[], (List.append_nil _).symm⟩
  does p hc := by
    have h : to < W := hc.1
    have G : ∀ {W to : Nat} {orc : List Nat}, (∀ n t σ, Go0 (.ok .next) (List.range 4) (otE p to (loc1 "k" (PySem.W.ZFast.hKY w.params "k") (t + 1) (.int ((W : Int) - 1) (t + 2 * (W - 1)))) (riO (W : Int) 0) (othV to (kL [t, t + 2, t + 4, t + 6]) W 0) (p.ey + (W - 1))) [] (otd w.params (bOf w) (ktop w.params) theProg W to p orc n t σ)) →
        Ends w 8 (p.C (ktop w.params)) (otE p to loc0 (riO 0 (W : Int)) [] p.ey) (QS (fun _ => .ok .next) fun σ => otE p to (loc1 "k" (PySem.W.ZFast.hKY w.params "k") (σ 0) (.int ((W : Int) - 1) (σ 1))) (riO (W : Int) 0) (othV to (fun i => σ (3 + i)) W 0) (σ 2)) := fun {W to orc} F =>
      Ends.fin (fun n t σ => otd.eq_1 w.params (bOf w) (ktop w.params) theProg W to p orc n t σ) rfl trivial F (by decide) (fun _ _ _ _ => trivial) fun n t σ _ => ⟨sg [t + 1, t + 2 * (W - 1), p.ey + (W - 1), t, t + 2, t + 4, t + 6], sg_z (by simp), rfl, by
        have : (fun i => sg [t + 1, t + 2 * (W - 1), p.ey + (W - 1), t, t + 2, t + 4, t + 6] (3 + i)) = kL [t, t + 2, t + 4, t + 6] := by
          funext i
          match i with
          | 0 => rfl
          | 1 => rfl
          | 2 => rfl
          | 3 => rfl
          | _ + 4 => simp [sg, kL, Nat.add_comm 3]
        exact congrArg (fun τ => otE p to (loc1 "k" (PySem.W.ZFast.hKY w.params "k") (t + 1) (.int ((W : Int) - 1) (t + 2 * (W - 1)))) (riO (W : Int) 0) (othV to τ W 0) (p.ey + (W - 1))) this.symm⟩
    rcases hW with rfl | rfl | rfl
    · match to, h with
      | 0, _ => exact G fun n t σ => ot20_r w.params (bOf w) p n t σ
      | 1, _ => exact G fun n t σ => ot21_r w.params (bOf w) p n t σ
      | _ + 2, h => exact absurd h (by omega)
    · match to, h with
      | 0, _ => exact G fun n t σ => ot30_r w.params (bOf w) p n t σ
      | 1, _ => exact G fun n t σ => ot31_r w.params (bOf w) p n t σ
      | 2, _ => exact G fun n t σ => ot32_r w.params (bOf w) p n t σ
      | _ + 3, h => exact absurd h (by omega)
    · match to, h with
      | 0, _ => exact G fun n t σ => ot40_r w.params (bOf w) p n t σ
      | 1, _ => exact G fun n t σ => ot41_r w.params (bOf w) p n t σ
      | 2, _ => exact G fun n t σ => ot42_r w.params (bOf w) p n t σ
      | 3, _ => exact G fun n t σ => ot43_r w.params (bOf w) p n t σ
      | _ + 4, h => exact absurd h (by omega)
end
end Mine
end
section
namespace Mine
noncomputable def fN {α : Type} (n : Nat) (f : Nat → α) : α := match n with
  | 0 => f 0
  | m + 1 => f (m + 1)
theorem fN_eq {α : Type} (n : Nat) (f : Nat → α) : fN n f = f n := by cases n <;> rfl
noncomputable def fI {α : Type} (z : Int) (f : Int → α) : α := match z with
  | .ofNat n => fN n fun n => f (.ofNat n)
  | .negSucc n => fN n fun n => f (.negSucc n)
theorem fI_eq {α : Type} (z : Int) (f : Int → α) : fI z f = f z := match z with
  | .ofNat n => fN_eq n fun n => f (.ofNat n)
  | .negSucc n => fN_eq n fun n => f (.negSucc n)
noncomputable def fL {α : Type} (l : List Nat) (f : List Nat → α) : α := match l with
  | [] => f []
  | x :: r => fN x fun x => fL r fun r => f (x :: r)
theorem fL_eq {α : Type} : ∀ (l : List Nat) (f : List Nat → α), fL l f = f l
  | [], _ => rfl
  | x :: r, f => by unfold fL; rw [fN_eq, fL_eq r]
noncomputable def getN : List Nat → Nat → Nat
  | [], _ => 0
  | x :: r, 0 => x
  | x :: r, i + 1 => getN r i
noncomputable def hasN (k : Nat) : List Nat → Bool
  | [] => false
  | x :: r => match Nat.beq k x with
    | true => true
    | false => hasN k r
noncomputable def idxN (k : Nat) : List Nat → Nat
  | [] => 0
  | x :: r => match Nat.beq k x with
    | true => 0
    | false => idxN k r + 1
noncomputable def pileN (w s j : Nat) (p : List Nat) : List Nat := (List.range s).map fun x => getN p (w * x + j)
noncomputable def onlyN (w s place told : Nat) (p : List Nat) : Bool := (List.range w).all fun j => match hasN place (pileN w s j p) with
  | true => Nat.beq j told
  | false => !Nat.beq j told
noncomputable def toldN (w s place : Nat) (p : List Nat) : Nat → Nat → Nat
  | 0, j => j
  | m + 1, j => match hasN place (pileN w s j p) with
    | true => j
    | false => toldN w s place p m (j + 1)
noncomputable def orderN (w told d : Nat) : List Nat :=
  ((List.range w).filter fun k => !Nat.beq k told).take d ++ told :: ((List.range w).filter fun k => !Nat.beq k told).drop d
noncomputable def rowN (w s told d : Nat) (p : List Nat) : List Nat := (orderN w told d).flatMap fun j => pileN w s j p
structure StN where
  p : List Nat
  hands : List Nat
  he : Int
  te : Int
  pw : Int
  now : Int
  high : Int
  low : Int
noncomputable def nextN (w s place : Nat) (st : StN) (d : Nat) : StN :=
  let told := toldN w s place st.p w 0
  let row := rowN w s told d st.p
  let he := st.he + (d : Int) * st.pw
  let te := st.te + (told : Int) * st.pw
  let pw := st.pw * (w : Int)
  let a := te - he * ((w * s : Nat) : Int)
  { p := row, hands := st.hands.filter fun k => hasN k (pileN w s told st.p), he, te, pw, now := (idxN place row : Nat), high := a / pw, low := a % pw }
noncomputable def eqL : List Nat → List Nat → Bool
  | [], [] => true
  | x :: r, y :: q => match Nat.beq x y with
    | true => eqL r q
    | false => false
  | _, _ => false
noncomputable def keptN (ct : Nat) (pw low : Int) : List Nat := (List.range ct).filter fun k => decide ((k : Int) % pw = low)
noncomputable def okN (w s place told : Nat) (p : List Nat) (st' : StN) : Bool :=
  let a1 := (place : Int) + st'.he * ((w * s : Nat) : Int)
  let a2 := st'.te - st'.he * ((w * s : Nat) : Int)
  Nat.blt told w && onlyN w s place told p && decide (a1 / st'.pw = st'.now) && decide (a1 % st'.pw = st'.te) && eqL st'.hands (keptN (w * s) st'.pw st'.low)
  && decide (2 ≤ st'.pw) && decide (st'.pw < 1000) && decide (0 ≤ a1) && decide (a1 < 16 * st'.pw) && (decide (0 ≤ a2) && decide (a2 < 16 * st'.pw) || decide (a2 < 0) && decide (-a2 - 1 < 16 * st'.pw))
noncomputable def turnN (w s place : Nat) (st : StN) (d : Nat) : Bool := okN w s place (toldN w s place st.p w 0) st.p (nextN w s place st d)
noncomputable def finN (place : Nat) (st : StN) : Bool := eqL st.hands [place] && decide (st.high = -st.now) && decide (st.low = (place : Int))
noncomputable def loopAll (w s place : Nat) : Nat → StN → Bool
  | 0, st => finN place st
  | m + 1, st => (List.range w).all fun d => turnN w s place st d && loopAll w s place m (nextN w s place st d)
noncomputable def startN (ct : Nat) : StN := { p := List.range ct, hands := List.range ct, he := 0, te := 0, pw := 1, now := 0, high := 0, low := 0 }
noncomputable def leastN (w ct : Nat) : Nat := if ct ≤ w then 1 else if ct ≤ w * w then 2 else if ct ≤ w * w * w then 3 else 4
noncomputable def fSt {α : Type} (st : StN) (f : StN → α) : α := fL st.p fun p => fL st.hands fun hands => fI st.he fun he => fI st.te fun te => fI st.pw fun pw => fI st.now fun now => fI st.high fun high => fI st.low fun low => f ⟨p, hands, he, te, pw, now, high, low⟩
theorem fSt_eq {α : Type} (st : StN) (f : StN → α) : fSt st f = f st := by
  unfold fSt
  simp only [fL_eq, fI_eq]
noncomputable def nextF {α : Type} (w s place told : Nat) (st : StN) (d : Nat) (f : StN → α) : α :=
  fL (rowN w s told d st.p) fun row => fL (st.hands.filter fun k => hasN k (pileN w s told st.p)) fun hands =>
  fI (st.he + (d : Int) * st.pw) fun he => fI (st.te + (told : Int) * st.pw) fun te => fI (st.pw * (w : Int)) fun pw => fI (te - he * ((w * s : Nat) : Int)) fun a => fN (idxN place row) fun now => fI (a / pw) fun high => fI (a % pw) fun low =>
  f { p := row, hands, he, te, pw, now := now, high, low }
theorem nextF_eq {α : Type} {w s place : Nat} {st : StN} {d : Nat} {f : StN → α} : nextF w s place (toldN w s place st.p w 0) st d f = f (nextN w s place st d) := by
  unfold nextF nextN
  simp only [fL_eq, fI_eq, fN_eq]
noncomputable def allF : List Nat → (Nat → Bool) → Bool
  | [], _ => true
  | d :: r, f => match f d with
    | true => allF r f
    | false => false
theorem allF_all : ∀ (l : List Nat) (f : Nat → Bool), allF l f = l.all f
  | [], _ => rfl
  | d :: r, f => by
    unfold allF
    rw [List.all_cons, allF_all r f]
    cases f d <;> rfl
noncomputable def loopE (w s place : Nat) (ds : List Nat) : Nat → StN → Bool
  | 0, st => finN place st
  | m + 1, st => match (match m with
      | 0 => finN place st
      | _ => true) with
    | false => false
    | true => fN (toldN w s place st.p w 0) fun told => allF ds fun d => nextF w s place told st d fun st' => match okN w s place told st.p st' with
      | true => loopE w s place ds m st'
      | false => false
theorem loopE_spec {w s place : Nat} : ∀ (m : Nat) (st : StN), loopE w s place (List.range w) m st = true → loopAll w s place m st = true
  | 0, st, h => h
  | m + 1, st, h => by
    unfold loopE at h
    unfold loopAll
    split at h
    · cases h
    · rw [fN_eq, allF_all] at h
      refine List.all_eq_true.mpr fun d hd => ?_
      have := List.all_eq_true.mp h d hd
      rw [nextF_eq] at this
      split at this
      · rename_i q
        rw [Bool.and_eq_true]
        exact ⟨q, loopE_spec m _ this⟩
      · cases this
theorem loopE_spec' {w s place : Nat} : ∀ (m : Nat) (st : StN), loopE w s place (List.range w) (m + 1) st = true → loopAll w s place m st = true
  | 0, st, h => by
    unfold loopE at h
    split at h
    · cases h
    · rename_i q; exact q
  | m + 1, st, h => by
    unfold loopE at h
    unfold loopAll
    split at h
    · cases h
    · rw [fN_eq, allF_all] at h
      refine List.all_eq_true.mpr fun d hd => ?_
      have := List.all_eq_true.mp h d hd
      rw [nextF_eq] at this
      split at this
      · rename_i q
        rw [Bool.and_eq_true]
        exact ⟨q, loopE_spec' m _ this⟩
      · cases this
noncomputable def keptG (ct : Nat) (pw low : Int) : List Nat := match pw, low with
  | .ofNat n, .ofNat l => (List.range ct).filter fun k => Nat.beq (k % n) l
  | pw, low => keptN ct pw low
theorem keptG_eq {ct : Nat} {pw low : Int} : keptG ct pw low = keptN ct pw low := by
  unfold keptG
  split
  · rename_i n l
    unfold keptN
    congr 1
    funext k
    rw [Bool.eq_iff_iff, decide_eq_true_iff]
    show Nat.beq (k % n) l = true ↔ ((k : Int) % ((n : Nat) : Int) = ((l : Nat) : Int))
    rw [Nat.beq_eq, ← Int.natCast_emod]
    exact Int.ofNat_inj.symm
  · rfl
noncomputable def okG (w s place : Nat) (hands row : List Nat) (he te pw hc : Int) (now : Nat) (low a a1 : Int) : Bool :=
  decide (a1 / pw = (now : Int)) && decide (a1 % pw = te) && eqL hands (keptG (w * s) pw low) && decide (0 ≤ a1) && decide (a1 < 16 * pw) && (decide (0 ≤ a) && decide (a < 16 * pw) || decide (a < 0) && decide (-a - 1 < 16 * pw))
noncomputable def loopG (w s place : Nat) (ds : List Nat) : Nat → StN → Bool
  | 0, st => finN place st
  | m + 1, st => match (match m with
      | 0 => finN place st
      | _ => true) with
    | false => false
    | true => fN (toldN w s place st.p w 0) fun told => match Nat.blt told w && onlyN w s place told st.p with
      | false => false
      | true => fL (pileN w s told st.p) fun pile => fL (st.hands.filter fun k => hasN k pile) fun hands =>
        fI (st.te + (told : Int) * st.pw) fun te => fI (st.pw * (w : Int)) fun pw => match decide (2 ≤ pw) && decide (pw < 1000) with
        | false => false
        | true => allF ds fun d => fL (rowN w s told d st.p) fun row => fI (st.he + (d : Int) * st.pw) fun he => fI (he * ((w * s : Nat) : Int)) fun hc =>
          fN (idxN place row) fun now => fI (te - hc) fun a => fI (a / pw) fun high => fI (a % pw) fun low => fI ((place : Int) + hc) fun a1 =>
          match okG w s place hands row he te pw hc now low a a1 with
          | true => loopG w s place ds m { p := row, hands, he, te, pw, now := now, high, low }
          | false => false
theorem loopG_spec {w s place : Nat} {ds : List Nat} : ∀ (m : Nat) (st : StN), loopG w s place ds m st = true → loopE w s place ds m st = true
  | 0, st, h => h
  | m + 1, st, h => by
    unfold loopG at h
    unfold loopE
    split at h
    · cases h
    · rename_i q
      rw [fN_eq] at h ⊢
      split at h
      · cases h
      · rename_i q1
        rw [fL_eq, fL_eq, fI_eq, fI_eq] at h
        split at h
        · cases h
        · rename_i q2
          rw [allF_all] at h ⊢
          refine List.all_eq_true.mpr fun d hd => ?_
          have y := List.all_eq_true.mp h d hd
          rw [fL_eq, fI_eq, fI_eq, fN_eq, fI_eq, fI_eq, fI_eq, fI_eq] at y
          rw [nextF_eq]
          split at y
          · rename_i q3
            unfold okG at q3
            rw [keptG_eq] at q3
            simp only [Bool.and_eq_true] at q1 q2 q3
            obtain ⟨⟨⟨⟨⟨r1, r2⟩, r3⟩, r4⟩, r5⟩, r6⟩ := q3
            have ok : okN w s place (toldN w s place st.p w 0) st.p (nextN w s place st d) = true := by
              unfold okN nextN
              simp only [Bool.and_eq_true]
              exact ⟨⟨⟨⟨⟨⟨⟨⟨⟨q1.1, q1.2⟩, r1⟩, r2⟩, r3⟩, q2.1⟩, q2.2⟩, r4⟩, r5⟩, r6⟩
            rw [ok]
            exact loopG_spec m _ y
          · cases y
noncomputable def allW2 (w s : Nat) : Bool := fN (w * s) fun ct => fSt (startN ct) fun st => fL (List.range w) fun ds => allF (List.range ct) fun place => loopG w s place ds (leastN w ct + 1) st
theorem allW2_spec {w s : Nat} (h : allW2 w s = true) : ∀ place, place < w * s → ∀ e, e < 2 → loopAll w s place (leastN w (w * s) + e) (startN (w * s)) = true := by
  unfold allW2 at h
  rw [fN_eq, fSt_eq, fL_eq, allF_all] at h
  intro place hp e he
  have := loopG_spec _ _ (List.all_eq_true.mp h place (List.mem_range.mpr hp))
  match e, he with
  | 0, _ => exact loopE_spec' _ _ this
  | 1, _ => exact loopE_spec _ _ this
theorem pl22 : allW2 2 2 = true := by kernel_rfl
theorem pl23 : allW2 2 3 = true := by kernel_rfl
theorem pl24 : allW2 2 4 = true := by kernel_rfl
theorem pl32 : allW2 3 2 = true := by kernel_rfl
theorem pl33 : allW2 3 3 = true := by kernel_rfl
theorem pl34 : allW2 3 4 = true := by kernel_rfl
theorem pl42 : allW2 4 2 = true := by kernel_rfl
theorem pl43 : allW2 4 3 = true := by kernel_rfl
theorem pl44 : allW2 4 4 = true := by kernel_rfl
theorem plain_law {w s : Nat} (hw : w = 2 ∨ w = 3 ∨ w = 4) (hs : s = 2 ∨ s = 3 ∨ s = 4) : ∀ place, place < w * s → ∀ e, e < 2 → loopAll w s place (leastN w (w * s) + e) (startN (w * s)) = true := by
  rcases hw with rfl | rfl | rfl <;> rcases hs with rfl | rfl | rfl
  · exact allW2_spec pl22
  · exact allW2_spec pl23
  · exact allW2_spec pl24
  · exact allW2_spec pl32
  · exact allW2_spec pl33
  · exact allW2_spec pl34
  · exact allW2_spec pl42
  · exact allW2_spec pl43
  · exact allW2_spec pl44
end Mine
end
section
open PySem PySem.W PySem.W.X PyProof.Rows
namespace Mine
noncomputable def turnEnv (K : KT) (fr : Nat) : Env := { scope := (fdK K 146).scope, locals := fr, globals := 3, cells := [("low", fr + 7), ("told", fr + 6), ("power", fr + 5), ("hands", fr + 4), ("deck", fr + 3), ("place", fr + 2), ("names", fr + 1)], qual := "_law_trick.<locals>.", func := some 146, code := .ref 145, frame := some fr, builtins := 0 }
noncomputable def turnC (K : KT) (it fr : Nat) : Code := .forLoop (tgtS (nthS (stmtsOf (fdK K 146)) 5)) (.ref it) (turnStmts K) [] (turnEnv K fr)
noncomputable def frA (hs : Nat → Int) (ks : Nat → Tok) (width ahead count piles heads tells : Value) : Obj :=
  { cls := .type "frame", data := .dict #[entD hs ks 0 "width" width, entD hs ks 1 "ahead" ahead, entD hs ks 2 "count" count, entD hs ks 3 "piles" piles, entD hs ks 4 "heads" heads, entD hs ks 5 "tells" tells] 6 }
noncomputable def frB (hs : Nat → Int) (ks : Nat → Tok) (width ahead count piles heads tells digit laid others row thought gone now high : Value) : Obj :=
  { cls := .type "frame", data := .dict #[entD hs ks 0 "width" width, entD hs ks 1 "ahead" ahead, entD hs ks 2 "count" count, entD hs ks 3 "piles" piles, entD hs ks 4 "heads" heads, entD hs ks 5 "tells" tells,
    entD hs ks 6 "digit" digit, entD hs ks 7 "laid" laid, entD hs ks 8 "others" others, entD hs ks 9 "row" row, entD hs ks 10 "thought" thought, entD hs ks 11 "gone" gone, entD hs ks 12 "now" now, entD hs ks 13 "high" high] 14 }
noncomputable def cell0 : Obj := { cls := .type "cell", data := .cell none }
structure TuP where
  (nm fr ah it pls el en ea : Nat) (nv av : List Value) (pl he te pw nw i : Int) (tp tw tct th tt tpw td : Tok) (xs : Str) (xt : Tok) (hs : Nat → Int) (ks : Nat → Tok) (d : DkS) (eps : Nat → Nat) (tps : Nat → Tok)
structure FnP where
  (gx : DkS → Nat → Nat → LexD) (ga : DkS → Nat → Nat → Obj) (ge : DkS → Nat → Nat → Nat)
noncomputable def FnP.fin (f : FnP) (d : DkS) (a b : Nat) : DkS := ⟨f.gx d a b, f.ga d a b, lst [] (f.ge d a b)⟩
noncomputable def pcM (mc : Nat → Mc) (px : Nat → LexD) (j : Nat) : PlP := ⟨(mc j).lx, (mc j).d, (mc j).st, (mc j).pl, 0, px j, [], 0, [], 0⟩
noncomputable def tuDl (m : Mc) (dk : DkS → DkM) (f : FnP) (mc : Nat → Mc) (px : Nat → LexD) (W s : Nat) : DlC := ⟨m, dk, f.fin, pcM mc px, W, s⟩
noncomputable def tuE (K : KT) (W : Nat) (m : Mc) (mc : Nat → Mc) (px : Nat → LexD) (p : TuP) (fo c4 c5 c6 c7 io : Obj) (d : DkS) (eps : Nat → Nat) (tps : Nat → Tok) (R : Sto) : Sto :=
  (p.fr, fo) :: (p.fr + 1, cellOf (.ref p.nm)) :: (p.fr + 2, cellOf (.int p.pl p.tp)) :: (p.fr + 3, cellOf (.ref m.lx)) :: (p.fr + 4, c4) :: (p.fr + 5, c5) :: (p.fr + 6, c6) :: (p.fr + 7, c7) :: (p.it, io) :: (p.nm, lst p.nv p.en) :: (p.ah, lst p.av p.ea) ::
    (p.pls, lst (upN (fun j => .ref (mc j).lx) W 0) p.el) :: (m.O K d.x d.oa d.op ++ (flS (fun j => ((mc j).R m.rc m.k).O9 K (px j) (lst [.int 0 (tps j)] 0) (lst [] (eps j))) W 0 ++ R))
noncomputable def tuDev : TuP := ⟨1501, 1600, 1502, 1503, 1504, 3, 4, 5, [.str "a" 31, .str "b " 32, .str "c\"" 33, .str "d" 34], [.int 0 41, .int 1 42], 0, 70000001, 70000002, 70000003, 70000004, 0, 51, 52, 53, 54, 55, 56, 41, "a", 31, fun _ => 0, fun i => 60 + i, ⟨lxDev, lst [] 0, lst [] 0⟩, fun _ => 0, fun i => 450 + i⟩
noncomputable def tuA (σ : Nat → Nat) : Nat → Nat := tlS 1 σ
noncomputable def tuL (dk : DkS → DkM) (p : TuP) (W s j : Nat) (σ : Nat → Nat) : List Value := dlV W (s + 1) (dk p.d).y j (tuA σ)
noncomputable def TuP.he' (p : TuP) (dg : Nat) : Int := p.he + (dg : Int) * p.pw
noncomputable def TuP.te' (p : TuP) (to : Nat) : Int := p.te + (to : Int) * p.pw
noncomputable def TuP.pw' (p : TuP) (W : Nat) : Int := p.pw * (W : Int)
noncomputable def tuCt (W s : Nat) : Int := ((W * (s + 1) : Nat) : Int)
noncomputable def TuP.a1 (p : TuP) (W s dg : Nat) : Int := p.pl + p.he' dg * tuCt W s
noncomputable def TuP.a2 (p : TuP) (W s to dg : Nat) : Int := p.te' to - p.he' dg * tuCt W s
structure CdP where
  (c30 c37 c136 : Nat) (k30 k37 k136 : Nat → Nat)
structure TvP where
  (hd : Nat) (hv : List Value) (eh : Nat) (v6 v7 v8 v9 v10 v11 v12 v13 w6 w7 : Value) (cd : CdP)
noncomputable def tvDev : TvP := ⟨1701, [.str "a" 31, .str "b " 32], 7, .int 0 701, .ref 702, .ref 703, .ref 704, .ref 705, .ref 706, .int 0 707, .int 0 708, .int 0 709, .int 0 710, ⟨1710, 1711, 1712, fun i => 1720 + i, fun i => 1740 + i, fun i => 1760 + i⟩⟩
noncomputable def tuF (K : KT) (W s : Nat) (m : Mc) (mc : Nat → Mc) (px : Nat → LexD) (p : TuP) (u : TvP) : Sto :=
  tuE K W m mc px p (frB p.hs p.ks (.int (W : Int) p.tw) (.ref p.ah) (.int (tuCt W s) p.tct) (.ref p.pls) (.int p.he p.th) (.int p.te p.tt) u.v6 u.v7 u.v8 u.v9 u.v10 u.v11 u.v12 u.v13) (cellOf (.ref u.hd)) (cellOf (.int p.pw p.tpw)) (cellOf u.w6) (cellOf u.w7) (liO p.ah p.i) p.d p.eps p.tps
    [(30, t30 u.cd.c30), (37, t37 u.cd.c37), (136, t136 u.cd.c136), (u.cd.c30, code30 u.cd.k30), (u.cd.c37, code37 u.cd.k37), (u.cd.c136, code136 u.cd.k136), (u.hd, lst u.hv u.eh)]
noncomputable def tuRow (sel : List (List Value) → Nat → List Value) (cat : List Value → List Value → List Value) (dk : DkS → DkM) (p : TuP) (W s : Nat) (q : Nat → Nat) (σ : Nat → Nat) : List Value := gaRow cat (fun i => sel (upL (fun j => tuL dk p W s j σ) W 0) (q i)) W
noncomputable def tuTo (sel : List (List Value) → Nat → List Value) (dk : DkS → DkM) (p : TuP) (W s to : Nat) (σ : Nat → Nat) : List Value := sel (upL (fun j => tuL dk p W s j σ) W 0) to
noncomputable def cdE (W : Nat) (σ : Nat → Nat) : CdP := ⟨tlS (2 * W + 17) σ 1, tlS (2 * W + 17) σ 2, tlS (2 * W + 10) σ 0, fun i => tlS (2 * W + 17) σ (10 + i), fun i => tlS (2 * W + 17) σ (20 + i), fun i => tlS (2 * W + 10) σ (10 + i)⟩
noncomputable def tuOut (K : KT) (W s to dg : Nat) (q : Nat → Nat) (m : Mc) (dk : DkS → DkM) (f : FnP) (mc : Nat → Mc) (px : Nat → LexD) (p : TuP) (fi : Bool → List Value → List Value → List Value) (cat : List Value → List Value → List Value) (sel : List (List Value) → Nat → List Value) (hs : Nat → Int) (ks : Nat → Tok) (th : Nat) (hv : List Value) (c : CdP) (σ : Nat → Nat) : Sto :=
  tuE K W m mc px p (frB hs ks (.int (W : Int) p.tw) (.ref p.ah) (.int (tuCt W s) p.tct) (.ref p.pls) (.int (p.he' dg) (cutS (shN (2 * W + 11) σ) 1 + 0)) (.int (p.te' to) (cutS (shN (2 * W + 12) σ) 1 + 0)) (.int (dg : Int) p.td) (.ref (tlS 1 σ 10)) (.ref (cutS (shN (2 * W + 2) σ) 0 + 2)) (.ref (tlS (2 * W + 8) σ 0)) (.ref th) (.ref (tlS (2 * W + 10) σ 3)) (.int p.nw (tlS (2 * W + 15) σ 0)) (.int (p.a2 W s to dg / p.pw' W) (tlS (2 * W + 20) σ 1)))
    (cellOf (.ref (tlS (2 * W + 10) σ 2))) (cellOf (.int (p.pw' W) (tlS (2 * W + 13) σ 0))) (cellOf (.int (to : Int) (tlS (2 * W + 2) σ 0))) (cellOf (.int (p.a2 W s to dg % p.pw' W) (tlS (2 * W + 20) σ 2))) (liO p.ah (p.i + 1))
    ⟨f.gx p.d (tuA σ 40) (tuA σ 41), f.ga p.d (tuA σ 40) (tuA σ 41), lst (tuRow sel cat dk p W s q σ) (tlS (2 * W + 8) σ 1)⟩ (fun j => tlS (2 * W + 8) σ (4 + j)) (fun j => tlS (2 * W + 8) σ (8 + j))
    [(30, t30 c.c30), (37, t37 c.c37), (136, t136 c.c136), (c.c30, code30 c.k30), (c.c37, code37 c.k37), (c.c136, code136 c.k136), (tlS (2 * W + 10) σ 2, lst (fi true hv (tuTo sel dk p W s to σ)) (tlS (2 * W + 10) σ 4)), (tlS (2 * W + 8) σ 0, lst (tuRow sel cat dk p W s q σ) (tlS (2 * W + 8) σ 2))]
noncomputable def tuCc (dk : DkS → DkM) (p : TuP) (ct : List Value → Value → Bool) (W s : Nat) (σ : Nat → Nat) : Nat → List Prop
  | 0 => []
  | j + 1 => CT (tuL dk p W s j σ) (.str p.xs p.xt) (ct (tuL dk p W s j σ) (.str p.xs p.xt)) :: ItemV p.nv (.int p.pl p.tp) (.str p.xs p.xt) :: tuCc dk p ct W s σ j
noncomputable def tuOth (oth : (Nat → Tok) → List Value) (W : Nat) (σ : Nat → Nat) : List Value := oth fun i => tlS (2 * W + 3) σ (3 + i)
noncomputable def tuCs (W s to dg : Nat) (q : Nat → Nat) (dk : DkS → DkM) (mc : Nat → Mc) (p : TuP) (fi : Bool → List Value → List Value → List Value) (kp : List Value → Int → Int → List Value) (cat : List Value → List Value → List Value) (sel : List (List Value) → Nat → List Value) (tkn : List Value → Nat → Tok) (ct : List Value → Value → Bool) (oth : (Nat → Tok) → List Value) (tk dp : List Value → List Value) (hv : List Value) (dm : Prop) (σ : Nat → Nat) : List Prop :=
  SameT (fi false hv (tuTo sel dk p W s to σ)) (fi false hv (fi true hv (tuTo sel dk p W s to σ))) :: SpOk hv (fi true hv (tuTo sel dk p W s to σ)) :: SameT (fi true hv (tuTo sel dk p W s to σ)) (kp p.nv (p.pw' W) (p.a2 W s to dg % p.pw' W)) :: KeptOk p.nv (p.pw' W) (tuCt W s) :: RangeOk (tuCt W s) ::
    DvOk (p.a2 W s to dg) (p.pw' W) :: ((tuCt W s).natAbs < 1024) :: PairEq (p.a1 W s dg / p.pw' W) (p.a1 W s dg % p.pw' W) p.nw (p.te' to) :: dm :: ((tuCt W s).natAbs < 1024) ::
    IX (tuRow sel cat dk p W s q σ) (.str p.xs p.xt) p.nw :: ItemV p.nv (.int p.pl p.tp) (.str p.xs p.xt) :: (p.pw.natAbs < 1024) :: (p.pw.natAbs < 1024) :: (to < W) :: SpOk hv (tuTo sel dk p W s to σ) :: LaidOk (upN (fun j => .ref (tuA σ j)) W 0) (.int (to : Int) (tlS (2 * W + 2) σ 0)) to ::
    GnOk sel W (upQ q W 0) (upL (fun j => tuL dk p W s j σ) W 0) (upN (fun j => .ref (mc j).lx) W 0) mc ::
    CatIs (cat (tk (tuOth oth W σ)) [.int (to : Int) (tlS (2 * W + 2) σ 0)]) (dp (tuOth oth W σ)) (ordV tkn cat q W (cat (tk (tuOth oth W σ)) [.int (to : Int) (tlS (2 * W + 2) σ 0)]) (dp (tuOth oth W σ))) ::
    SlIs (tuOth oth W σ) (some (dg : Int)) none (dp (tuOth oth W σ)) :: ((isPartB (.int (dg : Int) p.td) && isPartB .none) = true) :: CatIs (tk (tuOth oth W σ)) [.int (to : Int) (tlS (2 * W + 2) σ 0)] (cat (tk (tuOth oth W σ)) [.int (to : Int) (tlS (2 * W + 2) σ 0)]) :: SlIs (tuOth oth W σ) none (some (dg : Int)) (tk (tuOth oth W σ)) :: ((isPartB .none && isPartB (.int (dg : Int) p.td)) = true) ::
    (to < W) :: IXB (upN (fun j => .bool (ct (tuL dk p W s j σ) (.str p.xs p.xt))) W 0) (.bool true) to :: (tuCc dk p ct W s σ W ++ [(dk p.d).IsD 0 p.d.x p.d.oa p.d.op, ItemIs p.av p.i (.int (dg : Int) p.td)])
noncomputable def tuH (hs : Nat → Int) (hf : Str → Int) (i : Nat) : Int := match Nat.blt i 6 with
  | true => hs i
  | false => hL [hf "digit", hf "laid", hf "others", hf "row", hf "thought", hf "gone", hf "now", hf "high"] (i - 6)
noncomputable def tuK (ks : Nat → Tok) (W : Nat) (σ : Nat → Nat) (i : Nat) : Tok := match Nat.blt i 6 with
  | true => ks i
  | false => kL [cutS (shN 0 σ) 1 + 0, cutS (shN 1 σ) 1 + 0, cutS (shN (2 * W + 3) σ) 1 + 0, cutS (shN (2 * W + 8) σ) 1 + 0, cutS (shN (2 * W + 8) σ) 1 + 1, cutS (shN (2 * W + 10) σ) 1 + 0, cutS (shN (2 * W + 15) σ) 1 + 0, cutS (shN (2 * W + 20) σ) 1 + 0] (i - 6)
@[irreducible] noncomputable def tuEd (P : Params) (b : Bool) (K : KT) (pg : Program) (W : Nat) (s to dg : Nat) (q : Nat → Nat) (m : Mc) (dk : DkS → DkM) (f : FnP) (mc : Nat → Mc) (px : Nat → LexD) (p : TuP) (fi : Bool → List Value → List Value → List Value) (kp : List Value → Int → Int → List Value) (cat : List Value → List Value → List Value) (sel : List (List Value) → Nat → List Value) (tkn : List Value → Nat → Tok) (ct : List Value → Value → Bool) (oth : (Nat → Tok) → List Value) (tk dp : List Value → List Value) (hf : Str → Int) (orc : List Nat) (n t : Nat) (σ : Nat → Nat) : Ou :=
  goC (mkW P b K pg [sDeal K (tuDl m dk f mc px W (s + 1)), sGn sel K m.rc m.k mc W cat, sPnE sel W to fi, sDvE, sDvF, sKept K hf kp, sGone K hf fi, sNext (.int (dg : Int) p.td), sItem (.str p.xs p.xt), sContF ct, sIdxB to, sOth K hf W to oth, sSlF tk, sSlF dp, sCatF cat, sCatF (ordV tkn cat q W), sLaid to, sV opMulS, sV opMulR, sIdx p.nw, sTupNe, sListNe, sRIter]) 20000 24 (turnC K p.it p.fr)
  (tuE K W m mc px p (frA p.hs p.ks (.int (W : Int) p.tw) (.ref p.ah) (.int (tuCt W s) p.tct) (.ref p.pls) (.int p.he p.th) (.int p.te p.tt)) (cellOf (.ref p.nm)) (cellOf (.int p.pw p.tpw)) cell0 cell0 (liO p.ah p.i) p.d p.eps p.tps [(30, tableOf []), (37, tableOf []), (136, tableOf [])]) n t σ
  orc
theorem tuEd_id : @tuEd = @tuEd := rfl
lay_z Mine.tuEd
end Mine
name_z tuEdY for Mine.tuEd by Mine.tuEd_id
namespace Mine
theorem tuE2_r (P : Params) (b : Bool) (s to dg : Nat) (q : Nat → Nat) (m : Mc) (dk : DkS → DkM) (f : FnP) (mc : Nat → Mc) (px : Nat → LexD) (p : TuP) (fi : Bool → List Value → List Value → List Value) (kp : List Value → Int → Int → List Value) (cat : List Value → List Value → List Value) (sel : List (List Value) → Nat → List Value) (tkn : List Value → Nat → Tok) (ct : List Value → Value → Bool) (oth : (Nat → Tok) → List Value) (tk dp : List Value → List Value) (hf : Str → Int) (n t : Nat) (σ : Nat → Nat) : Go1 (turnC (ktop P) p.it p.fr) (List.range 43 ++ [71, 72, 63, 65, 62]) (tuOut (ktop P) 2 s to dg q m dk f mc px p fi cat sel (tuH p.hs (PySem.W.ZFast.hKY P)) (tuK p.ks 2 σ) p.nm p.nv (cdE 2 σ) σ) (tuCs 2 s to dg q dk mc p fi kp cat sel tkn ct oth tk dp p.nv (DmOk (p.a1 2 s dg) (p.pw' 2)) σ) (tuEd P b (ktop P) theProg 2 s to dg q m dk f mc px p fi kp cat sel tkn ct oth tk dp hf [9,0,9,9,8,10,1,1,0,4,1,1,0,2,12,13,14,15,16,17,18,19,20,21,11,22,28,30,31,37,39,1,1,1,44,44,0,44,0,47,0,47,0,47,0,47,0,47,47,44,47,47,49,49,2,3,10,10,10,0,10,10,9,49,45,45,0,45,11,44,0,48,0,48,48,48,0,47,0,47,0,47,47,44,47,47,49,49,2,3,10,10,10,0,10,10,9,49,46,46,0,46,11,45,0,48,0,48,48,48,0,47,0,47,0,47,47,44,47,47,51,49,49,49,48,48,48,48,0,48,12,47,7,7,0,0,1,0,0,0,0,52,52,0,52,0,52,52,52,0,52,0,52,52,52,53,0,53,13,6,54,52,53,1,1,55,55,55,0,4,1,1,1,54,54,54,0,54,14,53,55,7,57,58,57,0,57,16,56,57,1,1,54,54,54,0,54,15,53,59,59,61,59,0,59,17,58,60,0,3,12,19,21,11,61,18,22,23,24,25,26,27,28,29,30,31,32,33,34,35,36,37,38,39,1,1,5,1,1,0,1,1,7,44,44,44,0,44,18,43,0,4,42,9,43,44,45,65,65,65,0,65,0,68,68,0,68,0,68,68,65,68,68,68,0,68,0,68,68,65,68,68,68,0,68,0,68,68,65,68,68,70,5,5,1,1,1,1,6,0,19,0,0,1,1,1,7,6,0,19,0,0,1,1,6,1,0,20,6,6,1,63,63,63,63,2,3,10,10,10,0,10,10,9,0,63,21,62,1,1,0,3,1,1,0,19,0,0,6,0,5,40,41,1,1,71,74,71,0,71,22,70,73,0,1,1,1,0,19,0,0,6,0,6,40,41,71,72,75,75,75,0,75,0,76,76,0,76,0,76,76,75,76,76,76,0,76,0,76,76,75,76,76,76,0,76,0,76,76,75,76,76,78,1,1,8,8,5,0,0,1,0,0,0,0,79,79,0,79,0,79,79,79,0,79,24,78,80,0,80,7,5,1,7,9,81,79,80,82,82,82,66,81,66,0,66,23,65,80,1,1,10,10,0,10,0,83,0,83,8,4,65,9,84,82,83,85,85,85,67,84,67,0,67,23,66,83,1] n t σ) := by
  rw [PySem.W.ZFast.tuEdY_eq]
  cases b <;> refine ⟨⟨?_, ?_, ?_, ?_, ?_, ?_⟩, ?_, ?_, ?_, ?_⟩ <;> kernel_rfl
theorem tuE3_r (P : Params) (b : Bool) (s to dg : Nat) (q : Nat → Nat) (m : Mc) (dk : DkS → DkM) (f : FnP) (mc : Nat → Mc) (px : Nat → LexD) (p : TuP) (fi : Bool → List Value → List Value → List Value) (kp : List Value → Int → Int → List Value) (cat : List Value → List Value → List Value) (sel : List (List Value) → Nat → List Value) (tkn : List Value → Nat → Tok) (ct : List Value → Value → Bool) (oth : (Nat → Tok) → List Value) (tk dp : List Value → List Value) (hf : Str → Int) (n t : Nat) (σ : Nat → Nat) : Go1 (turnC (ktop P) p.it p.fr) (List.range 52 ++ [81, 82, 73, 75, 72]) (tuOut (ktop P) 3 s to dg q m dk f mc px p fi cat sel (tuH p.hs (PySem.W.ZFast.hKY P)) (tuK p.ks 3 σ) p.nm p.nv (cdE 3 σ) σ) (tuCs 3 s to dg q dk mc p fi kp cat sel tkn ct oth tk dp p.nv (DmOk (p.a1 3 s dg) (p.pw' 3)) σ) (tuEd P b (ktop P) theProg 3 s to dg q m dk f mc px p fi kp cat sel tkn ct oth tk dp hf [9,0,9,9,8,10,1,1,0,4,1,1,0,2,12,13,14,15,16,17,18,19,20,21,11,22,28,30,31,37,39,40,46,48,1,1,1,53,53,0,53,0,57,0,57,0,57,0,57,0,57,57,53,57,57,59,59,2,3,10,10,10,0,10,10,9,59,54,54,0,54,11,53,0,58,0,58,58,58,0,57,0,57,0,57,57,53,57,57,59,59,2,3,10,10,10,0,10,10,9,59,55,55,0,55,11,54,0,58,0,58,58,58,0,57,0,57,0,57,57,53,57,57,59,59,2,3,10,10,10,0,10,10,9,59,56,56,0,56,11,55,0,58,0,58,58,58,0,57,0,57,0,57,57,53,57,57,61,59,59,59,58,58,58,58,0,58,12,57,7,7,0,0,1,0,0,0,0,62,62,0,62,0,62,62,62,0,62,0,62,62,62,63,0,63,13,6,64,62,63,1,1,65,65,65,0,4,1,1,1,64,64,64,0,64,14,63,65,7,67,68,67,0,67,16,66,67,1,1,64,64,64,0,64,15,63,69,69,71,69,0,69,17,68,70,0,3,12,19,21,11,71,18,22,23,24,25,26,27,28,29,30,31,32,33,34,35,36,37,38,39,40,41,42,43,44,45,46,47,48,1,1,5,1,1,0,1,1,7,53,53,53,0,53,18,52,0,4,51,9,52,53,54,55,75,75,75,0,75,0,78,78,0,78,0,78,78,75,78,78,78,0,78,0,78,78,75,78,78,78,0,78,0,78,78,75,78,78,80,5,5,1,1,1,1,6,0,19,0,0,1,1,1,7,6,0,19,0,0,1,1,6,1,0,20,6,6,1,73,73,73,73,2,3,10,10,10,0,10,10,9,0,73,21,72,1,1,0,3,1,1,0,19,0,0,6,0,5,49,50,1,1,81,84,81,0,81,22,80,83,0,1,1,1,0,19,0,0,6,0,6,49,50,81,82,85,85,85,0,85,0,86,86,0,86,0,86,86,85,86,86,86,0,86,0,86,86,85,86,86,86,0,86,0,86,86,85,86,86,88,1,1,8,8,5,0,0,1,0,0,0,0,89,89,0,89,0,89,89,89,0,89,24,88,90,0,90,7,5,1,7,9,91,89,90,92,92,92,76,91,76,0,76,23,75,90,1,1,10,10,0,10,0,93,0,93,8,4,75,9,94,92,93,95,95,95,77,94,77,0,77,23,76,93,1] n t σ) := by
  rw [PySem.W.ZFast.tuEdY_eq]
  cases b <;> refine ⟨⟨?_, ?_, ?_, ?_, ?_, ?_⟩, ?_, ?_, ?_, ?_⟩ <;> kernel_rfl
theorem tuE4_r (P : Params) (b : Bool) (s to dg : Nat) (q : Nat → Nat) (m : Mc) (dk : DkS → DkM) (f : FnP) (mc : Nat → Mc) (px : Nat → LexD) (p : TuP) (fi : Bool → List Value → List Value → List Value) (kp : List Value → Int → Int → List Value) (cat : List Value → List Value → List Value) (sel : List (List Value) → Nat → List Value) (tkn : List Value → Nat → Tok) (ct : List Value → Value → Bool) (oth : (Nat → Tok) → List Value) (tk dp : List Value → List Value) (hf : Str → Int) (n t : Nat) (σ : Nat → Nat) : Go1 (turnC (ktop P) p.it p.fr) (List.range 61 ++ [91, 92, 83, 85, 82]) (tuOut (ktop P) 4 s to dg q m dk f mc px p fi cat sel (tuH p.hs (PySem.W.ZFast.hKY P)) (tuK p.ks 4 σ) p.nm p.nv (cdE 4 σ) σ) (tuCs 4 s to dg q dk mc p fi kp cat sel tkn ct oth tk dp p.nv (DmOk (p.a1 4 s dg) (p.pw' 4)) σ) (tuEd P b (ktop P) theProg 4 s to dg q m dk f mc px p fi kp cat sel tkn ct oth tk dp hf [9,0,9,9,8,10,1,1,0,4,1,1,0,2,12,13,14,15,16,17,18,19,20,21,11,22,28,30,31,37,39,40,46,48,49,55,57,1,1,1,62,62,0,62,0,67,0,67,0,67,0,67,0,67,67,62,67,67,69,69,2,3,10,10,10,0,10,10,9,69,63,63,0,63,11,62,0,68,0,68,68,68,0,67,0,67,0,67,67,62,67,67,69,69,2,3,10,10,10,0,10,10,9,69,64,64,0,64,11,63,0,68,0,68,68,68,0,67,0,67,0,67,67,62,67,67,69,69,2,3,10,10,10,0,10,10,9,69,65,65,0,65,11,64,0,68,0,68,68,68,0,67,0,67,0,67,67,62,67,67,69,69,2,3,10,10,10,0,10,10,9,69,66,66,0,66,11,65,0,68,0,68,68,68,0,67,0,67,0,67,67,62,67,67,71,69,69,69,68,68,68,68,0,68,12,67,7,7,0,0,1,0,0,0,0,72,72,0,72,0,72,72,72,0,72,0,72,72,72,73,0,73,13,6,74,72,73,1,1,75,75,75,0,4,1,1,1,74,74,74,0,74,14,73,75,7,77,78,77,0,77,16,76,77,1,1,74,74,74,0,74,15,73,79,79,81,79,0,79,17,78,80,0,3,12,19,21,11,81,18,22,23,24,25,26,27,28,29,30,31,32,33,34,35,36,37,38,39,40,41,42,43,44,45,46,47,48,49,50,51,52,53,54,55,56,57,1,1,5,1,1,0,1,1,7,62,62,62,0,62,18,61,0,4,60,9,61,62,63,64,65,85,85,85,0,85,0,88,88,0,88,0,88,88,85,88,88,88,0,88,0,88,88,85,88,88,88,0,88,0,88,88,85,88,88,90,5,5,1,1,1,1,6,0,19,0,0,1,1,1,7,6,0,19,0,0,1,1,6,1,0,20,6,6,1,83,83,83,83,2,3,10,10,10,0,10,10,9,0,83,21,82,1,1,0,3,1,1,0,19,0,0,6,0,5,58,59,1,1,91,94,91,0,91,22,90,93,0,1,1,1,0,19,0,0,6,0,6,58,59,91,92,95,95,95,0,95,0,96,96,0,96,0,96,96,95,96,96,96,0,96,0,96,96,95,96,96,96,0,96,0,96,96,95,96,96,98,1,1,8,8,5,0,0,1,0,0,0,0,99,99,0,99,0,99,99,99,0,99,24,98,100,0,100,7,5,1,7,9,101,99,100,102,102,102,86,101,86,0,86,23,85,100,1,1,10,10,0,10,0,103,0,103,8,4,85,9,104,102,103,105,105,105,87,104,87,0,87,23,86,103,1] n t σ) := by
  rw [PySem.W.ZFast.tuEdY_eq]
  cases b <;> refine ⟨⟨?_, ?_, ?_, ?_, ?_, ?_⟩, ?_, ?_, ?_, ?_⟩ <;> kernel_rfl
@[irreducible] noncomputable def tuFd (P : Params) (b : Bool) (K : KT) (pg : Program) (W : Nat) (s to dg : Nat) (q : Nat → Nat) (m : Mc) (dk : DkS → DkM) (f : FnP) (mc : Nat → Mc) (px : Nat → LexD) (p : TuP) (fi : Bool → List Value → List Value → List Value) (kp : List Value → Int → Int → List Value) (cat : List Value → List Value → List Value) (sel : List (List Value) → Nat → List Value) (tkn : List Value → Nat → Tok) (ct : List Value → Value → Bool) (oth : (Nat → Tok) → List Value) (tk dp : List Value → List Value) (hf : Str → Int) (u : TvP) (orc : List Nat) (n t : Nat) (σ : Nat → Nat) : Ou :=
  goC (mkW P b K pg [sDeal K (tuDl m dk f mc px W (s + 1)), sGn sel K m.rc m.k mc W cat, sPnF sel W to fi u.cd.k136, sDvE, sDvF, sKept K hf kp, sGone K hf fi, sNext (.int (dg : Int) p.td), sItem (.str p.xs p.xt), sContF ct, sIdxB to, sOth K hf W to oth, sSlF tk, sSlF dp, sCatF cat, sCatF (ordV tkn cat q W), sLaid to, sV opMulS, sV opMulR, sIdx p.nw, sTupNe, sListNe, sRIter]) 20000 24 (turnC K p.it p.fr)
  (tuF K W s m mc px p u) n t σ
  orc
theorem tuFd_id : @tuFd = @tuFd := rfl
lay_z Mine.tuFd
end Mine
name_z tuFdY for Mine.tuFd by Mine.tuFd_id
namespace Mine
theorem tuF2_r (P : Params) (b : Bool) (s to dg : Nat) (q : Nat → Nat) (m : Mc) (dk : DkS → DkM) (f : FnP) (mc : Nat → Mc) (px : Nat → LexD) (p : TuP) (fi : Bool → List Value → List Value → List Value) (kp : List Value → Int → Int → List Value) (cat : List Value → List Value → List Value) (sel : List (List Value) → Nat → List Value) (tkn : List Value → Nat → Tok) (ct : List Value → Value → Bool) (oth : (Nat → Tok) → List Value) (tk dp : List Value → List Value) (hf : Str → Int) (u : TvP) (n t : Nat) (σ : Nat → Nat) : Go1 (turnC (ktop P) p.it p.fr) (List.range 43 ++ [43, 44, 45, 68, 66]) (tuOut (ktop P) 2 s to dg q m dk f mc px p fi cat sel p.hs p.ks u.hd u.hv u.cd σ) (tuCs 2 s to dg q dk mc p fi kp cat sel tkn ct oth tk dp u.hv (DvOk (p.a1 2 s dg) (p.pw' 2)) σ) (tuFd P b (ktop P) theProg 2 s to dg q m dk f mc px p fi kp cat sel tkn ct oth tk dp hf u [9,0,9,9,8,10,1,1,0,4,1,1,0,2,12,13,14,15,16,17,18,19,20,21,11,22,28,30,31,37,39,1,1,1,48,48,0,48,0,51,0,51,0,51,0,51,0,51,51,48,51,51,53,53,2,3,10,10,10,0,10,10,9,53,49,49,0,49,11,48,0,52,0,52,52,52,0,51,0,51,0,51,51,48,51,51,53,53,2,3,10,10,10,0,10,10,9,53,50,50,0,50,11,49,0,52,0,52,52,52,0,51,0,51,0,51,51,48,51,51,55,53,53,53,52,52,52,52,0,52,12,51,7,7,0,0,1,0,0,0,0,56,56,0,56,0,56,56,56,0,56,0,56,56,56,57,0,57,13,6,58,56,57,1,1,59,59,59,0,4,1,1,1,58,58,58,0,58,14,57,59,7,61,62,61,0,61,16,60,61,1,1,58,58,58,0,58,15,57,63,63,65,63,0,63,17,62,64,0,3,12,19,21,11,65,18,22,23,24,25,26,27,28,29,30,31,32,33,34,35,36,37,38,39,1,1,5,1,1,0,1,1,7,48,48,48,0,48,18,47,0,4,42,46,47,45,48,49,68,68,68,0,68,0,71,71,0,71,0,71,71,68,71,71,71,0,71,0,71,71,68,71,71,71,0,71,0,71,71,68,71,71,73,5,5,1,1,1,1,6,0,19,0,0,1,1,1,7,6,0,19,0,0,1,1,6,1,0,20,6,6,1,67,67,67,67,2,3,10,10,10,0,10,10,9,0,67,21,66,1,1,0,3,1,1,0,19,0,0,6,0,6,40,41,43,44,1,1,74,75,74,0,74,22,73,74,0,1,1,1,0,19,0,0,6,0,6,40,41,43,44,76,76,76,0,76,0,77,77,0,77,0,77,77,76,77,77,77,0,77,0,77,77,76,77,77,77,0,77,0,77,77,76,77,77,79,1,1,8,8,5,0,0,1,0,0,0,0,80,80,0,80,0,80,80,80,0,80,24,79,81,0,81,7,5,1,7,9,82,80,81,83,83,83,69,82,69,0,69,23,68,81,1,1,47,47,0,47,0,84,0,84,8,4,68,46,85,83,84,86,86,86,70,85,70,0,70,23,69,84,1] n t σ) := by
  rw [PySem.W.ZFast.tuFdY_eq]
  cases b <;> refine ⟨⟨?_, ?_, ?_, ?_, ?_, ?_⟩, ?_, ?_, ?_, ?_⟩ <;> kernel_rfl
theorem tuF3_r (P : Params) (b : Bool) (s to dg : Nat) (q : Nat → Nat) (m : Mc) (dk : DkS → DkM) (f : FnP) (mc : Nat → Mc) (px : Nat → LexD) (p : TuP) (fi : Bool → List Value → List Value → List Value) (kp : List Value → Int → Int → List Value) (cat : List Value → List Value → List Value) (sel : List (List Value) → Nat → List Value) (tkn : List Value → Nat → Tok) (ct : List Value → Value → Bool) (oth : (Nat → Tok) → List Value) (tk dp : List Value → List Value) (hf : Str → Int) (u : TvP) (n t : Nat) (σ : Nat → Nat) : Go1 (turnC (ktop P) p.it p.fr) (List.range 52 ++ [52, 53, 54, 78, 76]) (tuOut (ktop P) 3 s to dg q m dk f mc px p fi cat sel p.hs p.ks u.hd u.hv u.cd σ) (tuCs 3 s to dg q dk mc p fi kp cat sel tkn ct oth tk dp u.hv (DvOk (p.a1 3 s dg) (p.pw' 3)) σ) (tuFd P b (ktop P) theProg 3 s to dg q m dk f mc px p fi kp cat sel tkn ct oth tk dp hf u [9,0,9,9,8,10,1,1,0,4,1,1,0,2,12,13,14,15,16,17,18,19,20,21,11,22,28,30,31,37,39,40,46,48,1,1,1,57,57,0,57,0,61,0,61,0,61,0,61,0,61,61,57,61,61,63,63,2,3,10,10,10,0,10,10,9,63,58,58,0,58,11,57,0,62,0,62,62,62,0,61,0,61,0,61,61,57,61,61,63,63,2,3,10,10,10,0,10,10,9,63,59,59,0,59,11,58,0,62,0,62,62,62,0,61,0,61,0,61,61,57,61,61,63,63,2,3,10,10,10,0,10,10,9,63,60,60,0,60,11,59,0,62,0,62,62,62,0,61,0,61,0,61,61,57,61,61,65,63,63,63,62,62,62,62,0,62,12,61,7,7,0,0,1,0,0,0,0,66,66,0,66,0,66,66,66,0,66,0,66,66,66,67,0,67,13,6,68,66,67,1,1,69,69,69,0,4,1,1,1,68,68,68,0,68,14,67,69,7,71,72,71,0,71,16,70,71,1,1,68,68,68,0,68,15,67,73,73,75,73,0,73,17,72,74,0,3,12,19,21,11,75,18,22,23,24,25,26,27,28,29,30,31,32,33,34,35,36,37,38,39,40,41,42,43,44,45,46,47,48,1,1,5,1,1,0,1,1,7,57,57,57,0,57,18,56,0,4,51,55,56,54,57,58,59,78,78,78,0,78,0,81,81,0,81,0,81,81,78,81,81,81,0,81,0,81,81,78,81,81,81,0,81,0,81,81,78,81,81,83,5,5,1,1,1,1,6,0,19,0,0,1,1,1,7,6,0,19,0,0,1,1,6,1,0,20,6,6,1,77,77,77,77,2,3,10,10,10,0,10,10,9,0,77,21,76,1,1,0,3,1,1,0,19,0,0,6,0,6,49,50,52,53,1,1,84,85,84,0,84,22,83,84,0,1,1,1,0,19,0,0,6,0,6,49,50,52,53,86,86,86,0,86,0,87,87,0,87,0,87,87,86,87,87,87,0,87,0,87,87,86,87,87,87,0,87,0,87,87,86,87,87,89,1,1,8,8,5,0,0,1,0,0,0,0,90,90,0,90,0,90,90,90,0,90,24,89,91,0,91,7,5,1,7,9,92,90,91,93,93,93,79,92,79,0,79,23,78,91,1,1,56,56,0,56,0,94,0,94,8,4,78,55,95,93,94,96,96,96,80,95,80,0,80,23,79,94,1] n t σ) := by
  rw [PySem.W.ZFast.tuFdY_eq]
  cases b <;> refine ⟨⟨?_, ?_, ?_, ?_, ?_, ?_⟩, ?_, ?_, ?_, ?_⟩ <;> kernel_rfl
theorem tuF4_r (P : Params) (b : Bool) (s to dg : Nat) (q : Nat → Nat) (m : Mc) (dk : DkS → DkM) (f : FnP) (mc : Nat → Mc) (px : Nat → LexD) (p : TuP) (fi : Bool → List Value → List Value → List Value) (kp : List Value → Int → Int → List Value) (cat : List Value → List Value → List Value) (sel : List (List Value) → Nat → List Value) (tkn : List Value → Nat → Tok) (ct : List Value → Value → Bool) (oth : (Nat → Tok) → List Value) (tk dp : List Value → List Value) (hf : Str → Int) (u : TvP) (n t : Nat) (σ : Nat → Nat) : Go1 (turnC (ktop P) p.it p.fr) (List.range 61 ++ [61, 62, 63, 88, 86]) (tuOut (ktop P) 4 s to dg q m dk f mc px p fi cat sel p.hs p.ks u.hd u.hv u.cd σ) (tuCs 4 s to dg q dk mc p fi kp cat sel tkn ct oth tk dp u.hv (DvOk (p.a1 4 s dg) (p.pw' 4)) σ) (tuFd P b (ktop P) theProg 4 s to dg q m dk f mc px p fi kp cat sel tkn ct oth tk dp hf u [9,0,9,9,8,10,1,1,0,4,1,1,0,2,12,13,14,15,16,17,18,19,20,21,11,22,28,30,31,37,39,40,46,48,49,55,57,1,1,1,66,66,0,66,0,71,0,71,0,71,0,71,0,71,71,66,71,71,73,73,2,3,10,10,10,0,10,10,9,73,67,67,0,67,11,66,0,72,0,72,72,72,0,71,0,71,0,71,71,66,71,71,73,73,2,3,10,10,10,0,10,10,9,73,68,68,0,68,11,67,0,72,0,72,72,72,0,71,0,71,0,71,71,66,71,71,73,73,2,3,10,10,10,0,10,10,9,73,69,69,0,69,11,68,0,72,0,72,72,72,0,71,0,71,0,71,71,66,71,71,73,73,2,3,10,10,10,0,10,10,9,73,70,70,0,70,11,69,0,72,0,72,72,72,0,71,0,71,0,71,71,66,71,71,75,73,73,73,72,72,72,72,0,72,12,71,7,7,0,0,1,0,0,0,0,76,76,0,76,0,76,76,76,0,76,0,76,76,76,77,0,77,13,6,78,76,77,1,1,79,79,79,0,4,1,1,1,78,78,78,0,78,14,77,79,7,81,82,81,0,81,16,80,81,1,1,78,78,78,0,78,15,77,83,83,85,83,0,83,17,82,84,0,3,12,19,21,11,85,18,22,23,24,25,26,27,28,29,30,31,32,33,34,35,36,37,38,39,40,41,42,43,44,45,46,47,48,49,50,51,52,53,54,55,56,57,1,1,5,1,1,0,1,1,7,66,66,66,0,66,18,65,0,4,60,64,65,63,66,67,68,69,88,88,88,0,88,0,91,91,0,91,0,91,91,88,91,91,91,0,91,0,91,91,88,91,91,91,0,91,0,91,91,88,91,91,93,5,5,1,1,1,1,6,0,19,0,0,1,1,1,7,6,0,19,0,0,1,1,6,1,0,20,6,6,1,87,87,87,87,2,3,10,10,10,0,10,10,9,0,87,21,86,1,1,0,3,1,1,0,19,0,0,6,0,6,58,59,61,62,1,1,94,95,94,0,94,22,93,94,0,1,1,1,0,19,0,0,6,0,6,58,59,61,62,96,96,96,0,96,0,97,97,0,97,0,97,97,96,97,97,97,0,97,0,97,97,96,97,97,97,0,97,0,97,97,96,97,97,99,1,1,8,8,5,0,0,1,0,0,0,0,100,100,0,100,0,100,100,100,0,100,24,99,101,0,101,7,5,1,7,9,102,100,101,103,103,103,89,102,89,0,89,23,88,101,1,1,65,65,0,65,0,104,0,104,8,4,88,64,105,103,104,106,106,106,90,105,90,0,90,23,89,104,1] n t σ) := by
  rw [PySem.W.ZFast.tuFdY_eq]
  cases b <;> refine ⟨⟨?_, ?_, ?_, ?_, ?_, ?_⟩, ?_, ?_, ?_, ?_⟩ <;> kernel_rfl
end Mine
end
section
open PySem PySem.W PySem.W.X PyProof.Rows
namespace Mine
theorem nmS_inj : ∀ i, i < 16 → ∀ j, j < 16 → nmS i = nmS j → i = j := by decide +kernel
theorem nmS_ne (k : Nat) : nmS k ≠ ⟨#[]⟩ := fun e => by
  have e : (nameT k).toArray = #[] := congrArg Str.cps e
  unfold nameT at e
  split at e <;> cases e
theorem hasN_iff {k : Nat} : ∀ {l : List Nat}, hasN k l = decide (k ∈ l)
  | [] => by simp [hasN]
  | x :: r => by
    unfold hasN
    cases h : Nat.beq k x with
    | true =>
      have := Nat.eq_of_beq_eq_true h
      simp [this]
    | false =>
      have : k ≠ x := fun e => by subst e; rw [Nat.beq_refl] at h; cases h
      simp [hasN_iff (l := r), this]
theorem eqL_eq : ∀ {l q : List Nat}, eqL l q = true → l = q
  | [], [], _ => rfl
  | x :: r, y :: q, h => by
    unfold eqL at h
    split at h
    · rename_i e
      rw [Nat.eq_of_beq_eq_true e, eqL_eq h]
    · cases h
  | [], _ :: _, h => by cases h
  | _ :: _, [], h => by cases h
theorem getN_get : ∀ {l : List Nat} {i : Nat} (h : i < l.length), getN l i = l[i]
  | x :: r, 0, _ => rfl
  | x :: r, i + 1, h => by
    exact getN_get (l := r) (Nat.lt_of_succ_lt_succ h)
theorem map_getN (p : List Nat) : (List.range p.length).map (getN p) = p := by
  refine List.ext_getElem (by simp) fun i h1 h2 => ?_
  rw [List.getElem_map, List.getElem_range, getN_get h2]
theorem getN_range {n k : Nat} (h : k < n) : getN (List.range n) k = k := by
  rw [getN_get (by simpa using h), List.getElem_range]
theorem idxN_spec {k : Nat} : ∀ {l : List Nat}, k ∈ l → l[idxN k l]? = some k ∧ ∀ m, m < idxN k l → l[m]? ≠ some k
  | [], h => nomatch h
  | x :: r, h => by
    unfold idxN
    cases e : Nat.beq k x with
    | true =>
      have := Nat.eq_of_beq_eq_true e
      subst this
      exact ⟨rfl, fun m hm => (nomatch hm)⟩
    | false =>
      have hx : k ≠ x := fun q => by subst q; rw [Nat.beq_refl] at e; cases e
      have ih := idxN_spec (l := r) (by rcases List.mem_cons.mp h with q | q; exact absurd q hx; exact q)
      refine ⟨ih.1, fun m hm => ?_⟩
      cases m with
      | zero => intro q; exact hx (Option.some.inj q).symm
      | succ m => exact ih.2 m (Nat.lt_of_succ_lt_succ (show m + 1 < idxN k r + 1 from hm))
theorem idxN_lt {k : Nat} {l : List Nat} (h : k ∈ l) : idxN k l < l.length := (List.getElem?_eq_some_iff.mp (idxN_spec h).1).1
theorem mem_nm {k : Nat} {l : List Nat} (hk : k < 16) (hl : ∀ x ∈ l, x < 16) : (nmS k ∈ l.map nmS) ↔ k ∈ l := by
  rw [List.mem_map]
  exact ⟨fun ⟨x, hx, e⟩ => nmS_inj _ (hl x hx) _ hk e ▸ hx, fun h => ⟨k, h, rfl⟩⟩
theorem strs_filter {P : Value → Bool} {Q : Nat → Bool} : ∀ {ks : List Nat} {vs : List Value}, StrsAre vs (ks.map nmS) → (∀ k ∈ ks, ∀ t, P (.str (nmS k) t) = Q k) → StrsAre (vs.filter P) ((ks.filter Q).map nmS)
  | [], vs, h, _ => by cases h; exact .nil
  | k :: r, vs, h, H => by
    rw [List.map_cons] at h
    cases h with
    | cons y t h' =>
      rw [List.filter_cons, List.filter_cons, H k (.head _) t]
      have ih := strs_filter h' fun k hk t => H k (.tail _ hk) t
      cases Q k with
      | true => exact .cons _ _ ih
      | false => exact ih
theorem order_map {W : Nat} (hW : W = 2 ∨ W = 3 ∨ W = 4) : ∀ told, told < W → ∀ d, d < W → (List.range W).map (getN (orderN W told d)) = orderN W told d := by
  rcases hW with rfl | rfl | rfl <;> decide +kernel
theorem order_perm {W s : Nat} (hW : W = 2 ∨ W = 3 ∨ W = 4) (hs : s = 2 ∨ s = 3 ∨ s = 4) : ∀ told, told < W → ∀ d, d < W → ((orderN W told d).flatMap fun j => (List.range s).map fun x => W * x + j).isPerm (List.range (W * s)) = true := by
  rcases hW with rfl | rfl | rfl <;> rcases hs with rfl | rfl | rfl <;> decide +kernel
theorem row_perm {W s told d : Nat} {p : List Nat} (hW : W = 2 ∨ W = 3 ∨ W = 4) (hs : s = 2 ∨ s = 3 ∨ s = 4) (ht : told < W) (hd : d < W) (hp : p.length = W * s) : (rowN W s told d p).Perm p := by
  have h := (List.isPerm_iff.mp (order_perm hW hs told ht d hd)).map (getN p)
  rw [← hp, map_getN] at h
  refine .trans (.of_eq ?_) h
  unfold rowN pileN
  rw [List.map_flatMap]
  simp only [List.map_map]
  rfl
structure InvN (W s place : Nat) (st : StN) : Prop where
  perm : st.p.Perm (List.range (W * s))
  hands : ∀ k ∈ st.hands, k < 16
  here : place ∈ st.hands
  len : st.hands.length ≤ 16
theorem InvN.start {W s place : Nat} (hc : W * s ≤ 16) (hp : place < W * s) : InvN W s place (startN (W * s)) :=
  ⟨.refl _, fun k hk => Nat.lt_of_lt_of_le (List.mem_range.mp hk) hc, List.mem_range.mpr hp, by simpa [startN] using hc⟩
theorem InvN.mem {W s place : Nat} {st : StN} (I : InvN W s place st) (hc : W * s ≤ 16) : ∀ k ∈ st.p, k < 16 := fun k hk => Nat.lt_of_lt_of_le (List.mem_range.mp (I.perm.mem_iff.mp hk)) hc
theorem InvN.length {W s place : Nat} {st : StN} (I : InvN W s place st) : st.p.length = W * s := by rw [I.perm.length_eq, List.length_range]
theorem getN_lt16 {p : List Nat} (h : ∀ k ∈ p, k < 16) (i : Nat) : getN p i < 16 := by
  by_cases q : i < p.length
  · rw [getN_get q]; exact h _ (List.getElem_mem q)
  · have : ∀ (p : List Nat) i, p.length ≤ i → getN p i = 0 := by
      intro p
      induction p with
      | nil => intro i _; rfl
      | cons x r ih => intro i hi; cases i with
        | zero => simp at hi
        | succ i => exact ih i (by simpa using hi)
    rw [this p i (by omega)]; decide
theorem pile_lt {W s j : Nat} {p : List Nat} (h : ∀ k ∈ p, k < 16) : ∀ k ∈ pileN W s j p, k < 16 := fun k hk => by
  obtain ⟨x, _, rfl⟩ := List.mem_map.mp hk
  exact getN_lt16 h _
structure TF (W s place told : Nat) (st st' : StN) : Prop where
  lt : told < W
  only : ∀ j, j < W → decide (place ∈ pileN W s j st.p) = decide (j = told)
  dv : ((place : Int) + st'.he * ((W * s : Nat) : Int)) / st'.pw = st'.now
  md : ((place : Int) + st'.he * ((W * s : Nat) : Int)) % st'.pw = st'.te
  kept : st'.hands = keptN (W * s) st'.pw st'.low
  dm1 : DmOk ((place : Int) + st'.he * ((W * s : Nat) : Int)) st'.pw
  dm2 : DvOk (st'.te - st'.he * ((W * s : Nat) : Int)) st'.pw
theorem tf_of {W s place told : Nat} {st st' : StN} (h : okN W s place told st.p st' = true) : TF W s place told st st' := by
  unfold okN at h
  simp only [Bool.and_eq_true, Bool.or_eq_true, decide_eq_true_eq] at h
  obtain ⟨⟨⟨⟨⟨⟨⟨⟨⟨h1, h2⟩, h3⟩, h4⟩, h5⟩, h6⟩, h7⟩, h8⟩, h9⟩, h10⟩ := h
  refine ⟨blt_true h1, fun j hj => ?_, h3, h4, eqL_eq h5, ⟨h6, h7, h8, h9⟩, ⟨?_⟩⟩
  · unfold onlyN at h2
    have := List.all_eq_true.mp h2 j (List.mem_range.mpr hj)
    rw [hasN_iff] at this
    have be : Nat.beq j told = decide (j = told) := by
      cases e : Nat.beq j told with
      | true => simp [Nat.eq_of_beq_eq_true e]
      | false => exact (decide_eq_false fun q => by subst q; rw [Nat.beq_refl] at e; cases e).symm
    cases q : decide (place ∈ pileN W s j st.p) with
    | true => rw [q] at this; rw [← be]; exact this.symm
    | false => rw [q] at this; rw [← be]; simpa using this
  · rcases h10 with ⟨a, b⟩ | ⟨a, b⟩
    · exact .inl ⟨h6, h7, a, b⟩
    · exact .inr ⟨a, ⟨h6, h7, by omega, b⟩⟩
section
variable {W s place told d : Nat} {st : StN} {xt : Tok} {hv nv : List Value} {L : Nat → List Value}
noncomputable def PilL (W s : Nat) (st : StN) (L : Nat → List Value) : Prop := ∀ j, j < W → StrsAre (L j) ((pileN W s j st.p).map nmS)
noncomputable def ctI (vs : List Value) (x : Value) : Bool := decide (sOf x ∈ vs.map sOf)
theorem ct_ok (hL : PilL W s st L) {j : Nat} (hj : j < W) {y : Str} : CT (L j) (.str y xt) (ctI (L j) (.str y xt)) :=
  ⟨_, y, xt, hL j hj, rfl, by unfold ctI; rw [strsAre_map (hL j hj)]; rfl⟩
theorem tf_ct (hL : PilL W s st L) (I : InvN W s place st) (hc : W * s ≤ 16) (hp : place < 16) {st' : StN} (F : TF W s place told st st') {j : Nat} (hj : j < W) : ctI (L j) (.str (nmS place) xt) = decide (j = told) := by
  unfold ctI
  rw [strsAre_map (hL j hj), ← F.only j hj]
  exact decide_eq_decide.mpr (mem_nm hp (pile_lt (I.mem hc)))
theorem tf_ixb (hL : PilL W s st L) (I : InvN W s place st) (hc : W * s ≤ 16) (hp : place < 16) {st' : StN} (F : TF W s place told st st') (h4 : W ≤ 4) : IXB (upN (fun j => .bool (ctI (L j) (.str (nmS place) xt))) W 0) (.bool true) told := by
  refine ⟨rfl, (List.range W).map fun j => ctI (L j) (.str (nmS place) xt), ?_, by have := F.lt; omega, ?_, fun m hm => ?_⟩
  · rw [upN_eq, List.map_map]
    exact List.map_congr_left fun x _ => by rw [Nat.zero_add]; rfl
  · have := tf_ct (xt := xt) hL I hc hp F F.lt
    simp [F.lt, this]
  · have := F.lt
    have q := tf_ct (xt := xt) hL I hc hp F (show m < W by omega)
    rw [decide_eq_false (show m ≠ told by omega)] at q
    simp [show m < W by omega, q]
theorem next_p (ht : toldN W s place st.p W 0 = told) : (nextN W s place st d).p = rowN W s told d st.p := by subst ht; rfl
theorem next_hands (ht : toldN W s place st.p W 0 = told) : (nextN W s place st d).hands = st.hands.filter fun k => hasN k (pileN W s told st.p) := by subst ht; rfl
theorem upL_get (F : Nat → List Value) : ∀ k i x, x < k → selI (upL F k i) x = F (i + x)
  | 0, _, _, h => absurd h (by omega)
  | k + 1, i, 0, _ => rfl
  | k + 1, i, x + 1, h => by
    show selI (upL F k (i + 1)) x = _
    rw [upL_get F k (i + 1) x (by omega), Nat.add_assoc, Nat.add_comm 1]
theorem strs_app {a b : List Value} {c e : List Str} (h : StrsAre a c) (h' : StrsAre b e) : StrsAre (a ++ b) (c ++ e) := by
  induction h with
  | nil => exact h'
  | cons y t _ ih => exact .cons y t ih
noncomputable def qN (W told d : Nat) : Nat → Nat := getN (orderN W told d)
noncomputable def rowL (L : Nat → List Value) (W : Nat) (q : Nat → Nat) : List Value := gaRow catI (fun i => selI (upL L W 0) (q i)) W
theorem order_lt {W : Nat} (hW : W = 2 ∨ W = 3 ∨ W = 4) : ∀ told, told < W → ∀ d, d < W → (orderN W told d).isPerm (List.range W) = true := by
  rcases hW with rfl | rfl | rfl <;> decide +kernel
theorem qN_perm (hW : W = 2 ∨ W = 3 ∨ W = 4) (ht : told < W) (hd : d < W) : (upQ (qN W told d) W 0).Perm (List.range W) := by
  rw [upQ_eq]
  have := List.isPerm_iff.mp (order_lt hW told ht d hd)
  rw [← order_map hW told ht d hd] at this
  simpa [qN] using this
theorem qN_lt (hW : W = 2 ∨ W = 3 ∨ W = 4) (ht : told < W) (hd : d < W) {i : Nat} (hi : i < W) : qN W told d i < W :=
  List.mem_range.mp ((upQ_perm (qN_perm hW ht hd)).mem_iff.mp (List.mem_map_of_mem (List.mem_range.mpr hi)))
theorem row_strs (hL : PilL W s st L) (hW : W = 2 ∨ W = 3 ∨ W = 4) (ht : told < W) (hd : d < W) : StrsAre (rowL L W (qN W told d)) ((rowN W s told d st.p).map nmS) := by
  have H : ∀ k, k ≤ W → StrsAre (gaRow catI (fun i => selI (upL L W 0) (qN W told d i)) k) (((List.range k).flatMap fun i => pileN W s (qN W told d i) st.p).map nmS) := by
    intro k
    induction k with
    | zero => intro _; exact .nil
    | succ k ih =>
      intro hk
      have hq := qN_lt hW ht hd (i := k) (by omega)
      rw [List.range_succ, List.flatMap_append, List.map_append, gaRow]
      refine strs_app (ih (by omega)) ?_
      rw [upL_get L W 0 _ hq, Nat.zero_add]
      simpa using hL _ hq
  have e : rowN W s told d st.p = (List.range W).flatMap fun i => pileN W s (qN W told d i) st.p := by
    unfold rowN qN
    conv => lhs; rw [← order_map hW told ht d hd]
    rw [List.flatMap_map]
  rw [e]
  exact H W (Nat.le_refl _)
theorem row_mem (hW : W = 2 ∨ W = 3 ∨ W = 4) (hs : s = 2 ∨ s = 3 ∨ s = 4) (I : InvN W s place st) (hpl : place < W * s) (ht : told < W) (hd : d < W) : place ∈ rowN W s told d st.p :=
  (row_perm hW hs ht hd I.length).mem_iff.mpr (I.perm.mem_iff.mpr (List.mem_range.mpr hpl))
theorem cnt_le (hW : W = 2 ∨ W = 3 ∨ W = 4) (hs : s = 2 ∨ s = 3 ∨ s = 4) : W * s ≤ 16 := by rcases hW with rfl | rfl | rfl <;> rcases hs with rfl | rfl | rfl <;> decide
theorem cnt_pos (hW : W = 2 ∨ W = 3 ∨ W = 4) (hs : s = 2 ∨ s = 3 ∨ s = 4) : 4 ≤ W * s := by rcases hW with rfl | rfl | rfl <;> rcases hs with rfl | rfl | rfl <;> decide
theorem tf_ix (hW : W = 2 ∨ W = 3 ∨ W = 4) (hs : s = 2 ∨ s = 3 ∨ s = 4) (hL : PilL W s st L) (I : InvN W s place st) (hpl : place < W * s) (ht : told < W) (hd : d < W) : IX (rowL L W (qN W told d)) (.str (nmS place) xt) ((idxN place (rowN W s told d st.p) : Nat) : Int) := by
  have hm := row_mem hW hs I hpl ht hd
  have hc := cnt_le hW hs
  have hlen : (rowN W s told d st.p).length = W * s := by rw [(row_perm hW hs ht hd I.length).length_eq, I.length]
  have hl := idxN_lt hm
  obtain ⟨s1, s2⟩ := idxN_spec hm
  refine ⟨⟨_, _, _, _, row_strs hL hW ht hd, rfl, rfl, by omega, ?_, fun m hlt e => ?_⟩⟩
  · rw [List.getElem?_map, s1]; rfl
  · rw [List.getElem?_map] at e
    cases q : (rowN W s told d st.p)[m]? with
    | none => rw [q] at e; cases e
    | some v =>
      rw [q] at e
      have hv := List.mem_of_getElem? q
      have h16 : v < 16 := Nat.lt_of_lt_of_le (List.mem_range.mp (I.perm.mem_iff.mp ((row_perm hW hs ht hd I.length).mem_iff.mp hv))) hc
      have := nmS_inj v h16 place (by omega) (Option.some.inj e)
      subst this
      exact s2 m hlt q
theorem in_pile (hL : PilL W s st L) (I : InvN W s place st) (hc : W * s ≤ 16) {k : Nat} (hk : k < 16) {t : Tok} (ht : told < W) : decide (sOf (.str (nmS k) t) ∈ (L told).map sOf) = hasN k (pileN W s told st.p) := by
  rw [strsAre_map (hL told ht), hasN_iff]
  exact decide_eq_decide.mpr (mem_nm hk (pile_lt (I.mem hc)))
theorem yes_strs (hL : PilL W s st L) (I : InvN W s place st) (hc : W * s ≤ 16) (ht : told < W) (h : StrsAre hv (st.hands.map nmS)) : StrsAre (fiI true hv (L told)) ((st.hands.filter fun k => hasN k (pileN W s told st.p)).map nmS) :=
  strs_filter h fun k hk t => by rw [in_pile hL I hc (I.hands k hk) ht]; cases hasN k (pileN W s told st.p) <;> rfl
theorem no_strs (hL : PilL W s st L) (I : InvN W s place st) (hc : W * s ≤ 16) (ht : told < W) (h : StrsAre hv (st.hands.map nmS)) : StrsAre (fiI false hv (L told)) ((st.hands.filter fun k => !hasN k (pileN W s told st.p)).map nmS) :=
  strs_filter h fun k hk t => by rw [in_pile hL I hc (I.hands k hk) ht]; cases hasN k (pileN W s told st.p) <;> rfl
theorem here' {st' : StN} (I : InvN W s place st) (F : TF W s place told st st') : place ∈ st.hands.filter fun k => hasN k (pileN W s told st.p) := by
  refine List.mem_filter.mpr ⟨I.here, ?_⟩
  rw [hasN_iff, F.only told F.lt]
  simp
theorem InvN.next (hW : W = 2 ∨ W = 3 ∨ W = 4) (hs : s = 2 ∨ s = 3 ∨ s = 4) (I : InvN W s place st) (ht : toldN W s place st.p W 0 = told) (hd : d < W) (F : TF W s place told st (nextN W s place st d)) : InvN W s place (nextN W s place st d) := by
  refine ⟨?_, ?_, ?_, ?_⟩
  · rw [next_p ht]; exact (row_perm hW hs F.lt hd I.length).trans I.perm
  · rw [next_hands ht]; exact fun k hk => I.hands k (List.mem_filter.mp hk).1
  · rw [next_hands ht]; exact here' I F
  · rw [next_hands ht]; exact Nat.le_trans (List.length_filter_le _ _) I.len
theorem strs_ne {vs : List Value} {l : List Nat} (h : StrsAre vs (l.map nmS)) (hl : l ≠ []) : vs ≠ [] := fun e => by
  subst e
  cases l with
  | nil => exact hl rfl
  | cons x r => rw [List.map_cons] at h; cases h
theorem hv_len (I : InvN W s place st) (h : StrsAre hv (st.hands.map nmS)) : hv.length ≤ 16 := by
  have := strsAre_len h
  rw [List.length_map] at this
  have := I.len
  omega
theorem tf_part (hL : PilL W s st L) (I : InvN W s place st) (ht : told < W) (h : StrsAre hv (st.hands.map nmS)) : SpOk hv (L told) :=
  ⟨⟨_, h⟩, ⟨_, hL told ht⟩, strs_ne h (List.ne_nil_of_mem I.here), by have := hv_len I h; omega⟩
theorem tf_gone (hL : PilL W s st L) (I : InvN W s place st) (hc : W * s ≤ 16) (ht : told < W) (h : StrsAre hv (st.hands.map nmS)) : SpOk hv (fiI true hv (L told)) :=
  ⟨⟨_, h⟩, ⟨_, yes_strs hL I hc ht h⟩, strs_ne h (List.ne_nil_of_mem I.here), by have := hv_len I h; omega⟩
theorem tf_kept {ct : Nat} {pw : Int} (h4 : 4 ≤ ct) (h16 : ct ≤ 16) (hp : 0 < pw) (h : StrsAre nv ((List.range ct).map nmS)) : KeptOk nv pw (ct : Int) := by
  have := strsAre_len h
  rw [List.length_map, List.length_range] at this
  exact ⟨by omega, hp, fun e => by subst e; simp at this; omega, by omega⟩
theorem kept_strs {c : Nat} {pw lo : Int} (hh : StrsAre nv ((List.range c).map nmS)) : ∀ m k : Nat, k + m ≤ c → StrsAre (keptL nv pw lo m k) (((List.range' k m).filter fun (k : Nat) => decide ((k : Int) % pw = lo)).map nmS)
  | 0, _, _ => .nil
  | m + 1, k, hk => by
    unfold keptL
    rw [List.range'_succ, List.filter_cons]
    have ih := kept_strs (pw := pw) (lo := lo) hh m (k + 1) (by omega)
    by_cases q : (k : Int) % pw = lo
    · simp only [q, decide_true, if_true, cond_true]
      have hl := strsAre_len hh
      rw [List.length_map, List.length_range] at hl
      obtain ⟨y, t, e1, e2⟩ := strsAre_get hh k (nv[k]'(by omega)) (by simp)
      have : nv.getD k .none = .str (nmS k) t := by
        rw [List.getElem?_map, List.getElem?_range (by omega)] at e2
        cases e2
        rw [List.getD_eq_getElem?_getD, List.getElem?_eq_getElem (by omega), Option.getD_some, e1]
      rw [this]
      exact .cons _ _ ih
    · simp only [q, decide_false, cond_false]
      exact ih
theorem tf_same1 (hL : PilL W s st L) {st' : StN} (I : InvN W s place st) (hc : W * s ≤ 16) (F : TF W s place told st st') (e : st'.hands = st.hands.filter fun k => hasN k (pileN W s told st.p)) (h : StrsAre hv (st.hands.map nmS)) (hn : StrsAre nv ((List.range (W * s)).map nmS)) : SameT (fiI true hv (L told)) (kpI nv st'.pw st'.low) := by
  refine ⟨_, yes_strs hL I hc F.lt h, ?_⟩
  rw [← e, F.kept]
  have hl := strsAre_len hn
  rw [List.length_map, List.length_range] at hl
  unfold kpI keptN
  rw [hl, List.range_eq_range']
  exact kept_strs hn (W * s) 0 (by omega)
theorem dec_not {p q : Prop} [Decidable p] [Decidable q] (h : p ↔ q) : (decide p == false) = !decide q := by
  rw [decide_eq_decide.mpr h]; cases decide q <;> rfl
theorem tf_same2 (hL : PilL W s st L) (I : InvN W s place st) (hc : W * s ≤ 16) (ht : told < W) (h : StrsAre hv (st.hands.map nmS)) : SameT (fiI false hv (L told)) (fiI false hv (fiI true hv (L told))) := by
  refine ⟨_, no_strs hL I hc ht h, ?_⟩
  refine strs_filter h fun k hk t => ?_
  rw [strsAre_map (yes_strs hL I hc ht h), hasN_iff]
  have z : (nmS k ∈ (st.hands.filter fun k => hasN k (pileN W s told st.p)).map nmS) ↔ k ∈ pileN W s told st.p := by
    rw [mem_nm (I.hands k hk) (fun x hx => I.hands x (List.mem_filter.mp hx).1), List.mem_filter, hasN_iff, decide_eq_true_eq]
    exact ⟨fun q => q.2, fun q => ⟨hk, q⟩⟩
  exact dec_not z
theorem oth_len : ∀ m k (τ : Nat → Tok), (othV told τ m k).length ≤ m
  | 0, _, _ => Nat.le_refl _
  | m + 1, k, τ => by
    unfold othV
    split
    · exact Nat.le_succ_of_le (oth_len m (k + 1) τ)
    · exact Nat.succ_le_succ (oth_len m (k + 1) τ)
theorem sl_take {l : List Value} (h : l.length ≤ 3) : SlIs l none (some (d : Int)) (l.take d) := ⟨by rw [slicePick_upto'], by omega⟩
theorem sl_drop {l : List Value} (h : l.length ≤ 3) : SlIs l (some (d : Int)) none (l.drop d) := ⟨by rw [slicePick_from'], by omega⟩
noncomputable def tknI (l : List Value) (i : Nat) : Tok := tokV (l.getD i .none)
noncomputable def intsB : List Value → List Nat → Bool
  | [], [] => true
  | .int (.ofNat k) _ :: r, n :: q => Nat.beq k n && intsB r q
  | _, _ => false
theorem intsB_eq {vs : List Value} : ∀ {ns : List Nat} (q : Nat → Nat) (g : Nat → Value) (i : Nat), intsB vs ns = true → (∀ x, x < ns.length → q (i + x) = ns.getD x 0 ∧ g (i + x) = vs.getD x .none) → vs = upN (fun j => .int (q j : Int) (tokV (g j))) ns.length i := by
  induction vs with
  | nil =>
    intro ns q g i h H
    cases ns with
    | nil => rfl
    | cons _ _ => cases h
  | cons v r ih =>
    intro ns q g i h H
    unfold intsB at h
    split at h
    · rename_i e; cases e
    · rename_i k t r' n ns' e
      cases e
      obtain ⟨e, hh⟩ := Bool.and_eq_true_iff.mp h
      have e := Nat.eq_of_beq_eq_true e
      subst e
      have h0 := H 0 (by simp)
      rw [List.length_cons, upN]
      refine congr (congrArg List.cons ?_) (ih q g (i + 1) hh fun x hx => ?_)
      · rw [show q i = k from h0.1, show g i = .int (Int.ofNat k) t from h0.2]; rfl
      · have := H (x + 1) (by simpa using hx)
        rw [show i + 1 + x = i + (x + 1) by omega]
        exact this
    · cases h
theorem ord_b (hW : W = 2 ∨ W = 3 ∨ W = 4) (τ : Nat → Tok) (tt : Tok) (ht : told < W) (hd : d < W) : intsB (catI (catI ((othV told τ W 0).take d) [.int (told : Int) tt]) ((othV told τ W 0).drop d)) (orderN W told d) = true := by
  rcases hW with rfl | rfl | rfl
  · match told, ht, d, hd with
    | 0, _, 0, _ => rfl
    | 0, _, 1, _ => rfl
    | 1, _, 0, _ => rfl
    | 1, _, 1, _ => rfl
  · match told, ht, d, hd with
    | 0, _, 0, _ => rfl
    | 0, _, 1, _ => rfl
    | 0, _, 2, _ => rfl
    | 1, _, 0, _ => rfl
    | 1, _, 1, _ => rfl
    | 1, _, 2, _ => rfl
    | 2, _, 0, _ => rfl
    | 2, _, 1, _ => rfl
    | 2, _, 2, _ => rfl
  · match told, ht, d, hd with
    | 0, _, 0, _ => rfl
    | 0, _, 1, _ => rfl
    | 0, _, 2, _ => rfl
    | 0, _, 3, _ => rfl
    | 1, _, 0, _ => rfl
    | 1, _, 1, _ => rfl
    | 1, _, 2, _ => rfl
    | 1, _, 3, _ => rfl
    | 2, _, 0, _ => rfl
    | 2, _, 1, _ => rfl
    | 2, _, 2, _ => rfl
    | 2, _, 3, _ => rfl
    | 3, _, 0, _ => rfl
    | 3, _, 1, _ => rfl
    | 3, _, 2, _ => rfl
    | 3, _, 3, _ => rfl
end
end Mine
end
section
open PySem PySem.W PySem.W.X PyProof.Rows
namespace Mine
structure TwP where
  (he te pw i : Int) (th tt tpw : Tok) (hs : Nat → Int) (ks : Nat → Tok) (d : DkS) (eps : Nat → Nat) (tps : Nat → Tok)
noncomputable def TuP.w (p : TuP) (v : TwP) (nw : Int) (td : Tok) : TuP := ⟨p.nm, p.fr, p.ah, p.it, p.pls, p.el, p.en, p.ea, p.nv, p.av, p.pl, v.he, v.te, v.pw, nw, v.i, p.tp, p.tw, p.tct, v.th, v.tt, v.tpw, td, p.xs, p.xt, v.hs, v.ks, v.d, v.eps, v.tps⟩
noncomputable def tuG (K : KT) (W s : Nat) (m : Mc) (mc : Nat → Mc) (px : Nat → LexD) (p : TuP) (u : TvP) (ra : Nat) (rv : List Value) (er : Nat) : Sto :=
  tuE K W m mc px p (frB p.hs p.ks (.int (W : Int) p.tw) (.ref p.ah) (.int (tuCt W s) p.tct) (.ref p.pls) (.int p.he p.th) (.int p.te p.tt) u.v6 u.v7 u.v8 u.v9 u.v10 u.v11 u.v12 u.v13) (cellOf (.ref u.hd)) (cellOf (.int p.pw p.tpw)) (cellOf u.w6) (cellOf u.w7) (liO p.ah p.i) p.d p.eps p.tps
    [(30, t30 u.cd.c30), (37, t37 u.cd.c37), (136, t136 u.cd.c136), (u.cd.c30, code30 u.cd.k30), (u.cd.c37, code37 u.cd.k37), (u.cd.c136, code136 u.cd.k136), (u.hd, lst u.hv u.eh), (ra, lst rv er)]
theorem tuG_eq {K : KT} {W s : Nat} {m : Mc} {mc : Nat → Mc} {px : Nat → LexD} {p : TuP} {u : TvP} {ra : Nat} {rv : List Value} {er : Nat} : tuG K W s m mc px p u ra rv er = tuF K W s m mc px p u ++ [(ra, lst rv er)] := by
  simp [tuG, tuF, tuE]
structure TuFx (W s place : Nat) (mc : Nat → Mc) (p : TuP) : Prop where
  hW : W = 2 ∨ W = 3 ∨ W = 4
  hs : s + 1 = 2 ∨ s + 1 = 3 ∨ s + 1 = 4
  pl : place < W * (s + 1)
  sh : ∀ i, (mc i).sheet = ⟨#[]⟩
  nv : StrsAre p.nv ((List.range (W * (s + 1))).map nmS)
  ep : p.pl = (place : Int)
  xs : p.xs = nmS place
  it : ItemV p.nv (.int p.pl p.tp) (.str p.xs p.xt)
theorem dlV_pil {W s : Nat} {st : StN} {y : Nat → Str} {σ : Nat → Nat} (h : ∀ k, k < W * s → y k = nmS (getN st.p k)) : PilL W s st fun j => dlV W s y j σ := fun j hj => by
  have e : (pileN W s j st.p).map nmS = everyW W s j y := by
    unfold pileN everyW
    rw [List.map_map]
    refine List.map_congr_left fun x hx => (h _ ?_).symm
    have hx := List.mem_range.mp hx
    have : W * (x + 1) ≤ W * s := Nat.mul_le_mul_left W hx
    rw [Nat.mul_succ] at this
    omega
  rw [e]
  exact dlV_strs
section
variable {W s place to dg : Nat} {mc : Nat → Mc} {p : TuP} {st : StN}
theorem tu_cc {dk : DkS → DkM} {σ : Nat → Nat} (hL : PilL W (s + 1) st fun j => tuL dk p W s j σ) (hi : ItemV p.nv (.int p.pl p.tp) (.str p.xs p.xt)) : ∀ j, j ≤ W → AllP (tuCc dk p ctI W s σ j)
  | 0, _ => trivial
  | j + 1, h => ⟨ct_ok hL h, hi, tu_cc hL hi j (by omega)⟩
theorem tu_cs {dk : DkS → DkM} {hv : List Value} {dm : Prop} {σ : Nat → Nat} (Fx : TuFx W s place mc p) (I : InvN W (s + 1) place st) (hto : toldN W (s + 1) place st.p W 0 = to) (hd : dg < W) (F : TF W (s + 1) place to st (nextN W (s + 1) place st dg))
    (he : p.he = st.he) (te : p.te = st.te) (pw : p.pw = st.pw) (nw : p.nw = (nextN W (s + 1) place st dg).now) (hy : ∀ k, k < W * (s + 1) → (dk p.d).y k = nmS (getN st.p k)) (hh : StrsAre hv (st.hands.map nmS)) (hdm : DmOk (p.a1 W s dg) (p.pw' W) → dm) (hD : (dk p.d).IsD 0 p.d.x p.d.oa p.d.op) (hit : ItemIs p.av p.i (.int (dg : Int) p.td)) :
    AllP (tuCs W s to dg (qN W to dg) dk mc p fiI kpI catI selI tknI ctI (fun τ => othV to τ W 0) (List.take dg) (List.drop dg) hv dm σ) := by
  have hc := cnt_le Fx.hW Fx.hs
  have h4 := cnt_pos Fx.hW Fx.hs
  have hpl := Fx.pl
  have w4 : W ≤ 4 := by have := Fx.hW; omega
  have hL : PilL W (s + 1) st fun j => tuL dk p W s j σ := dlV_pil hy
  have lt := F.lt
  have e_te : (nextN W (s + 1) place st dg).te = p.te' to := by subst hto; show st.te + _ * st.pw = p.te + _ * p.pw; rw [te, pw]
  have e_he : (nextN W (s + 1) place st dg).he = p.he' dg := by show st.he + _ * st.pw = p.he + _ * p.pw; rw [he, pw]
  have e_pw : (nextN W (s + 1) place st dg).pw = p.pw' W := by show st.pw * _ = p.pw * _; rw [pw]
  have e_low : (nextN W (s + 1) place st dg).low = p.a2 W s to dg % p.pw' W := by
    show ((nextN W (s + 1) place st dg).te - (nextN W (s + 1) place st dg).he * _) % (nextN W (s + 1) place st dg).pw = _
    rw [e_te, e_he, e_pw]; rfl
  have b2 := F.dm1.b2
  have b1 := F.dm1.b1
  have hpw : p.pw.natAbs < 1024 := by
    rw [e_pw] at b1 b2
    unfold TuP.pw' at b1 b2
    have hp : 0 < p.pw := by
      rcases Int.lt_or_le 0 p.pw with h | h
      · exact h
      · have := Int.mul_nonpos_of_nonpos_of_nonneg h (Int.natCast_nonneg W)
        omega
    have : p.pw * 1 ≤ p.pw * (W : Int) := Int.mul_le_mul_of_nonneg_left (by have := Fx.hW; omega) (Int.le_of_lt hp)
    omega
  have hto3 : selI (upL (fun j => tuL dk p W s j σ) W 0) to = tuL dk p W s to σ := by rw [upL_get _ _ _ _ lt, Nat.zero_add]
  have hct : (tuCt W s).natAbs < 1024 := by show ((W * (s + 1) : Nat) : Int).natAbs < 1024; omega
  have hol : ∀ τ, (othV to τ W 0).length ≤ 3 := fun τ => by
    have hb : ∀ W, W ≤ 4 → ∀ to, to < W → ∀ τ, (othV to τ W 0).length ≤ 3 := fun W hW to ht τ => by
      rcases Nat.lt_or_ge W 4 with h | h
      · exact Nat.le_trans (oth_len W 0 τ) (by omega)
      · have : W = 4 := by omega
        subst this
        match to, ht with
        | 0, _ => exact Nat.le_refl _
        | 1, _ => exact Nat.le_refl _
        | 2, _ => exact Nat.le_refl _
        | 3, _ => exact Nat.le_refl _
    exact hb W w4 to lt τ
  have htk : ∀ τ, ((othV to τ W 0).take dg).length ≤ 3 := fun τ => Nat.le_trans (by rw [List.length_take]; omega) (hol τ)
  have hdp : ∀ τ, ((othV to τ W 0).drop dg).length ≤ 3 := fun τ => Nat.le_trans (by rw [List.length_drop]; omega) (hol τ)
  have hq : ∀ x, x < W → qN W to dg x = (orderN W to dg).getD x 0 := fun x hx => by
    have : ∀ (l : List Nat) i, getN l i = l.getD i 0 := fun l => by
      induction l with
      | nil => intro i; rfl
      | cons a r ih => intro i; cases i with
        | zero => rfl
        | succ i => exact ih i
    exact this _ _
  have hol2 : (orderN W to dg).length = W := by
    have := congrArg List.length (order_map Fx.hW to lt dg hd)
    simpa using this.symm
  refine ⟨?_, ?_, ?_, tf_kept h4 hc (by rw [e_pw] at b2; omega) Fx.nv, ⟨by show (0 : Int) < ((W * (s + 1) : Nat) : Int); omega, by show ((W * (s + 1) : Nat) : Int) < 1000; omega⟩, ?_, hct, ⟨?_, ?_⟩, hdm ?_, hct, ?_, Fx.it, hpw, hpw, lt, ?_, ?_, ?_, ?_, sl_drop (hol _), rfl, ⟨rfl, ?_⟩, sl_take (hol _), rfl, lt, ?_, AllP.app (tu_cc hL Fx.it W (Nat.le_refl _)) ⟨hD, hit, trivial⟩⟩
  · unfold tuTo; rw [hto3]; exact tf_same2 (L := fun j => tuL dk p W s j σ) (told := to) hL I hc lt hh
  · unfold tuTo; rw [hto3]; exact tf_gone (L := fun j => tuL dk p W s j σ) (told := to) hL I hc lt hh
  · have z := tf_same1 hL I hc F (next_hands hto) hh Fx.nv
    rw [e_pw, e_low] at z
    unfold tuTo; rw [hto3]; exact z
  · have z := F.dm2
    rw [e_te, e_he, e_pw] at z
    exact z
  · have z := F.dv
    rw [e_he, e_pw, ← nw, ← Fx.ep] at z
    exact z
  · have z := F.md
    rw [e_he, e_pw, e_te, ← Fx.ep] at z
    exact z
  · have z := F.dm1
    rw [e_he, e_pw, ← Fx.ep] at z
    exact z
  · rw [nw, Fx.xs]
    have z : (nextN W (s + 1) place st dg).now = ((idxN place (rowN W (s + 1) to dg st.p) : Nat) : Int) := by subst hto; rfl
    rw [z]
    exact tf_ix Fx.hW Fx.hs hL I hpl lt hd
  · unfold tuTo; rw [hto3]; exact tf_part (L := fun j => tuL dk p W s j σ) (told := to) hL I lt hh
  · refine ⟨⟨_, _, rfl, Int.natCast_nonneg _, by omega, ?_⟩⟩
    rw [Int.toNat_natCast, upN_get _ _ _ _ lt]
    refine congrArg some ?_
    unfold refI
    rw [List.getD_eq_getElem?_getD, upN_get _ _ _ _ lt]
    rfl
  · refine ⟨qN_perm Fx.hW lt hd, fun i hi => ?_, rfl⟩
    have z : StrsAre (tuL dk p W s i σ) _ := hL i hi
    rw [upL_get _ _ _ _ hi, Nat.zero_add]
    have hlen := strsAre_len z
    unfold pileN at z hlen
    rw [List.range_succ_eq_map, List.map_cons, List.map_cons] at z
    generalize tuL dk p W s i σ = l at z hlen
    cases z with
    | cons y t z' =>
      refine ⟨_, _, _, rfl, nmS_ne _, ?_, _, z', fun y hy => ?_⟩
      · simp at hlen; have := Fx.hs; omega
      · obtain ⟨k, -, rfl⟩ := List.mem_map.mp hy
        exact nmS_ne _
  · refine ⟨?_, ?_⟩
    · have hb := ord_b (told := to) (d := dg) Fx.hW (fun i => tlS (2 * W + 3) σ (3 + i)) (tlS (2 * W + 2) σ 0) lt hd
      have := intsB_eq (qN W to dg) (fun i => (catI (catI ((othV to (fun i => tlS (2 * W + 3) σ (3 + i)) W 0).take dg) [.int (to : Int) (tlS (2 * W + 2) σ 0)]) ((othV to (fun i => tlS (2 * W + 3) σ (3 + i)) W 0).drop dg)).getD i .none) 0 hb (fun x hx => by rw [Nat.zero_add]; exact ⟨hq x (by omega), rfl⟩)
      rw [hol2] at this
      exact this
    · have a := htk fun i => tlS (2 * W + 3) σ (3 + i)
      have b := hdp fun i => tlS (2 * W + 3) σ (3 + i)
      show (((othV to (fun i => tlS (2 * W + 3) σ (3 + i)) W 0).take dg) ++ [Value.int (to : Int) (tlS (2 * W + 2) σ 0)]).length + ((othV to (fun i => tlS (2 * W + 3) σ (3 + i)) W 0).drop dg).length ≤ 100000
      rw [List.length_append, List.length_singleton]
      omega
  · have a := htk fun i => tlS (2 * W + 3) σ (3 + i)
    show ((othV to (fun i => tlS (2 * W + 3) σ (3 + i)) W 0).take dg).length + 1 ≤ 100000
    omega
  · have z := tf_ixb (xt := p.xt) hL I hc (by omega) F w4
    rw [Fx.xs]
    exact z
end
end Mine
end
section
open PySem PySem.W PySem.W.X PyProof.Rows
namespace Mine
section
variable {w : World} {W s to dg : Nat} {q : Nat → Nat} {m : Mc} {dk : DkS → DkM} {f : FnP} {mc : Nat → Mc} {px : Nat → LexD} {p : TuP} {Q : Result → Sto → Prop}
theorem tuE_go (hW : W = 2 ∨ W = 3 ∨ W = 4) (hD : DcOk w (tuDl m dk f mc px W (s + 1))) (hm : ∀ i, (mc i).sheet = ⟨#[]⟩)
    (hc : ∀ σ, AllP (tuCs W s to dg q dk mc p fiI kpI catI selI tknI ctI (fun τ => othV to τ W 0) (List.take dg) (List.drop dg) p.nv (DmOk (p.a1 W s dg) (p.pw' W)) σ))
    (H : ∀ σ, Ends w 24 (turnC (ktop w.params) p.it p.fr) (tuOut (ktop w.params) W s to dg q m dk f mc px p fiI catI selI (tuH p.hs (PySem.W.ZFast.hKY w.params)) (tuK p.ks W σ) p.nm p.nv (cdE W σ) σ) Q) :
    Ends w 24 (turnC (ktop w.params) p.it p.fr) (tuE (ktop w.params) W m mc px p (frA p.hs p.ks (.int (W : Int) p.tw) (.ref p.ah) (.int (tuCt W s) p.tct) (.ref p.pls) (.int p.he p.th) (.int p.te p.tt)) (cellOf (.ref p.nm)) (cellOf (.int p.pw p.tpw)) cell0 cell0 (liO p.ah p.i) p.d p.eps p.tps [(30, tableOf []), (37, tableOf []), (136, tableOf [])]) Q := by
  have G : ∀ {J : List Nat} {orc : List Nat}, J.Nodup → (∀ n t σ, Go1 (turnC (ktop w.params) p.it p.fr) J (tuOut (ktop w.params) W s to dg q m dk f mc px p fiI catI selI (tuH p.hs (PySem.W.ZFast.hKY w.params)) (tuK p.ks W σ) p.nm p.nv (cdE W σ) σ)
      (tuCs W s to dg q dk mc p fiI kpI catI selI tknI ctI (fun τ => othV to τ W 0) (List.take dg) (List.drop dg) p.nv (DmOk (p.a1 W s dg) (p.pw' W)) σ) (tuEd w.params (bOf w) (ktop w.params) theProg W s to dg q m dk f mc px p fiI kpI catI selI tknI ctI (fun τ => othV to τ W 0) (List.take dg) (List.drop dg) (PySem.W.ZFast.hKY w.params) orc n t σ)) → _ :=
    fun {J orc} hJ F => Ends.turn (fun n t σ => tuEd.eq_1 w.params (bOf w) (ktop w.params) theProg W s to dg q m dk f mc px p fiI kpI catI selI tknI ctI (fun τ => othV to τ W 0) (List.take dg) (List.drop dg) (PySem.W.ZFast.hKY w.params) orc n t σ) rfl
      ⟨(cDeal_ok hD).ok _ _, (cGn_ok hW hm).ok _ _, cPnE_ok.ok _ _, cDvE_ok.ok _ _, cDvF_ok.ok _ _, cKept_ok.ok _ _, cGone_ok.ok _ _, cNext_ok.ok _ _, cItem_ok.ok _ _, cContF_ok.ok _ _, cIdxB_ok.ok _ _, (cOth_ok hW).ok _ _, cSlF_ok.ok _ _, cSlF_ok.ok _ _, cCatF_ok.ok _ _, cCatF_ok.ok _ _, cLaid_ok.ok _ _, sV_ok opMulS_good, sV_ok opMulR_good, cIdx_ok.ok _ _, cTupNe_ok.ok _ _, cListNe_ok.ok _ _, cRIter_ok.ok _ _, trivial⟩
      F hJ (fun _ _ σ _ => hc σ) fun _ _ σ _ => H σ
  rcases hW with rfl | rfl | rfl
  · exact G (by decide) fun n t σ => tuE2_r w.params (bOf w) s to dg q m dk f mc px p fiI kpI catI selI tknI ctI _ _ _ _ n t σ
  · exact G (by decide) fun n t σ => tuE3_r w.params (bOf w) s to dg q m dk f mc px p fiI kpI catI selI tknI ctI _ _ _ _ n t σ
  · exact G (by decide) fun n t σ => tuE4_r w.params (bOf w) s to dg q m dk f mc px p fiI kpI catI selI tknI ctI _ _ _ _ n t σ
theorem tuF_go {u : TvP} (hW : W = 2 ∨ W = 3 ∨ W = 4) (hD : DcOk w (tuDl m dk f mc px W (s + 1))) (hm : ∀ i, (mc i).sheet = ⟨#[]⟩)
    (hc : ∀ σ, AllP (tuCs W s to dg q dk mc p fiI kpI catI selI tknI ctI (fun τ => othV to τ W 0) (List.take dg) (List.drop dg) u.hv (DvOk (p.a1 W s dg) (p.pw' W)) σ))
    (H : ∀ σ, Ends w 24 (turnC (ktop w.params) p.it p.fr) (tuOut (ktop w.params) W s to dg q m dk f mc px p fiI catI selI p.hs p.ks u.hd u.hv u.cd σ) Q) :
    Ends w 24 (turnC (ktop w.params) p.it p.fr) (tuF (ktop w.params) W s m mc px p u) Q := by
  have G : ∀ {J : List Nat} {orc : List Nat}, J.Nodup → (∀ n t σ, Go1 (turnC (ktop w.params) p.it p.fr) J (tuOut (ktop w.params) W s to dg q m dk f mc px p fiI catI selI p.hs p.ks u.hd u.hv u.cd σ)
      (tuCs W s to dg q dk mc p fiI kpI catI selI tknI ctI (fun τ => othV to τ W 0) (List.take dg) (List.drop dg) u.hv (DvOk (p.a1 W s dg) (p.pw' W)) σ) (tuFd w.params (bOf w) (ktop w.params) theProg W s to dg q m dk f mc px p fiI kpI catI selI tknI ctI (fun τ => othV to τ W 0) (List.take dg) (List.drop dg) (PySem.W.ZFast.hKY w.params) u orc n t σ)) → _ :=
    fun {J orc} hJ F => Ends.turn (fun n t σ => tuFd.eq_1 w.params (bOf w) (ktop w.params) theProg W s to dg q m dk f mc px p fiI kpI catI selI tknI ctI (fun τ => othV to τ W 0) (List.take dg) (List.drop dg) (PySem.W.ZFast.hKY w.params) u orc n t σ) rfl
      ⟨(cDeal_ok hD).ok _ _, (cGn_ok hW hm).ok _ _, cPnF_ok.ok _ _, cDvE_ok.ok _ _, cDvF_ok.ok _ _, cKept_ok.ok _ _, cGone_ok.ok _ _, cNext_ok.ok _ _, cItem_ok.ok _ _, cContF_ok.ok _ _, cIdxB_ok.ok _ _, (cOth_ok hW).ok _ _, cSlF_ok.ok _ _, cSlF_ok.ok _ _, cCatF_ok.ok _ _, cCatF_ok.ok _ _, cLaid_ok.ok _ _, sV_ok opMulS_good, sV_ok opMulR_good, cIdx_ok.ok _ _, cTupNe_ok.ok _ _, cListNe_ok.ok _ _, cRIter_ok.ok _ _, trivial⟩
      F hJ (fun _ _ σ _ => hc σ) fun _ _ σ _ => H σ
  rcases hW with rfl | rfl | rfl
  · exact G (by decide) fun n t σ => tuF2_r w.params (bOf w) s to dg q m dk f mc px p fiI kpI catI selI tknI ctI _ _ _ _ u n t σ
  · exact G (by decide) fun n t σ => tuF3_r w.params (bOf w) s to dg q m dk f mc px p fiI kpI catI selI tknI ctI _ _ _ _ u n t σ
  · exact G (by decide) fun n t σ => tuF4_r w.params (bOf w) s to dg q m dk f mc px p fiI kpI catI selI tknI ctI _ _ _ _ u n t σ
end
end Mine
end
section
open PySem PySem.W PySem.W.X PyProof.Rows
namespace Mine
structure TzP where
  (fr nm ah it ea : Nat) (o0 o1 o2 o3 o4 o5 o6 o7 o9 : Obj) (av : List Value) (i : Int)
noncomputable def tzE (p : TzP) (io : Obj) : Sto := [(p.fr, p.o0), (p.fr + 1, p.o1), (p.fr + 2, p.o2), (p.fr + 3, p.o3), (p.fr + 4, p.o4), (p.fr + 5, p.o5), (p.fr + 6, p.o6), (p.fr + 7, p.o7), (p.it, io), (p.nm, p.o9), (p.ah, lst p.av p.ea)]
@[irreducible] noncomputable def tz (P : Params) (b : Bool) (K : KT) (pg : Program) (p : TzP) (n t : Nat) (σ : Nat → Nat) : Ou :=
  goC (mkW P b K pg [sNextEnd]) 4000 24 (turnC K p.it p.fr)
  (tzE p (liO p.ah p.i)) n t σ
  [9,0,9,2,8,10,13,0]
theorem tz_id : @tz = @tz := rfl
lay_z Mine.tz
end Mine
name_z tzY for Mine.tz by Mine.tz_id
namespace Mine
theorem tz_r (P : Params) (b : Bool) (p : TzP) (n t : Nat) (σ : Nat → Nat) : Go0 (.ok .next) (List.range 11) (tzE p (liEnd p.i)) [AtEnd p.av p.i] (tz P b (ktop P) theProg p n t σ) := by
  rw [PySem.W.ZFast.tzY_eq]
  cases b <;> refine ⟨⟨?_, ?_, ?_, ?_, ?_, ?_⟩, ?_, ?_, ?_⟩ <;> kernel_rfl
noncomputable def fE (c : Nat) : FnP := ⟨fun d a _ => { d.x with line := d.x.line + linesT c, lt := a }, fun _ _ b => lst [.int (posT c) b] 0, fun d _ _ => epO d.op⟩
noncomputable def fF : FnP := ⟨fun d _ _ => d.x, fun d _ _ => d.oa, fun _ a _ => a⟩
noncomputable def tuKl (ks : Nat → Tok) (k : Nat → Tok) (i : Nat) : Tok := match Nat.blt i 6 with
  | true => ks i
  | false => k (i - 6)
noncomputable def tuVn (W s to dg : Nat) (q : Nat → Nat) (dk : DkS → DkM) (f : FnP) (p : TuP) (hs : Nat → Int) (ks : Nat → Tok) (σ : Nat → Nat) : TwP :=
  ⟨p.he' dg, p.te' to, p.pw' W, p.i + 1, cutS (shN (2 * W + 11) σ) 1 + 0, cutS (shN (2 * W + 12) σ) 1 + 0, tlS (2 * W + 13) σ 0, hs, ks, ⟨f.gx p.d (tuA σ 40) (tuA σ 41), f.ga p.d (tuA σ 40) (tuA σ 41), lst (tuRow selI catI dk p W s q σ) (tlS (2 * W + 8) σ 1)⟩, fun j => tlS (2 * W + 8) σ (4 + j), fun j => tlS (2 * W + 8) σ (8 + j)⟩
noncomputable def tuUn (W s to dg : Nat) (dk : DkS → DkM) (p : TuP) (th : Nat) (hv : List Value) (c : CdP) (σ : Nat → Nat) : TvP :=
  ⟨tlS (2 * W + 10) σ 2, fiI true hv (tuTo selI dk p W s to σ), tlS (2 * W + 10) σ 4, .int (dg : Int) p.td, .ref (tlS 1 σ 10), .ref (cutS (shN (2 * W + 2) σ) 0 + 2), .ref (tlS (2 * W + 8) σ 0), .ref th, .ref (tlS (2 * W + 10) σ 3), .int p.nw (tlS (2 * W + 15) σ 0), .int (p.a2 W s to dg / p.pw' W) (tlS (2 * W + 20) σ 1), .int (to : Int) (tlS (2 * W + 2) σ 0), .int (p.a2 W s to dg % p.pw' W) (tlS (2 * W + 20) σ 2), c⟩
theorem tuOut_eq {K : KT} {W s to dg : Nat} {q : Nat → Nat} {m : Mc} {dk : DkS → DkM} {f : FnP} {mc : Nat → Mc} {px : Nat → LexD} {p : TuP} {hs : Nat → Int} {ks : Nat → Tok} {th : Nat} {hv : List Value} {c : CdP} {σ : Nat → Nat} :
    tuOut K W s to dg q m dk f mc px p fiI catI selI hs ks th hv c σ = tuG K W s m mc px (p.w (tuVn W s to dg q dk f p hs ks σ) 0 0) (tuUn W s to dg dk p th hv c σ) (tlS (2 * W + 8) σ 0) (tuRow selI catI dk p W s q σ) (tlS (2 * W + 8) σ 2) := rfl
structure TuV (c : Nat) (x0 : LexD) (l0 : Int) (hs0 : Nat → Int) (ks0 : Nat → Tok) (st : StN) (v : TwP) (u : TvP) (ra : Nat) (rv : List Value) : Prop where
  he : v.he = st.he
  te : v.te = st.te
  pw : v.pw = st.pw
  hs : v.hs = hs0
  ks : ∃ k, v.ks = tuKl ks0 k
  dx : ∃ a, v.d.x = { x0 with line := l0, lt := a }
  da : ∃ b, v.d.oa = lst [.int (posT c) b] 0
  dp : ∃ e, v.d.op = lst rv e
  rv : StrsAre rv (st.p.map nmS)
  hv : StrsAre u.hv (st.hands.map nmS)
  v6 : ∃ k t, u.v6 = .int k t
  v7 : ∃ a, u.v7 = .ref a
  v8 : ∃ a, u.v8 = .ref a
  v9 : u.v9 = .ref ra
  v10 : ∃ a, u.v10 = .ref a
  v11 : ∃ a, u.v11 = .ref a
  v12 : ∃ t, u.v12 = .int st.now t
  v13 : ∃ t, u.v13 = .int st.high t
  w6 : ∃ k t, u.w6 = .int k t
  w7 : ∃ t, u.w7 = .int st.low t
theorem Ends.less {w : World} {lv : Nat} {co : Code} {E : Sto} {Q : Result → Sto → Prop} (F : Sto) (H : Ends w lv co E Q) : Ends w lv co (E ++ F) Q := fun A h g d t os R hA S hR =>
  H A h g d t os R hA S.left fun r h' t' E' q S' G => hR r h' t' E' q S' ⟨G.ext.mono fun a ha => .inl (by rw [Sto.ad_app]; exact List.mem_append_left _ ha), fun a ha => (G.new a ha).imp_left fun z => by rw [Sto.ad_app]; exact List.mem_append_left _ z⟩
section
variable {w : World} {W s place : Nat} {m : Mc} {mc : Nat → Mc} {px : Nat → LexD} {p : TuP} {x0 : LexD} {l0 : Int} {hs0 : Nat → Int} {ks0 : Nat → Tok} {Q : Result → Sto → Prop}
theorem TuFx.up (Fx : TuFx W s place mc p) (v : TwP) (nw : Int) (td : Tok) : TuFx W s place mc (p.w v nw td) := ⟨Fx.hW, Fx.hs, Fx.pl, Fx.sh, Fx.nv, Fx.ep, Fx.xs, Fx.it⟩
theorem tu_next {to dg : Nat} {st : StN} {dk : DkS → DkM} {f : FnP} {hv : List Value} {hs : Nat → Int} {ks : Nat → Tok} {th : Nat} {c : CdP} {σ : Nat → Nat} (Fx : TuFx W s place mc p) (I : InvN W (s + 1) place st) (hto : toldN W (s + 1) place st.p W 0 = to) (hd : dg < W) (F : TF W (s + 1) place to st (nextN W (s + 1) place st dg))
    (he : p.he = st.he) (te : p.te = st.te) (pw : p.pw = st.pw) (nw : p.nw = (nextN W (s + 1) place st dg).now) (hy : ∀ k, k < W * (s + 1) → (dk p.d).y k = nmS (getN st.p k)) (hh : StrsAre hv (st.hands.map nmS))
    (h1 : hs = hs0) (h2 : ∃ k, ks = tuKl ks0 k) (h3 : ∃ a, f.gx p.d (tuA σ 40) (tuA σ 41) = { x0 with line := l0, lt := a }) (h4 : ∃ b, f.ga p.d (tuA σ 40) (tuA σ 41) = lst [.int (posT (W * (s + 1))) b] 0) :
    TuV (W * (s + 1)) x0 l0 hs0 ks0 (nextN W (s + 1) place st dg) (tuVn W s to dg (qN W to dg) dk f p hs ks σ) (tuUn W s to dg dk p th hv c σ) (tlS (2 * W + 8) σ 0) (tuRow selI catI dk p W s (qN W to dg) σ) := by
  have hc := cnt_le Fx.hW Fx.hs
  have lt := F.lt
  have hL : PilL W (s + 1) st fun j => tuL dk p W s j σ := dlV_pil hy
  have hto3 : selI (upL (fun j => tuL dk p W s j σ) W 0) to = tuL dk p W s to σ := by rw [upL_get _ _ _ _ lt, Nat.zero_add]
  have e_te : (nextN W (s + 1) place st dg).te = p.te' to := by subst hto; show st.te + _ * st.pw = p.te + _ * p.pw; rw [te, pw]
  have e_he : (nextN W (s + 1) place st dg).he = p.he' dg := by show st.he + _ * st.pw = p.he + _ * p.pw; rw [he, pw]
  have e_pw : (nextN W (s + 1) place st dg).pw = p.pw' W := by show st.pw * _ = p.pw * _; rw [pw]
  have e_low : (nextN W (s + 1) place st dg).low = p.a2 W s to dg % p.pw' W := by
    show ((nextN W (s + 1) place st dg).te - (nextN W (s + 1) place st dg).he * _) % (nextN W (s + 1) place st dg).pw = _
    rw [e_te, e_he, e_pw]; rfl
  have e_high : (nextN W (s + 1) place st dg).high = p.a2 W s to dg / p.pw' W := by
    show ((nextN W (s + 1) place st dg).te - (nextN W (s + 1) place st dg).he * _) / (nextN W (s + 1) place st dg).pw = _
    rw [e_te, e_he, e_pw]; rfl
  refine ⟨e_he.symm, e_te.symm, e_pw.symm, h1, h2, h3, h4, ⟨_, rfl⟩, ?_, ?_, ⟨_, _, rfl⟩, ⟨_, rfl⟩, ⟨_, rfl⟩, rfl, ⟨_, rfl⟩, ⟨_, rfl⟩, ⟨_, by rw [← nw]; rfl⟩, ⟨_, by rw [e_high]; rfl⟩, ⟨_, _, rfl⟩, ⟨_, by rw [e_low]; rfl⟩⟩
  · rw [next_p hto]
    exact row_strs (L := fun j => tuL dk p W s j σ) hL Fx.hW lt hd
  · rw [next_hands hto]
    show StrsAre (fiI true hv (selI (upL (fun j => tuL dk p W s j σ) W 0) to)) _
    rw [hto3]
    exact yes_strs (L := fun j => tuL dk p W s j σ) hL I hc lt hh
theorem dcE (hW : W = 2 ∨ W = 3 ∨ W = 4) (hs : s + 1 = 2 ∨ s + 1 = 3 ∨ s + 1 = 4) (hm : m.sheet = ⟨(preT (W * (s + 1) - 1)).toArray⟩) : DcOk w (tuDl m dkS (fE (W * (s + 1))) mc px W (s + 1)) :=
  ⟨hW, hs, fun d _ => dkS_ok (cnt_le hW hs) hm d, fun d x oa op h => by
    obtain ⟨a, b, e⟩ := finS_ok d x oa op h
    refine ⟨a, b, e ▸ ?_⟩
    obtain ⟨-, -, ep, he⟩ := h
    show (⟨_, _, lst [] (epO d.op)⟩ : DkS) = ⟨_, _, d.op⟩
    rw [he]; rfl⟩
theorem dcF {ss : List Str} (hW : W = 2 ∨ W = 3 ∨ W = 4) (hs : s + 1 = 2 ∨ s + 1 = 3 ∨ s + 1 = 4) (hl : ss.length = W * (s + 1)) : DcOk w (tuDl m (dkP ss) fF mc px W (s + 1)) :=
  ⟨hW, hs, fun d _ => by
    have := dkP_ok (w := w) (m := m) (ss := ss) d
    rw [hl] at this
    exact this, fun d x oa op h => finP_ok d x oa op (by rw [hl]; exact h)⟩
theorem tuE_step {dg : Nat} {v : TwP} {td : Tok} (Fx : TuFx W s place mc p) (hm : m.sheet = ⟨(preT (W * (s + 1) - 1)).toArray⟩) (hd : dg < W) (ok : turnN W (s + 1) place (startN (W * (s + 1))) dg = true)
    (he : v.he = 0) (te : v.te = 0) (pw : v.pw = 1) (hda : ∃ b, v.d.oa = lst [.int (posT 0) b] 0) (hdp : ∃ e, v.d.op = lst [] e) (hit : ItemIs p.av v.i (.int (dg : Int) td))
    (H : ∀ v' u ra rv er, v'.i = v.i + 1 → TuV (W * (s + 1)) v.d.x (v.d.x.line + linesT (W * (s + 1))) (tuH v.hs (PySem.W.ZFast.hKY w.params)) v.ks (nextN W (s + 1) place (startN (W * (s + 1))) dg) v' u ra rv → Ends w 24 (turnC (ktop w.params) p.it p.fr) (tuG (ktop w.params) W s m mc px (p.w v' 0 0) u ra rv er) Q) :
    Ends w 24 (turnC (ktop w.params) p.it p.fr) (tuE (ktop w.params) W m mc px (p.w v 0 0) (frA v.hs v.ks (.int (W : Int) p.tw) (.ref p.ah) (.int (tuCt W s) p.tct) (.ref p.pls) (.int v.he v.th) (.int v.te v.tt)) (cellOf (.ref p.nm)) (cellOf (.int v.pw v.tpw)) cell0 cell0 (liO p.ah v.i) v.d v.eps v.tps [(30, tableOf []), (37, tableOf []), (136, tableOf [])]) Q := by
  have hc := cnt_le Fx.hW Fx.hs
  obtain ⟨to, hto⟩ : ∃ to, toldN W (s + 1) place (startN (W * (s + 1))).p W 0 = to := ⟨_, rfl⟩
  have tf : TF W (s + 1) place to (startN (W * (s + 1))) (nextN W (s + 1) place (startN (W * (s + 1))) dg) := tf_of (by rw [← hto]; exact ok)
  have I := InvN.start hc Fx.pl
  have hy : ∀ k, k < W * (s + 1) → (dkS v.d).y k = nmS (getN (startN (W * (s + 1))).p k) := fun k hk => by
    show nmS k = nmS (getN (List.range _) k)
    rw [getN_range hk]
  have hD : (dkS v.d).IsD 0 v.d.x v.d.oa v.d.op := by
    obtain ⟨b, hb⟩ := hda
    obtain ⟨e, h2⟩ := hdp
    exact ⟨⟨v.d.x.lt, b, by simp [linesT], hb⟩, rfl, e, h2⟩
  refine tuE_go (p := p.w v (nextN W (s + 1) place (startN (W * (s + 1))) dg).now td) (to := to) (dg := dg) (q := qN W to dg) (dk := dkS) (f := fE (W * (s + 1))) Fx.hW (dcE Fx.hW Fx.hs hm) Fx.sh (fun σ => tu_cs (Fx.up _ _ _) I hto hd tf he te pw rfl hy Fx.nv id hD hit) fun σ => ?_
  rw [tuOut_eq]
  exact H _ _ _ _ _ rfl (tu_next (Fx.up _ _ _) I hto hd tf he te pw rfl hy Fx.nv rfl ⟨kL [cutS (shN 0 σ) 1 + 0, cutS (shN 1 σ) 1 + 0, cutS (shN (2 * W + 3) σ) 1 + 0, cutS (shN (2 * W + 8) σ) 1 + 0, cutS (shN (2 * W + 8) σ) 1 + 1, cutS (shN (2 * W + 10) σ) 1 + 0, cutS (shN (2 * W + 15) σ) 1 + 0, cutS (shN (2 * W + 20) σ) 1 + 0], rfl⟩ ⟨_, rfl⟩ ⟨_, rfl⟩)
theorem tuF_step {st : StN} {dg : Nat} {v : TwP} {u : TvP} {ra : Nat} {rv : List Value} {er : Nat} {td : Tok} (Fx : TuFx W s place mc p) (I : InvN W (s + 1) place st) (V : TuV (W * (s + 1)) x0 l0 hs0 ks0 st v u ra rv) (hd : dg < W) (ok : turnN W (s + 1) place st dg = true) (hit : ItemIs p.av v.i (.int (dg : Int) td))
    (H : ∀ v' u ra rv er, v'.i = v.i + 1 → TuV (W * (s + 1)) x0 l0 hs0 ks0 (nextN W (s + 1) place st dg) v' u ra rv → Ends w 24 (turnC (ktop w.params) p.it p.fr) (tuG (ktop w.params) W s m mc px (p.w v' 0 0) u ra rv er) Q) :
    Ends w 24 (turnC (ktop w.params) p.it p.fr) (tuG (ktop w.params) W s m mc px (p.w v 0 0) u ra rv er) Q := by
  have hc := cnt_le Fx.hW Fx.hs
  obtain ⟨to, hto⟩ : ∃ to, toldN W (s + 1) place st.p W 0 = to := ⟨_, rfl⟩
  have tf : TF W (s + 1) place to st (nextN W (s + 1) place st dg) := tf_of (by rw [← hto]; exact ok)
  obtain ⟨e, hop⟩ := V.dp
  have hl : (st.p.map nmS).length = W * (s + 1) := by rw [List.length_map, I.length]
  have hy : ∀ k, k < W * (s + 1) → (dkP (st.p.map nmS) v.d).y k = nmS (getN st.p k) := fun k hk => by
    show (st.p.map nmS).getD k ⟨#[]⟩ = _
    have hk' : k < st.p.length := by rw [I.length]; exact hk
    rw [List.getD_eq_getElem?_getD, List.getElem?_map, List.getElem?_eq_getElem hk', getN_get hk']
    rfl
  have hD : (dkP (st.p.map nmS) v.d).IsD 0 v.d.x v.d.oa v.d.op := ⟨rfl, rfl, by omega, rv, e, e, hop, V.rv, by rw [List.drop_zero]; exact hop⟩
  rw [tuG_eq]
  have key : Ends w 24 (turnC (ktop w.params) p.it p.fr) (tuF (ktop w.params) W s m mc px (p.w v (nextN W (s + 1) place st dg).now td) u) Q := by
    refine tuF_go (p := p.w v (nextN W (s + 1) place st dg).now td) (to := to) (dg := dg) (q := qN W to dg) (dk := dkP (st.p.map nmS)) (f := fF) Fx.hW (dcF Fx.hW Fx.hs hl) Fx.sh (fun σ => tu_cs (Fx.up _ _ _) I hto hd tf V.he V.te V.pw rfl hy V.hv (fun z => ⟨.inl z⟩) hD hit) fun σ => ?_
    rw [tuOut_eq]
    exact H _ _ _ _ _ rfl (tu_next (Fx.up _ _ _) I hto hd tf V.he V.te V.pw rfl hy V.hv V.hs V.ks V.dx V.da)
  exact key.less _
noncomputable def tuZ (K : KT) (W s : Nat) (m : Mc) (mc : Nat → Mc) (px : Nat → LexD) (p : TuP) (io : Obj) (u : TvP) (ra : Nat) (rv : List Value) (er : Nat) : Sto :=
  tuE K W m mc px p (frB p.hs p.ks (.int (W : Int) p.tw) (.ref p.ah) (.int (tuCt W s) p.tct) (.ref p.pls) (.int p.he p.th) (.int p.te p.tt) u.v6 u.v7 u.v8 u.v9 u.v10 u.v11 u.v12 u.v13) (cellOf (.ref u.hd)) (cellOf (.int p.pw p.tpw)) (cellOf u.w6) (cellOf u.w7) io p.d p.eps p.tps
    [(30, t30 u.cd.c30), (37, t37 u.cd.c37), (136, t136 u.cd.c136), (u.cd.c30, code30 u.cd.k30), (u.cd.c37, code37 u.cd.k37), (u.cd.c136, code136 u.cd.k136), (u.hd, lst u.hv u.eh), (ra, lst rv er)]
noncomputable def LoopQ (w : World) (W s place : Nat) (m : Mc) (mc : Nat → Mc) (px : Nat → LexD) (p : TuP) (x0 : LexD) (l0 : Int) (hs0 : Nat → Int) (ks0 : Nat → Tok) (r : Result) (G : Sto) : Prop :=
  r = .ok .next ∧ ∃ st v u ra rv er, InvN W (s + 1) place st ∧ finN place st = true ∧ TuV (W * (s + 1)) x0 l0 hs0 ks0 st v u ra rv ∧ G = tuZ (ktop w.params) W s m mc px (p.w v 0 0) (liEnd v.i) u ra rv er
structure DigIs (W : Nat) (av : List Value) (i : Nat) (ds : List Nat) : Prop where
  len : av.length = i + ds.length
  lt : ∀ d ∈ ds, d < W
  le : av.length ≤ 1000
  at_ : ∀ k, (h : k < ds.length) → ∃ t, av[i + k]? = some (.int (ds[k] : Int) t)
theorem DigIs.head {av : List Value} {i d : Nat} {ds : List Nat} (H : DigIs W av i (d :: ds)) : ∃ td, ItemIs av (i : Int) (.int (d : Int) td) := by
  obtain ⟨t, e⟩ := H.at_ 0 (by simp)
  have := H.len
  have := H.le
  exact ⟨t, Int.natCast_nonneg _, by simp at *; omega, by rw [Int.toNat_natCast]; exact e⟩
theorem DigIs.tail {av : List Value} {i d : Nat} {ds : List Nat} (H : DigIs W av i (d :: ds)) : DigIs W av (i + 1) ds :=
  ⟨by have := H.len; simp at this; omega, fun d hd => H.lt d (.tail _ hd), H.le, fun k h => by
    obtain ⟨t, e⟩ := H.at_ (k + 1) (by simpa using h)
    exact ⟨t, by rw [show i + 1 + k = i + (k + 1) by omega]; exact e⟩⟩
theorem tu_loop (Fx : TuFx W s place mc p) : ∀ (ds : List Nat) (i : Nat) (st : StN) (v : TwP) (u : TvP) (ra : Nat) (rv : List Value) (er : Nat), v.i = (i : Int) → DigIs W p.av i ds → loopAll W (s + 1) place ds.length st = true → InvN W (s + 1) place st → TuV (W * (s + 1)) x0 l0 hs0 ks0 st v u ra rv →
    Ends w 24 (turnC (ktop w.params) p.it p.fr) (tuG (ktop w.params) W s m mc px (p.w v 0 0) u ra rv er) (LoopQ w W s place m mc px p x0 l0 hs0 ks0)
  | [], i, st, v, u, ra, rv, er, hi, hd, ok, I, V => by
    have hend : p.av.length ≤ v.i.toNat := by have := hd.len; rw [hi]; simp at this; omega
    have T : Ends w 24 (turnC (ktop w.params) p.it p.fr) _ _ := Ends.fin (fun n t σ => tz.eq_1 w.params (bOf w) (ktop w.params) theProg ⟨p.fr, p.nm, p.ah, p.it, p.ea, frB v.hs v.ks (.int (W : Int) p.tw) (.ref p.ah) (.int (tuCt W s) p.tct) (.ref p.pls) (.int v.he v.th) (.int v.te v.tt) u.v6 u.v7 u.v8 u.v9 u.v10 u.v11 u.v12 u.v13, cellOf (.ref p.nm), cellOf (.int p.pl p.tp), cellOf (.ref m.lx), cellOf (.ref u.hd), cellOf (.int v.pw v.tpw), cellOf u.w6, cellOf u.w7, lst p.nv p.en, p.av, v.i⟩ n t σ) rfl ⟨cNextEnd_ok.ok _ _, trivial⟩
      (fun n t σ => tz_r w.params (bOf w) _ n t σ) (by decide) (fun _ _ _ _ => ⟨⟨hend⟩, trivial⟩) (Q := fun r G => r = .ok .next ∧ G = tzE ⟨p.fr, p.nm, p.ah, p.it, p.ea, frB v.hs v.ks (.int (W : Int) p.tw) (.ref p.ah) (.int (tuCt W s) p.tct) (.ref p.pls) (.int v.he v.th) (.int v.te v.tt) u.v6 u.v7 u.v8 u.v9 u.v10 u.v11 u.v12 u.v13, cellOf (.ref p.nm), cellOf (.int p.pl p.tp), cellOf (.ref m.lx), cellOf (.ref u.hd), cellOf (.int v.pw v.tpw), cellOf u.w6, cellOf u.w7, lst p.nv p.en, p.av, v.i⟩ (liEnd v.i)) fun n t σ _ => ⟨rfl, rfl⟩
    refine (T.frame _).mono fun r G q => ?_
    obtain ⟨E', rfl, rfl, rfl⟩ := q
    exact ⟨rfl, st, v, u, ra, rv, er, I, ok, V, rfl⟩
  | d :: ds, i, st, v, u, ra, rv, er, hi, hd, ok, I, V => by
    have hdW : d < W := hd.lt d (.head _)
    obtain ⟨td, hit⟩ := hd.head
    have ok2 := List.all_eq_true.mp (show (List.range W).all (fun d => turnN W (s + 1) place st d && loopAll W (s + 1) place ds.length (nextN W (s + 1) place st d)) = true from ok) d (List.mem_range.mpr hdW)
    obtain ⟨o1, o2⟩ := Bool.and_eq_true_iff.mp ok2
    refine tuF_step Fx I V hdW o1 (by rw [hi]; exact hit) fun v' u' ra' rv' er' hi' V' => ?_
    have tf : TF W (s + 1) place (toldN W (s + 1) place st.p W 0) st (nextN W (s + 1) place st d) := tf_of o1
    exact tu_loop Fx ds (i + 1) _ v' u' ra' rv' er' (by rw [hi', hi]; rfl) hd.tail o2 (I.next Fx.hW Fx.hs rfl hdW tf) V'
theorem tu_all (Fx : TuFx W s place mc p) (hm : m.sheet = ⟨(preT (W * (s + 1) - 1)).toArray⟩) {v : TwP} (he : v.he = 0) (te : v.te = 0) (pw : v.pw = 1) (hi : v.i = 0) (hda : ∃ b, v.d.oa = lst [.int (posT 0) b] 0) (hdp : ∃ e, v.d.op = lst [] e) {ds : List Nat} (hd : DigIs W p.av 0 ds) (hne : ds ≠ [])
    (ok : loopAll W (s + 1) place ds.length (startN (W * (s + 1))) = true) :
    Ends w 24 (turnC (ktop w.params) p.it p.fr) (tuE (ktop w.params) W m mc px (p.w v 0 0) (frA v.hs v.ks (.int (W : Int) p.tw) (.ref p.ah) (.int (tuCt W s) p.tct) (.ref p.pls) (.int v.he v.th) (.int v.te v.tt)) (cellOf (.ref p.nm)) (cellOf (.int v.pw v.tpw)) cell0 cell0 (liO p.ah v.i) v.d v.eps v.tps [(30, tableOf []), (37, tableOf []), (136, tableOf [])])
      (LoopQ w W s place m mc px p v.d.x (v.d.x.line + linesT (W * (s + 1))) (tuH v.hs (PySem.W.ZFast.hKY w.params)) v.ks) := by
  cases ds with
  | nil => exact absurd rfl hne
  | cons d ds =>
    have hdW : d < W := hd.lt d (.head _)
    obtain ⟨td, hit⟩ := hd.head
    have ok2 := List.all_eq_true.mp (show (List.range W).all (fun d => turnN W (s + 1) place (startN (W * (s + 1))) d && loopAll W (s + 1) place ds.length (nextN W (s + 1) place (startN (W * (s + 1))) d)) = true from ok) d (List.mem_range.mpr hdW)
    obtain ⟨o1, o2⟩ := Bool.and_eq_true_iff.mp ok2
    have tf : TF W (s + 1) place (toldN W (s + 1) place (startN (W * (s + 1))).p W 0) (startN (W * (s + 1))) (nextN W (s + 1) place (startN (W * (s + 1))) d) := tf_of o1
    exact tuE_step Fx hm hdW o1 he te pw hda hdp (by rw [hi]; exact hit) fun v' u' ra' rv' er' hi' V' =>
      tu_loop Fx ds 1 _ v' u' ra' rv' er' (by rw [hi', hi]; rfl) hd.tail o2 ((InvN.start (cnt_le Fx.hW Fx.hs) Fx.pl).next Fx.hW Fx.hs rfl hdW tf) V'
end
end Mine
end
section
open PySem PySem.W PySem.W.X PyProof.Rows
namespace Mine
noncomputable def goS (V : PW) (fuel lv : Nat) (r : Result) (stk : List K) (E : Sto) (n t : Nat) (σ : Nat → Nat) (orc : List Nat) : Ou :=
  resume (go V fuel) lv r stk (ofL E 0 .nil) E.length n 0 t 0 σ orc [] []
structure Go2 (C : Code) (lv : Nat) (J : List Nat) (E : Sto) (cs : List Prop) (X : Ou) : Prop where
  run : RunIs X 1
  cd : X.code = C
  lv : X.lv = lv
  en : J.map X.T.get = E.map some
  cs : X.conds = cs
noncomputable def EndsS (w : World) (lv : Nat) (stk : List K) (r : Result) (G : Sto) (Q : Result → Sto → Prop) : Prop :=
  ∀ (fs : List (Around × K)) (A : Around) (h : Heap) (g : Array GenState) (d : Drawn) (t : Nat) (os : OsState) (R : Result → Shared → Prop), fs.map (·.2) = stk → Rooms lv fs A → St w h G →
    (∀ r h' t' E', Q r E' → St w h' E' → Grow G E' h h' → R r ⟨h', g, d, t', os⟩) → KP w fs A R r ⟨h, g, d, t, os⟩
section
variable {w : World} {sums : List SumFn} {fuel lv lv' : Nat} {orc : List Nat} {co : Code} {E : Sto} {Q : Result → Sto → Prop} {X : Nat → Nat → (Nat → Nat) → Ou} {J : List Nat} {E' : Nat → Nat → (Nat → Nat) → Sto} {cs : Nat → Nat → (Nat → Nat) → List Prop}
theorem Ends.cut {C : Nat → Nat → (Nat → Nat) → Code} (hX : ∀ n t σ, X n t σ = goC (mkW w.params (bOf w) (ktop w.params) theProg sums) fuel lv co E n t σ orc) (hc : co.isCaller = false) (hs : SOk w sums)
    (F : ∀ n t σ, Go2 (C n t σ) lv' J (E' n t σ) (cs n t σ) (X n t σ)) (hJ : J.Nodup) (ha : ∀ n t σ, 152 ≤ n → AllP (cs n t σ))
    (H : ∀ n t σ, 152 ≤ n → Ends w lv' (C n t σ) (E' n t σ) (fun r G => EndsS w lv' (X n t σ).stk r G Q)) : Ends w lv co E Q := by
  refine Ends.run hX hc hs (fun n t σ hn => ⟨⟨1, (F n t σ).run⟩, by rw [(F n t σ).cs]; exact ha n t σ hn⟩) fun n t σ hn A h g d os R hA S hz hR => ?_
  have f := F n t σ
  have H := H n t σ hn
  generalize X n t σ = Y at f H
  obtain ⟨r, cd, lk, en, -⟩ := f
  cases Y with
  | cut co' stk l T m n' c t' i e a =>
    intro h' fs hfs hRm D hs'
    obtain ⟨S', N⟩ := St.of (mkW_ok S hs.all) D hJ en
    cases cd
    cases lk
    exact H (bas fs A) h' g d _ os (KP w fs A R) hRm.bas S' fun r h2 t2 G q S2 G2 => q fs A h2 g d t2 os R hfs hRm S2 fun r h3 t3 E3 q3 S3 G3 => hR r h3 t3 E3 q3 S3 (Grow.trans (Grow.trans ⟨D.ext, N⟩ G2) G3)
  | fin => cases r.kind
  | bad => cases r.kind
theorem EndsS.fin {stk : List K} {r : Result} {G : Sto} {r' : Nat → Nat → (Nat → Nat) → Result} (hX : ∀ n t σ, X n t σ = goS (mkW w.params (bOf w) (ktop w.params) theProg sums) fuel lv r stk G n t σ orc) (hs : SOk w sums)
    (F : ∀ n t σ, Go0 (r' n t σ) J (E' n t σ) (cs n t σ) (X n t σ)) (hJ : J.Nodup) (ha : ∀ n t σ, 152 ≤ n → AllP (cs n t σ)) (H : ∀ n t σ, 152 ≤ n → Q (r' n t σ) (E' n t σ)) : EndsS w lv stk r G Q := by
  intro fs A h g d t os R hfs hRm S hR
  have O := mkW_ok S hs.all
  subst hfs
  refine resume_sound (T := ofL G 0 .nil) (m := G.length) (n := h.objs.size) (c := 0) (t := t) (i := 0) (orc := orc) (eqs := []) (ac := []) g d os A R (go_sound g d os A R O fuel) (fun σ => ?_) (Rp.start S) rfl hRm
  show Fine _ _ _ _ _ _ _ _ (goS (mkW w.params (bOf w) (ktop w.params) theProg sums) fuel lv r (fs.map (·.2)) G h.objs.size t σ orc)
  rw [← hX]
  have f := F h.objs.size t σ
  have Hq := H h.objs.size t σ S.sz
  refine ⟨?_, f.run.eqs, acs_ok f.run (by rw [f.cs]; exact ha _ t σ S.sz)⟩
  generalize X h.objs.size t σ = Y at f
  obtain ⟨k, rs, en, -⟩ := f
  cases Y with
  | fin r1 T m n' c t' i e a =>
    intro h' D hs'
    obtain ⟨S', N⟩ := St.of O D hJ en
    cases rs
    exact hR _ h' _ _ Hq S' ⟨D.ext, N⟩
  | cut => cases k.kind
  | bad => cases k.kind
end
end Mine
lay_z Mine.goS
end
section
open PySem PySem.W PySem.W.X PyProof.Rows
namespace Mine
noncomputable def abcS (c : Nat) : Str := ⟨((List.range c).map (97 + ·)).toArray⟩
noncomputable def letS (k : Nat) : Str := ⟨#[97 + k]⟩
noncomputable def nmE (K : KT) : Expr := valS (nthS (stmtsOf (fdK K 117)) 0)
noncomputable def nmC (K : KT) (en acc loc fr : Nat) : Code := .compLoop (nmE K) 0 (.ref en) (.ref acc)
  { scope := scopeOfE (fdK K 117).scope (nmE K), locals := loc, globals := 3, cells := [], qual := "_law_names.<locals>.", func := none, code := .ref 116, frame := some fr, builtins := 0 }
noncomputable def locB (hf : Str → Int) (k0 k1 : Tok) (v1 v2 : Value) : Obj := { cls := .type "dict", data := .dict #[⟨hf "k", .str "k" k0, v1⟩, ⟨hf "letter", .str "letter" k1, v2⟩] 2 }
structure NmP where
  (fr en si acc loc : Nat) (x : Str) (tx : Tok)
noncomputable def NmP.C (K : KT) (p : NmP) : Code := nmC K p.en p.acc p.loc p.fr
noncomputable def nmSt (p : NmP) (lo eo so : Obj) (ys : List Value) (ey : Nat) : Sto := [(p.loc, lo), (p.en, eo), (p.si, so), (p.acc, lst ys ey)]
noncomputable def nmDev : NmP := ⟨101, 102, 103, 104, 105, abcS 4, 301⟩
noncomputable def abT (c t : Nat) : Nat := match Nat.beq c 16 with
  | true => t + 1
  | false => t + 2
noncomputable def nmP0 (n t c : Nat) (σ : Nat → Nat) : NmP := ⟨n, tlS 0 σ 1, tlS 0 σ 0, cutS (shN 0 σ) 0 + 0, cutS (shN 0 σ) 0 + 1, abcS c, abT c t⟩
noncomputable def CntOk (c : Nat) : Prop := c = 4 ∨ c = 6 ∨ c = 8 ∨ c = 9 ∨ c = 12 ∨ c = 16
@[irreducible] noncomputable def nmA (P : Params) (b : Bool) (K : KT) (pg : Program) (c : Nat) (tc : Tok) (n t : Nat) (σ : Nat → Nat) : Ou :=
  goC (mkW P b K pg [sEnumS]) 4000 13 (.call (.ref 117) ⟨[.int (c : Int) tc], []⟩)
  [] n t σ
  [0,0,1,1,0,0,0,0,1,0,0,2,2,2,2,0,0,0,2,4,4,0,4,0,4,4,4,0,4,0,4,0,4,1]
theorem nmA_id : @nmA = @nmA := rfl
lay_z Mine.nmA
end Mine
name_z nmAY for Mine.nmA by Mine.nmA_id
namespace Mine
theorem nmA_r (P : Params) (b : Bool) (c : Nat) (tc : Tok) (n t : Nat) (σ : Nat → Nat) (hc : CntOk c) : Go2 ((nmP0 n t c σ).C (ktop P)) 12 [5, 3, 2, 4] (nmSt (nmP0 n t c σ) loc0 (enO (nmP0 n t c σ).si 0 .none) (siO (abcS c) (abT c t) 0) [] 0) [Ascii (abcS c)] (nmA P b (ktop P) theProg c tc n t σ) := by
  rw [PySem.W.ZFast.nmAY_eq]
  rcases hc with rfl | rfl | rfl | rfl | rfl | rfl <;> cases b <;> refine ⟨⟨?_, ?_, ?_, ?_, ?_, ?_⟩, ?_, ?_, ?_, ?_⟩ <;> kernel_rfl
@[irreducible] noncomputable def nmT (P : Params) (b : Bool) (K : KT) (pg : Program) (p : NmP) (lo : Obj) (v5 : Value) (ys : List Value) (ey : Nat) (ap : List Value → Value → List Value) (k : Nat) (r : Int) (orc : List Nat) (n t : Nat) (σ : Nat → Nat) : Ou :=
  goC (mkW P b K pg [sNextS (letS k), sV (opModL r), sApp ap]) 4000 12 (p.C K)
  (nmSt p lo (enO p.si (k : Int) v5) (siO p.x p.tx (k : Int)) ys ey) n t σ
  orc
theorem nmT_id : @nmT = @nmT := rfl
lay_z Mine.nmT
end Mine
name_z nmTY for Mine.nmT by Mine.nmT_id
namespace Mine
theorem nmTa_r (P : Params) (b : Bool) (p : NmP) (v5 : Value) (ys : List Value) (ey : Nat) (ap : List Value → Value → List Value) (n t : Nat) (σ : Nat → Nat) : Go1 (p.C (ktop P)) (List.range 4) (nmSt p (locB (PySem.W.ZFast.hKY P) (cutS (shN 0 σ) 1 + 1) (cutS (shN 0 σ) 1 + 2) (.int 0 (cutS (shN 0 σ) 1 + 0)) (.str (letS 0) (tlS 0 σ 0))) (enG (cutS (shN 0 σ) 0 + 0) p.si 1 (.str (letS 0) (tlS 0 σ 0))) (siO p.x p.tx 1) (ap ys (.str (letS 0) (tlS 0 σ 0))) (tlS 2 σ 0)) [ys.length ≤ 100000, (0 : Int) < 3 ∧ (0 : Int) % 3 = 0, SignIs p.x 0 (letS 0)] (nmT P b (ktop P) theProg p loc0 v5 ys ey ap 0 0 [2,0,2,0,2,3,0,3,2,2,2,2,2,2,2,2,2,2,2,2,2,2,2,2,2,2,5,5,5,0,5,0,6,6,0,6,0,6,6,5,6,6,6,0,6,0,6,6,5,6,6,6,0,6,0,6,6,5,6,6,8,1,1,1,1,1,1,0,3,9,9,9,0,9,0,9,0,0,0,0,4,4,3,1] n t σ) := by
  rw [PySem.W.ZFast.nmTY_eq]
  cases b <;> refine ⟨⟨?_, ?_, ?_, ?_, ?_, ?_⟩, ?_, ?_, ?_, ?_⟩ <;> kernel_rfl
theorem nmTb_r (P : Params) (b : Bool) (p : NmP) (k0 k1 : Tok) (v1 v2 : Value) (v5 : Value) (ys : List Value) (ey : Nat) (ap : List Value → Value → List Value) (k : Nat) (n t : Nat) (σ : Nat → Nat) : Go1 (p.C (ktop P)) (List.range 4) (nmSt p (locB (PySem.W.ZFast.hKY P) k0 k1 (.int (k : Int) (cutS (shN 0 σ) 1 + 0)) (.str (letS k) (tlS 0 σ 0))) (enG (cutS (shN 0 σ) 0 + 0) p.si ((k : Int) + 1) (.str (letS k) (tlS 0 σ 0))) (siO p.x p.tx ((k : Int) + 1)) (ap ys (.str ⟨#[97 + k]⟩ (tlS 0 σ 0))) (tlS 2 σ 0)) [ys.length ≤ 100000, (0 : Int) < 3 ∧ (k : Int) % 3 = 0, SignIs p.x (k : Int) (letS k)] (nmT P b (ktop P) theProg p (locB (PySem.W.ZFast.hKY P) k0 k1 v1 v2) v5 ys ey ap k 0 [2,0,2,0,2,3,0,3,2,2,2,2,2,2,2,2,2,2,2,2,2,2,2,2,2,2,5,5,5,0,5,0,6,6,0,6,0,6,6,5,6,6,6,0,6,0,6,6,5,6,6,6,0,6,0,6,6,5,6,6,8,1,1,1,1,1,1,0,3,9,9,9,0,9,0,9,0,0,0,0,4,4,3,1] n t σ) := by
  rw [PySem.W.ZFast.nmTY_eq]
  cases b <;> refine ⟨⟨?_, ?_, ?_, ?_, ?_, ?_⟩, ?_, ?_, ?_, ?_⟩ <;> kernel_rfl
theorem nmTc_r (P : Params) (b : Bool) (p : NmP) (k0 k1 : Tok) (v1 v2 : Value) (v5 : Value) (ys : List Value) (ey : Nat) (ap : List Value → Value → List Value) (k : Nat) (n t : Nat) (σ : Nat → Nat) : Go1 (p.C (ktop P)) (List.range 4) (nmSt p (locB (PySem.W.ZFast.hKY P) k0 k1 (.int (k : Int) (cutS (shN 0 σ) 1 + 0)) (.str (letS k) (tlS 0 σ 0))) (enG (cutS (shN 0 σ) 0 + 0) p.si ((k : Int) + 1) (.str (letS k) (tlS 0 σ 0))) (siO p.x p.tx ((k : Int) + 1)) (ap ys (.str ⟨#[97 + k, 32]⟩ (cutS (shN 1 σ) 1 + 0))) (tlS 2 σ 0)) [ys.length ≤ 100000, (0 : Int) < 3 ∧ (k : Int) % 3 = 1, SignIs p.x (k : Int) (letS k)] (nmT P b (ktop P) theProg p (locB (PySem.W.ZFast.hKY P) k0 k1 v1 v2) v5 ys ey ap k 1 [2,0,2,0,2,3,0,3,2,2,2,2,2,2,2,2,2,2,2,2,2,2,2,2,2,2,5,5,5,0,5,0,6,6,0,6,0,6,6,5,6,6,6,0,6,0,6,6,5,6,6,6,0,6,0,6,6,5,6,6,8,1,1,1,1,1,1,0,3,9,9,9,0,9,0,9,0,0,0,0,4,4,3,1] n t σ) := by
  rw [PySem.W.ZFast.nmTY_eq]
  cases b <;> refine ⟨⟨?_, ?_, ?_, ?_, ?_, ?_⟩, ?_, ?_, ?_, ?_⟩ <;> kernel_rfl
theorem nmTd_r (P : Params) (b : Bool) (p : NmP) (k0 k1 : Tok) (v1 v2 : Value) (v5 : Value) (ys : List Value) (ey : Nat) (ap : List Value → Value → List Value) (k : Nat) (n t : Nat) (σ : Nat → Nat) : Go1 (p.C (ktop P)) (List.range 4) (nmSt p (locB (PySem.W.ZFast.hKY P) k0 k1 (.int (k : Int) (cutS (shN 0 σ) 1 + 0)) (.str (letS k) (tlS 0 σ 0))) (enG (cutS (shN 0 σ) 0 + 0) p.si ((k : Int) + 1) (.str (letS k) (tlS 0 σ 0))) (siO p.x p.tx ((k : Int) + 1)) (ap ys (.str ⟨#[97 + k, 34]⟩ (cutS (shN 1 σ) 1 + 0))) (tlS 2 σ 0)) [ys.length ≤ 100000, (0 : Int) < 3 ∧ (k : Int) % 3 = 2, SignIs p.x (k : Int) (letS k)] (nmT P b (ktop P) theProg p (locB (PySem.W.ZFast.hKY P) k0 k1 v1 v2) v5 ys ey ap k 2 [2,0,2,0,2,3,0,3,2,2,2,2,2,2,2,2,2,2,2,2,2,2,2,2,2,2,5,5,5,0,5,0,6,6,0,6,0,6,6,5,6,6,6,0,6,0,6,6,5,6,6,6,0,6,0,6,6,5,6,6,8,1,1,1,1,1,1,0,3,9,9,9,0,9,0,9,0,0,0,0,4,4,3,1] n t σ) := by
  rw [PySem.W.ZFast.nmTY_eq]
  cases b <;> refine ⟨⟨?_, ?_, ?_, ?_, ?_, ?_⟩, ?_, ?_, ?_, ?_⟩ <;> kernel_rfl
@[irreducible] noncomputable def nmZ (P : Params) (b : Bool) (K : KT) (pg : Program) (p : NmP) (lo : Obj) (v5 : Value) (ys : List Value) (ey : Nat) (c : Nat) (tx : Tok) (n t : Nat) (σ : Nat → Nat) : Ou :=
  goC (mkW P b K pg []) 4000 12 (p.C K)
  (nmSt p lo (enO p.si (c : Int) v5) (siO (abcS c) tx (c : Int)) ys ey) n t σ
  [2,0,2,0,2,3,0,3,0,3,3,3,3,6]
theorem nmZ_id : @nmZ = @nmZ := rfl
lay_z Mine.nmZ
end Mine
name_z nmZY for Mine.nmZ by Mine.nmZ_id
namespace Mine
theorem nmZ_r (P : Params) (b : Bool) (p : NmP) (lo : Obj) (v5 : Value) (ys : List Value) (ey : Nat) (c : Nat) (tx : Tok) (n t : Nat) (σ : Nat → Nat) (hc : CntOk c) : Go0 (.ok .next) [0, 3] [(p.loc, lo), (p.acc, lst ys ey)] [] (nmZ P b (ktop P) theProg p lo v5 ys ey c tx n t σ) := by
  rw [PySem.W.ZFast.nmZY_eq]
  rcases hc with rfl | rfl | rfl | rfl | rfl | rfl <;> cases b <;> refine ⟨⟨?_, ?_, ?_, ?_, ?_, ?_⟩, ?_, ?_, ?_⟩ <;> kernel_rfl
@[irreducible] noncomputable def nmR (P : Params) (b : Bool) (K : KT) (pg : Program) (hf : Str → Int) (k0 k1 : Tok) (v1 v2 : Value) (ys : List Value) (ey : Nat) (c : Nat) (tc : Tok) (n0 t0 : Nat) (σ0 : Nat → Nat) (n t : Nat) (σ : Nat → Nat) : Ou :=
  goS (mkW P b K pg []) 4000 12 (.ok .next) ((nmA P b K pg c tc n0 t0 σ0).stk)
  ([((nmP0 n0 t0 c σ0).loc, locB hf k0 k1 v1 v2), ((nmP0 n0 t0 c σ0).acc, lst ys ey)]) n t σ
  [1,1,1,1,1,1]
theorem nmR_id : @nmR = @nmR := rfl
lay_z Mine.nmR
end Mine
name_z nmRY for Mine.nmR by Mine.nmR_id
namespace Mine
theorem nmR_r (P : Params) (b : Bool) (hf : Str → Int) (k0 k1 : Tok) (v1 v2 : Value) (ys : List Value) (ey : Nat) (c : Nat) (tc : Tok) (n0 t0 : Nat) (σ0 : Nat → Nat) (n t : Nat) (σ : Nat → Nat) (hc : CntOk c) : Go0 (.ok (.ret (.ref (nmP0 n0 t0 c σ0).acc))) [1] [((nmP0 n0 t0 c σ0).acc, lst ys ey)] [] (nmR P b (ktop P) theProg hf k0 k1 v1 v2 ys ey c tc n0 t0 σ0 n t σ) := by
  rw [PySem.W.ZFast.nmRY_eq]
  rcases hc with rfl | rfl | rfl | rfl | rfl | rfl <;> cases b <;> refine ⟨⟨?_, ?_, ?_, ?_, ?_, ?_⟩, ?_, ?_, ?_⟩ <;> kernel_rfl
inductive LoB (hf : Str → Int) : Nat → Obj → Prop
  | z : LoB hf 0 loc0
  | s (k t1 t2 v1 v2) : LoB hf (k + 1) (locB hf t1 t2 v1 v2)
section
variable {w : World} {p : NmP} {c : Nat}
theorem CntOk.le (h : CntOk c) : 4 ≤ c ∧ c ≤ 16 := by unfold CntOk at h; omega
theorem ascii_abc (hc : CntOk c) : Ascii (abcS c) := by
  rcases hc with rfl | rfl | rfl | rfl | rfl | rfl <;> exact ⟨by decide +kernel⟩
theorem sign_at {k : Nat} (h : k < c) : SignIs (abcS c) (k : Int) (letS k) :=
  ⟨97 + k, Int.natCast_nonneg _, by rw [Int.toNat_natCast]; simp [abcS, h], rfl⟩
theorem nm_go {k : Nat} {y : Str} {r : Int} {lo : Obj} {v5 : Value} {ys : List Value} {ey : Nat} {orc J : List Nat} {lo' : (Nat → Nat) → Obj} {v5' : (Nat → Nat) → Value} {tk : (Nat → Nat) → Tok} {Q : Result → Sto → Prop} (hc : CntOk c) (hx : p.x = abcS c) (hk : k < c) (hy : nmS k = y) (hr : (k : Int) % 3 = r) (hl : ∀ σ, LoB (PySem.W.ZFast.hKY w.params) (k + 1) (lo' σ)) (hs : StrsAre ys ((List.range k).map nmS)) (hJ : J.Nodup)
    (F : ∀ n t σ, Go1 (p.C (ktop w.params)) J (nmSt p (lo' σ) (enG (cutS (shN 0 σ) 0 + 0) p.si ((k + 1 : Nat) : Int) (v5' σ)) (siO p.x p.tx ((k + 1 : Nat) : Int)) (apI ys (.str y (tk σ))) (tlS 2 σ 0)) [ys.length ≤ 100000, (0 : Int) < 3 ∧ (k : Int) % 3 = r, SignIs p.x (k : Int) (letS k)] (nmT w.params (bOf w) (ktop w.params) theProg p lo v5 ys ey apI k r orc n t σ))
    (H : ∀ lo' v5' ys' ey', LoB (PySem.W.ZFast.hKY w.params) (k + 1) lo' → StrsAre ys' ((List.range (k + 1)).map nmS) → Ends w 12 (p.C (ktop w.params)) (nmSt p lo' (enO p.si ((k + 1 : Nat) : Int) v5') (siO p.x p.tx ((k + 1 : Nat) : Int)) ys' ey') Q) :
    Ends w 12 (p.C (ktop w.params)) (nmSt p lo (enO p.si (k : Int) v5) (siO p.x p.tx (k : Int)) ys ey) Q := by
  have hc2 := hc.le
  have hyl := strsAre_len hs
  rw [List.length_map, List.length_range] at hyl
  refine Ends.turn (fun n t σ => nmT.eq_1 w.params (bOf w) (ktop w.params) theProg p lo v5 ys ey apI k r orc n t σ) rfl ⟨cNextS_ok.ok _ _, sV_ok opModL_good, cApp_ok.ok _ _, trivial⟩ F hJ (fun _ _ _ _ => ⟨by omega, ⟨by omega, hr⟩, by rw [hx]; exact sign_at hk, trivial⟩) fun n t σ _ => ?_
  rw [enG_eq]
  refine H _ _ _ _ (hl σ) ?_
  rw [List.range_succ, List.map_append, ← hy]
  exact strsAre_snoc hs
theorem nm_turn {k : Nat} {lo : Obj} {v5 : Value} {ys : List Value} {ey : Nat} {Q : Result → Sto → Prop} (hc : CntOk c) (hx : p.x = abcS c) (hk : k < c) (hl : LoB (PySem.W.ZFast.hKY w.params) k lo) (hs : StrsAre ys ((List.range k).map nmS))
    (H : ∀ lo' v5' ys' ey', LoB (PySem.W.ZFast.hKY w.params) (k + 1) lo' → StrsAre ys' ((List.range (k + 1)).map nmS) → Ends w 12 (p.C (ktop w.params)) (nmSt p lo' (enO p.si ((k + 1 : Nat) : Int) v5') (siO p.x p.tx ((k + 1 : Nat) : Int)) ys' ey') Q) :
    Ends w 12 (p.C (ktop w.params)) (nmSt p lo (enO p.si (k : Int) v5) (siO p.x p.tx (k : Int)) ys ey) Q := by
  cases hl with
  | z => exact nm_go hc hx hk rfl (r := 0) rfl (fun σ => .s 0 _ _ _ _) hs (by decide) (fun n t σ => nmTa_r w.params (bOf w) p v5 ys ey apI n t σ) H
  | s k t1 t2 v1 v2 =>
    have h3 : (k + 1) % 3 = 0 ∨ (k + 1) % 3 = 1 ∨ (k + 1) % 3 = 2 := by omega
    have e : ∀ l, nameT (k + 1) = l → nmS (k + 1) = ⟨l.toArray⟩ := fun l h => by rw [nmS, h]
    rcases h3 with q | q | q
    · exact nm_go hc hx hk (e [97 + (k + 1)] (by unfold nameT; rw [q]; rfl)) (r := 0) (by omega) (fun σ => .s (k + 1) _ _ _ _) hs (by decide) (fun n t σ => nmTb_r w.params (bOf w) p t1 t2 v1 v2 v5 ys ey apI (k + 1) n t σ) H
    · exact nm_go hc hx hk (e [97 + (k + 1), 32] (by unfold nameT; rw [q]; rfl)) (r := 1) (by omega) (fun σ => .s (k + 1) _ _ _ _) hs (by decide) (fun n t σ => nmTc_r w.params (bOf w) p t1 t2 v1 v2 v5 ys ey apI (k + 1) n t σ) H
    · exact nm_go hc hx hk (e [97 + (k + 1), 34] (by unfold nameT; rw [q]; rfl)) (r := 2) (by omega) (fun σ => .s (k + 1) _ _ _ _) hs (by decide) (fun n t σ => nmTd_r w.params (bOf w) p t1 t2 v1 v2 v5 ys ey apI (k + 1) n t σ) H
theorem nm_loop (hc : CntOk c) (hx : p.x = abcS c) : ∀ (m k : Nat) (lo : Obj) (v5 : Value) (ys : List Value) (ey : Nat), k + m = c → LoB (PySem.W.ZFast.hKY w.params) k lo → StrsAre ys ((List.range k).map nmS) →
    Ends w 12 (p.C (ktop w.params)) (nmSt p lo (enO p.si (k : Int) v5) (siO p.x p.tx (k : Int)) ys ey) (fun r G => r = .ok .next ∧ ∃ t1 t2 v1 v2 ys' ey', G = [(p.loc, locB (PySem.W.ZFast.hKY w.params) t1 t2 v1 v2), (p.acc, lst ys' ey')] ∧ StrsAre ys' ((List.range c).map nmS))
  | 0, k, lo, v5, ys, ey, hk, hl, hs => by
    have hk : k = c := hk
    subst hk
    have := hc.le
    cases hl with
    | z => omega
    | s k t1 t2 v1 v2 =>
      rw [hx]
      exact Ends.fin (fun n t σ => nmZ.eq_1 w.params (bOf w) (ktop w.params) theProg p _ v5 ys ey (k + 1) p.tx n t σ) rfl trivial (fun n t σ => nmZ_r w.params (bOf w) p _ v5 ys ey (k + 1) p.tx n t σ hc) (by decide) (fun _ _ _ _ => trivial) fun n t σ _ => ⟨rfl, _, _, _, _, _, _, rfl, hs⟩
  | m + 1, k, lo, v5, ys, ey, hk, hl, hs => nm_turn hc hx (by omega) hl hs fun lo' v5' ys' ey' hl' hs' => nm_loop hc hx m (k + 1) lo' v5' ys' ey' (by omega) hl' hs'
noncomputable def nmL (c : Nat) (σ : Nat → Nat) : List Value := upN (fun i => .str (nmS i) (σ (2 + i))) c 0
structure NcP where
  (c : Nat) (tc : Tok)
noncomputable def cNm (nl : Nat → (Nat → Nat) → List Value) : Con NcP where
  lv := 13
  co p := .call (.ref 117) ⟨[.int (p.c : Int) p.tc], []⟩
  E p := []
  cs p := [CntOk p.c]
  res p σ := .ok (.ret (.ref (σ 0)))
  E' p σ := [(σ 0, lst (nl p.c σ) (σ 1))]
theorem nmL_of {vs : List Value} (h : StrsAre vs ((List.range c).map nmS)) (hc : c ≤ 16) (a b : Nat) : ∃ σ : Nat → Nat, (∀ i, 62 ≤ i → σ i = 0) ∧ σ 0 = a ∧ σ 1 = b ∧ vs = nmL c σ := by
  obtain ⟨τ, rfl⟩ := strsAre_range h
  refine ⟨fun i => if i < 2 then kL [a, b] i else if i < 18 then τ (i - 2) else 0, fun i hi => ?_, rfl, rfl, ?_⟩
  · dsimp only
    rw [if_neg (by omega), if_neg (by omega)]
  · rw [nmL, upN_eq]
    refine List.map_congr_left fun i hi => ?_
    have := List.mem_range.mp hi
    rw [Nat.zero_add, if_neg (by omega), if_pos (by omega), Nat.add_sub_cancel_left]
theorem cNm_ok : (cNm nmL).Holds w where
  ad p σ := ⟨_, rfl⟩
  does p h := by
    obtain ⟨c, tc⟩ := p
    have hc : CntOk c := h.1
    have hc2 := hc.le
    refine Ends.cut (fun n t σ => nmA.eq_1 w.params (bOf w) (ktop w.params) theProg c tc n t σ) rfl ⟨cEnumS_ok.ok _ _, trivial⟩ (fun n t σ => nmA_r w.params (bOf w) c tc n t σ hc) (by decide) (fun _ _ _ _ => ⟨ascii_abc hc, trivial⟩) fun n t σ _ => ?_
    refine (nm_loop (p := nmP0 n t c σ) hc rfl c 0 loc0 .none [] 0 (Nat.zero_add c) .z .nil).mono fun r G x => ?_
    obtain ⟨rfl, t1, t2, v1, v2, ys, ey, rfl, hs⟩ := x
    obtain ⟨σ', z, q0, q1, rfl⟩ := nmL_of hs hc2.2 (nmP0 n t c σ).acc ey
    exact EndsS.fin (fun n' t' σ' => nmR.eq_1 w.params (bOf w) (ktop w.params) theProg _ t1 t2 v1 v2 _ ey c tc n t σ n' t' σ') trivial (fun n' t' σ' => nmR_r w.params (bOf w) _ t1 t2 v1 v2 _ ey c tc n t σ n' t' σ' hc) (by decide) (fun _ _ _ _ => trivial) fun n' t' σ2 _ => ⟨σ', z, by rw [← q0]; rfl, by rw [← q0, ← q1]; rfl⟩
end
end Mine
end
section
open PySem PySem.W PySem.W.X PyProof.Rows
namespace Mine
noncomputable def rowS (k : Nat) : Str := ⟨(rowT k).toArray⟩
structure WrP where
  (nm fr en li rows : Nat) (nv : List Value) (ev : Nat)
noncomputable def wrC (K : KT) (en fr : Nat) : Code := .forLoop (tgtS (nthS (stmtsOf (fdK K 122)) 1)) (.ref en) (bodyS (nthS (stmtsOf (fdK K 122)) 1)) []
  { scope := (fdK K 122).scope, locals := fr, globals := 3, cells := [], qual := "_law_written.<locals>.", func := some 122, code := .ref 121, frame := some fr, builtins := 0 }
noncomputable def WrP.C (K : KT) (p : WrP) : Code := wrC K p.en p.fr
noncomputable def frW2 (hf : Str → Int) (k0 k1 : Tok) (v0 v1 : Value) : Obj := { cls := .type "frame", data := .dict #[⟨hf "names", .str "names" k0, v0⟩, ⟨hf "rows", .str "rows" k1, v1⟩] 2 }
noncomputable def frW4 (hf : Str → Int) (k0 k1 k2 k3 : Tok) (v0 v1 v2 v3 : Value) : Obj := { cls := .type "frame", data := .dict #[⟨hf "names", .str "names" k0, v0⟩, ⟨hf "rows", .str "rows" k1, v1⟩, ⟨hf "k", .str "k" k2, v2⟩, ⟨hf "name", .str "name" k3, v3⟩] 4 }
noncomputable def wrSt (p : WrP) (fo eo io : Obj) (ys : List Value) (ey : Nat) : Sto := [(p.fr, fo), (p.en, eo), (p.li, io), (p.rows, lst ys ey), (p.nm, lst p.nv p.ev)]
noncomputable def wrDev : WrP := ⟨101, 102, 103, 104, 105, [.str "a" 301, .str "b " 302, .str "c\"" 303, .str "d" 304], 7⟩
noncomputable def wrP0 (n t : Nat) (nm : Nat) (nv : List Value) (ev : Nat) (σ : Nat → Nat) : WrP := ⟨nm, n, tlS 0 σ 1, tlS 0 σ 0, n + 1, nv, ev⟩
@[irreducible] noncomputable def wrA (P : Params) (b : Bool) (K : KT) (pg : Program) (nm : Nat) (nv : List Value) (ev : Nat) (n t : Nat) (σ : Nat → Nat) : Ou :=
  goC (mkW P b K pg [sEnumL]) 4000 13 (.call (.ref 122) ⟨[.ref nm], []⟩)
  [(nm, lst nv ev)] n t σ
  [0,0,2,2,0,0,2,2,0,0,2,0,0,0,2,0,5,5,0,5,0,5,5,5,0,5,0,5,1]
theorem wrA_id : @wrA = @wrA := rfl
lay_z Mine.wrA
end Mine
name_z wrAY for Mine.wrA by Mine.wrA_id
namespace Mine
theorem wrA_r (P : Params) (b : Bool) (nm : Nat) (nv : List Value) (ev : Nat) (n t : Nat) (σ : Nat → Nat) : Go2 ((wrP0 n t nm nv ev σ).C (ktop P)) 12 [1, 4, 3, 2, 0] (wrSt (wrP0 n t nm nv ev σ) (frW2 (PySem.W.ZFast.hKY P) t (t + 1) (.ref nm) (.ref (n + 1))) (enO (tlS 0 σ 0) 0 .none) (liO nm 0) [] 0) [] (wrA P b (ktop P) theProg nm nv ev n t σ) := by
  rw [PySem.W.ZFast.wrAY_eq]
  cases b <;> refine ⟨⟨?_, ?_, ?_, ?_, ?_, ?_⟩, ?_, ?_, ?_, ?_⟩ <;> kernel_rfl
@[irreducible] noncomputable def wrT (P : Params) (b : Bool) (K : KT) (pg : Program) (p : WrP) (fo : Obj) (v5 : Value) (ys : List Value) (ey : Nat) (ap : List Value → Value → List Value) (k : Nat) (r : Int) (y : Str) (ty : Tok) (orc : List Nat) (n t : Nat) (σ : Nat → Nat) : Ou :=
  goC (mkW P b K pg [sNext (.str y ty), sV (opModL r), sApp ap]) 4000 12 (p.C K)
  (wrSt p fo (enO p.li (k : Int) v5) (liO p.nm (k : Int)) ys ey) n t σ
  orc
theorem wrT_id : @wrT = @wrT := rfl
lay_z Mine.wrT
end Mine
name_z wrTY for Mine.wrT by Mine.wrT_id
namespace Mine
theorem wrTa_r (P : Params) (b : Bool) (p : WrP) (k0 k1 : Tok) (v5 : Value) (ys : List Value) (ey : Nat) (ap : List Value → Value → List Value) (ty : Tok) (n t : Nat) (σ : Nat → Nat) : Go1 (p.C (ktop P)) (List.range 5) (wrSt p (frW4 (PySem.W.ZFast.hKY P) k0 k1 (cutS (shN 0 σ) 1 + 1) (cutS (shN 0 σ) 1 + 2) (.ref p.nm) (.ref p.rows) (.int 0 (cutS (shN 0 σ) 1 + 0)) (.str ⟨#[97]⟩ ty)) (enG (cutS (shN 0 σ) 0 + 0) p.li 1 (.str ⟨#[97]⟩ ty)) (liO p.nm 1) (ap ys (.str ⟨#[97, 10]⟩ (cutS (shN 1 σ) 1 + 2))) (tlS 2 σ 0)) [ys.length ≤ 100000, (0 : Int) < 3 ∧ (0 : Int) % 3 = 0, ItemIs p.nv 0 (.str ⟨#[97]⟩ ty)] (wrT P b (ktop P) theProg p (frW2 (PySem.W.ZFast.hKY P) k0 k1 (.ref p.nm) (.ref p.rows)) v5 ys ey ap 0 0 ⟨#[97]⟩ ty [2,0,2,0,2,3,0,3,2,2,4,2,2,2,2,2,2,2,2,2,2,2,2,2,2,2,2,6,6,6,0,6,0,7,7,0,7,0,7,7,6,7,7,7,0,7,0,7,7,6,7,7,7,0,7,0,7,7,6,7,7,9,1,1,1,1,1,0,3,0,0,1,4,4,4,4,1,0,0,0,4,4,3,1] n t σ) := by
  rw [PySem.W.ZFast.wrTY_eq]
  cases b <;> refine ⟨⟨?_, ?_, ?_, ?_, ?_, ?_⟩, ?_, ?_, ?_, ?_⟩ <;> kernel_rfl
theorem wrTb_r (P : Params) (b : Bool) (p : WrP) (k0 k1 k2 k3 : Tok) (v2 v3 v5 : Value) (ys : List Value) (ey : Nat) (ap : List Value → Value → List Value) (k : Nat) (ty : Tok) (n t : Nat) (σ : Nat → Nat) : Go1 (p.C (ktop P)) (List.range 5) (wrSt p (frW4 (PySem.W.ZFast.hKY P) k0 k1 k2 k3 (.ref p.nm) (.ref p.rows) (.int (k : Int) (cutS (shN 0 σ) 1 + 0)) (.str ⟨#[97 + k]⟩ ty)) (enG (cutS (shN 0 σ) 0 + 0) p.li ((k : Int) + 1) (.str ⟨#[97 + k]⟩ ty)) (liO p.nm ((k : Int) + 1)) (ap ys (.str ⟨#[97 + k, 10]⟩ (cutS (shN 1 σ) 1 + 2))) (tlS 2 σ 0)) [ys.length ≤ 100000, (0 : Int) < 3 ∧ (k : Int) % 3 = 0, ItemIs p.nv (k : Int) (.str ⟨#[97 + k]⟩ ty)] (wrT P b (ktop P) theProg p (frW4 (PySem.W.ZFast.hKY P) k0 k1 k2 k3 (.ref p.nm) (.ref p.rows) v2 v3) v5 ys ey ap k 0 ⟨#[97 + k]⟩ ty [2,0,2,0,2,3,0,3,2,2,4,2,2,2,2,2,2,2,2,2,2,2,2,2,2,2,2,6,6,6,0,6,0,7,7,0,7,0,7,7,6,7,7,7,0,7,0,7,7,6,7,7,7,0,7,0,7,7,6,7,7,9,1,1,1,1,1,0,3,0,0,1,4,4,4,4,1,0,0,0,4,4,3,1] n t σ) := by
  rw [PySem.W.ZFast.wrTY_eq]
  cases b <;> refine ⟨⟨?_, ?_, ?_, ?_, ?_, ?_⟩, ?_, ?_, ?_, ?_⟩ <;> kernel_rfl
theorem wrTc_r (P : Params) (b : Bool) (p : WrP) (k0 k1 k2 k3 : Tok) (v2 v3 v5 : Value) (ys : List Value) (ey : Nat) (ap : List Value → Value → List Value) (k : Nat) (ty : Tok) (n t : Nat) (σ : Nat → Nat) : Go1 (p.C (ktop P)) (List.range 5) (wrSt p (frW4 (PySem.W.ZFast.hKY P) k0 k1 k2 k3 (.ref p.nm) (.ref p.rows) (.int (k : Int) (cutS (shN 0 σ) 1 + 0)) (.str ⟨#[97 + k, 32]⟩ ty)) (enG (cutS (shN 0 σ) 0 + 0) p.li ((k : Int) + 1) (.str ⟨#[97 + k, 32]⟩ ty)) (liO p.nm ((k : Int) + 1)) (ap ys (.str ⟨#[34, 97 + k, 32, 34, 10]⟩ (cutS (shN 2 σ) 1 + 4))) (tlS 3 σ 0)) [ys.length ≤ 100000, (0 : Int) < 3 ∧ (k : Int) % 3 = 1, (0 : Int) < 3 ∧ (k : Int) % 3 = 1, ItemIs p.nv (k : Int) (.str ⟨#[97 + k, 32]⟩ ty)] (wrT P b (ktop P) theProg p (frW4 (PySem.W.ZFast.hKY P) k0 k1 k2 k3 (.ref p.nm) (.ref p.rows) v2 v3) v5 ys ey ap k 1 ⟨#[97 + k, 32]⟩ ty [2,0,2,0,2,3,0,3,2,2,4,2,2,2,2,2,2,2,2,2,2,2,2,2,2,2,2,6,6,6,0,6,0,7,7,0,7,0,7,7,6,7,7,7,0,7,0,7,7,6,7,7,7,0,7,0,7,7,6,7,7,9,1,1,1,1,1,0,3,0,0,1,0,3,0,0,1,4,4,4,4,1,0,0,0,0,0,4,4,3,1] n t σ) := by
  rw [PySem.W.ZFast.wrTY_eq]
  cases b <;> refine ⟨⟨?_, ?_, ?_, ?_, ?_, ?_⟩, ?_, ?_, ?_, ?_⟩ <;> kernel_rfl
theorem wrTd_r (P : Params) (b : Bool) (p : WrP) (k0 k1 k2 k3 : Tok) (v2 v3 v5 : Value) (ys : List Value) (ey : Nat) (ap : List Value → Value → List Value) (k : Nat) (ty : Tok) (n t : Nat) (σ : Nat → Nat) (hk : k = 2 ∨ k = 5 ∨ k = 8 ∨ k = 11 ∨ k = 14) : Go1 (p.C (ktop P)) (List.range 5) (wrSt p (frW4 (PySem.W.ZFast.hKY P) k0 k1 k2 k3 (.ref p.nm) (.ref p.rows) (.int (k : Int) (cutS (shN 0 σ) 1 + 0)) (.str ⟨#[97 + k, 34]⟩ ty)) (enG (cutS (shN 0 σ) 0 + 0) p.li ((k : Int) + 1) (.str ⟨#[97 + k, 34]⟩ ty)) (liO p.nm ((k : Int) + 1)) (ap ys (.str ⟨#[92, 97 + k, 92, 34, 10]⟩ (cutS (shN 2 σ) 1 + 12))) (tlS 3 σ 0)) [ys.length ≤ 100000, (0 : Int) < 3 ∧ (k : Int) % 3 = 2, (0 : Int) < 3 ∧ (k : Int) % 3 = 2, ItemIs p.nv (k : Int) (.str ⟨#[97 + k, 34]⟩ ty)] (wrT P b (ktop P) theProg p (frW4 (PySem.W.ZFast.hKY P) k0 k1 k2 k3 (.ref p.nm) (.ref p.rows) v2 v3) v5 ys ey ap k 2 ⟨#[97 + k, 34]⟩ ty [2,0,2,0,2,3,0,3,2,2,4,2,2,2,2,2,2,2,2,2,2,2,2,2,2,2,2,6,6,6,0,6,0,7,7,0,7,0,7,7,6,7,7,7,0,7,0,7,7,6,7,7,7,0,7,0,7,7,6,7,7,9,1,1,1,1,1,0,3,0,0,1,0,3,0,0,1,4,4,4,4,1,0,0,10,0,10,0,10,0,10,0,10,10,10,10,12,12,12,0,0,0,11,0,11,11,11,0,10,0,10,0,10,10,10,10,12,12,12,0,0,0,11,0,11,11,11,0,10,0,10,0,10,10,10,10,14,12,12,12,0,0,11,11,0,0,0,4,4,3,1] n t σ) := by
  rw [PySem.W.ZFast.wrTY_eq]
  rcases hk with rfl | rfl | rfl | rfl | rfl <;> cases b <;> refine ⟨⟨?_, ?_, ?_, ?_, ?_, ?_⟩, ?_, ?_, ?_, ?_⟩ <;> kernel_rfl
@[irreducible] noncomputable def wrZ (P : Params) (b : Bool) (K : KT) (pg : Program) (p : WrP) (fo : Obj) (v5 : Value) (ys : List Value) (ey : Nat) (c : Nat) (n t : Nat) (σ : Nat → Nat) : Ou :=
  goC (mkW P b K pg [sNextEnd]) 4000 12 (p.C K)
  (wrSt p fo (enO p.li (c : Int) v5) (liO p.nm (c : Int)) ys ey) n t σ
  [2,0,2,0,2,3,0,3,2,2,4,7,0]
theorem wrZ_id : @wrZ = @wrZ := rfl
lay_z Mine.wrZ
end Mine
name_z wrZY for Mine.wrZ by Mine.wrZ_id
namespace Mine
theorem wrZ_r (P : Params) (b : Bool) (p : WrP) (fo : Obj) (v5 : Value) (ys : List Value) (ey : Nat) (c : Nat) (n t : Nat) (σ : Nat → Nat) : Go0 (.ok .next) [0, 3, 4] [(p.fr, fo), (p.rows, lst ys ey), (p.nm, lst p.nv p.ev)] [AtEnd p.nv (c : Int)] (wrZ P b (ktop P) theProg p fo v5 ys ey c n t σ) := by
  rw [PySem.W.ZFast.wrZY_eq]
  cases b <;> refine ⟨⟨?_, ?_, ?_, ?_, ?_, ?_⟩, ?_, ?_, ?_⟩ <;> kernel_rfl
@[irreducible] noncomputable def wrR (P : Params) (b : Bool) (K : KT) (pg : Program) (tx : Str) (hf : Str → Int) (k0 k1 k2 k3 : Tok) (v2 v3 : Value) (ys : List Value) (ey : Nat) (nm : Nat) (nv : List Value) (ev : Nat) (n0 t0 : Nat) (σ0 : Nat → Nat) (n t : Nat) (σ : Nat → Nat) : Ou :=
  goS (mkW P b K pg [sJoin tx]) 4000 12 (.ok .next) ((wrA P b K pg nm nv ev n0 t0 σ0).stk)
  ([(n0, frW4 hf k0 k1 k2 k3 (.ref nm) (.ref (n0 + 1)) v2 v3), (n0 + 1, lst ys ey), (nm, lst nv ev)]) n t σ
  [1,0,2,1]
theorem wrR_id : @wrR = @wrR := rfl
lay_z Mine.wrR
end Mine
name_z wrRY for Mine.wrR by Mine.wrR_id
namespace Mine
theorem wrR_r (P : Params) (b : Bool) (tx : Str) (hf : Str → Int) (k0 k1 k2 k3 : Tok) (v2 v3 : Value) (ys : List Value) (ey : Nat) (nm : Nat) (nv : List Value) (ev : Nat) (n0 t0 : Nat) (σ0 : Nat → Nat) (n t : Nat) (σ : Nat → Nat) : Go0 (.ok (.ret (.str tx (tlS 0 σ 0)))) [2] [(nm, lst nv ev)] [JoinV ys (.str ⟨#[]⟩ t) tx] (wrR P b (ktop P) theProg tx hf k0 k1 k2 k3 v2 v3 ys ey nm nv ev n0 t0 σ0 n t σ) := by
  rw [PySem.W.ZFast.wrRY_eq]
  cases b <;> refine ⟨⟨?_, ?_, ?_, ?_, ?_, ?_⟩, ?_, ?_, ?_⟩ <;> kernel_rfl
inductive FrB (hf : Str → Int) (nm rows : Nat) : Nat → Obj → Prop
  | z (k0 k1) : FrB hf nm rows 0 (frW2 hf k0 k1 (.ref nm) (.ref rows))
  | s (k k0 k1 k2 k3 v2 v3) : FrB hf nm rows (k + 1) (frW4 hf k0 k1 k2 k3 (.ref nm) (.ref rows) v2 v3)
section
variable {w : World} {p : WrP} {c : Nat}
theorem names_item {nv : List Value} {k : Nat} (h : StrsAre nv ((List.range c).map nmS)) (hk : k < c) (hc : c ≤ 16) : ∃ ty, ItemIs nv (k : Int) (.str (nmS k) ty) := by
  obtain ⟨τ, rfl⟩ := strsAre_range h
  exact ⟨τ k, Int.natCast_nonneg _, by omega, by rw [Int.toNat_natCast]; simp [hk]⟩
theorem wr_go {k : Nat} {y x : Str} {r : Int} {fo : Obj} {v5 : Value} {ys : List Value} {ey : Nat} {orc J : List Nat} {ty : Tok} {fo' : (Nat → Nat) → Obj} {v5' : (Nat → Nat) → Value} {tk : (Nat → Nat) → Tok} {e : (Nat → Nat) → Nat} {cs : List Prop} {Q : Result → Sto → Prop} (hk : k < 16) (hi : ItemIs p.nv (k : Int) (.str (nmS k) ty)) (hy : nmS k = y) (hx : rowS k = x) (hr : (k : Int) % 3 = r) (hl : ∀ σ, FrB (PySem.W.ZFast.hKY w.params) p.nm p.rows (k + 1) (fo' σ)) (hs : StrsAre ys ((List.range k).map rowS)) (hJ : J.Nodup)
    (F : ∀ n t σ, Go1 (p.C (ktop w.params)) J (wrSt p (fo' σ) (enG (cutS (shN 0 σ) 0 + 0) p.li ((k + 1 : Nat) : Int) (v5' σ)) (liO p.nm ((k + 1 : Nat) : Int)) (apI ys (.str x (tk σ))) (e σ)) cs (wrT w.params (bOf w) (ktop w.params) theProg p fo v5 ys ey apI k r y ty orc n t σ))
    (hcs : ys.length ≤ 100000 → (0 : Int) < 3 ∧ (k : Int) % 3 = r → ItemIs p.nv (k : Int) (.str y ty) → AllP cs)
    (H : ∀ fo' v5' ys' ey', FrB (PySem.W.ZFast.hKY w.params) p.nm p.rows (k + 1) fo' → StrsAre ys' ((List.range (k + 1)).map rowS) → Ends w 12 (p.C (ktop w.params)) (wrSt p fo' (enO p.li ((k + 1 : Nat) : Int) v5') (liO p.nm ((k + 1 : Nat) : Int)) ys' ey') Q) :
    Ends w 12 (p.C (ktop w.params)) (wrSt p fo (enO p.li (k : Int) v5) (liO p.nm (k : Int)) ys ey) Q := by
  have hyl := strsAre_len hs
  rw [List.length_map, List.length_range] at hyl
  refine Ends.turn (fun n t σ => wrT.eq_1 w.params (bOf w) (ktop w.params) theProg p fo v5 ys ey apI k r y ty orc n t σ) rfl ⟨cNext_ok.ok _ _, sV_ok opModL_good, cApp_ok.ok _ _, trivial⟩ F hJ (fun _ _ _ _ => hcs (by omega) ⟨by omega, hr⟩ (hy ▸ hi)) fun n t σ _ => ?_
  rw [enG_eq]
  refine H _ _ _ _ (hl σ) ?_
  rw [List.range_succ, List.map_append, ← hx]
  exact strsAre_snoc hs
theorem wr_turn {k : Nat} {fo : Obj} {v5 : Value} {ys : List Value} {ey : Nat} {Q : Result → Sto → Prop} (hc : CntOk c) (hn : StrsAre p.nv ((List.range c).map nmS)) (hk : k < c) (hl : FrB (PySem.W.ZFast.hKY w.params) p.nm p.rows k fo) (hs : StrsAre ys ((List.range k).map rowS))
    (H : ∀ fo' v5' ys' ey', FrB (PySem.W.ZFast.hKY w.params) p.nm p.rows (k + 1) fo' → StrsAre ys' ((List.range (k + 1)).map rowS) → Ends w 12 (p.C (ktop w.params)) (wrSt p fo' (enO p.li ((k + 1 : Nat) : Int) v5') (liO p.nm ((k + 1 : Nat) : Int)) ys' ey') Q) :
    Ends w 12 (p.C (ktop w.params)) (wrSt p fo (enO p.li (k : Int) v5) (liO p.nm (k : Int)) ys ey) Q := by
  have hc2 := hc.le
  obtain ⟨ty, hi⟩ := names_item hn hk hc2.2
  cases hl with
  | z k0 k1 => exact wr_go (by omega) hi rfl rfl (r := 0) rfl (fun σ => .s 0 _ _ _ _ _ _) hs (by decide) (fun n t σ => wrTa_r w.params (bOf w) p k0 k1 v5 ys ey apI ty n t σ) (fun a b c => ⟨a, b, c, trivial⟩) H
  | s k k0 k1 k2 k3 v2 v3 =>
    have h3 : (k + 1) % 3 = 0 ∨ (k + 1) % 3 = 1 ∨ (k + 1) % 3 = 2 := by omega
    have e : ∀ l, nameT (k + 1) = l → nmS (k + 1) = ⟨l.toArray⟩ := fun l h => by rw [nmS, h]
    have e' : ∀ l, rowT (k + 1) = l → rowS (k + 1) = ⟨l.toArray⟩ := fun l h => by rw [rowS, h]
    rcases h3 with q | q | q
    · exact wr_go (by omega) hi (e [97 + (k + 1)] (by unfold nameT; rw [q]; rfl)) (e' [97 + (k + 1), 10] (by unfold rowT; rw [q]; rfl)) (r := 0) (by omega) (fun σ => .s (k + 1) _ _ _ _ _ _) hs (by decide) (fun n t σ => wrTb_r w.params (bOf w) p k0 k1 k2 k3 v2 v3 v5 ys ey apI (k + 1) ty n t σ) (fun a b c => ⟨a, b, c, trivial⟩) H
    · exact wr_go (by omega) hi (e [97 + (k + 1), 32] (by unfold nameT; rw [q]; rfl)) (e' [34, 97 + (k + 1), 32, 34, 10] (by unfold rowT; rw [q]; rfl)) (r := 1) (by omega) (fun σ => .s (k + 1) _ _ _ _ _ _) hs (by decide) (fun n t σ => wrTc_r w.params (bOf w) p k0 k1 k2 k3 v2 v3 v5 ys ey apI (k + 1) ty n t σ) (fun a b c => ⟨a, b, b, c, trivial⟩) H
    · exact wr_go (by omega) hi (e [97 + (k + 1), 34] (by unfold nameT; rw [q]; rfl)) (e' [92, 97 + (k + 1), 92, 34, 10] (by unfold rowT; rw [q]; rfl)) (r := 2) (by omega) (fun σ => .s (k + 1) _ _ _ _ _ _) hs (by decide) (fun n t σ => wrTd_r w.params (bOf w) p k0 k1 k2 k3 v2 v3 v5 ys ey apI (k + 1) ty n t σ (by omega)) (fun a b c => ⟨a, b, b, c, trivial⟩) H
theorem wr_loop (hc : CntOk c) (hn : StrsAre p.nv ((List.range c).map nmS)) : ∀ (m k : Nat) (fo : Obj) (v5 : Value) (ys : List Value) (ey : Nat), k + m = c → FrB (PySem.W.ZFast.hKY w.params) p.nm p.rows k fo → StrsAre ys ((List.range k).map rowS) →
    Ends w 12 (p.C (ktop w.params)) (wrSt p fo (enO p.li (k : Int) v5) (liO p.nm (k : Int)) ys ey) (fun r G => r = .ok .next ∧ ∃ k0 k1 k2 k3 v2 v3 ys' ey', G = [(p.fr, frW4 (PySem.W.ZFast.hKY w.params) k0 k1 k2 k3 (.ref p.nm) (.ref p.rows) v2 v3), (p.rows, lst ys' ey'), (p.nm, lst p.nv p.ev)] ∧ StrsAre ys' ((List.range c).map rowS))
  | 0, k, fo, v5, ys, ey, hk, hl, hs => by
    have hk : k = c := hk
    subst hk
    have := hc.le
    have hnl := strsAre_len hn
    rw [List.length_map, List.length_range] at hnl
    cases hl with
    | z => omega
    | s k k0 k1 k2 k3 v2 v3 =>
      exact Ends.fin (fun n t σ => wrZ.eq_1 w.params (bOf w) (ktop w.params) theProg p _ v5 ys ey (k + 1) n t σ) rfl ⟨cNextEnd_ok.ok _ _, trivial⟩ (fun n t σ => wrZ_r w.params (bOf w) p _ v5 ys ey (k + 1) n t σ) (by decide) (fun _ _ _ _ => ⟨⟨by rw [hnl, Int.toNat_natCast]; exact Nat.le_refl _⟩, trivial⟩) fun n t σ _ => ⟨rfl, _, _, _, _, _, _, _, _, rfl, hs⟩
  | m + 1, k, fo, v5, ys, ey, hk, hl, hs => wr_turn hc hn (by omega) hl hs fun fo' v5' ys' ey' hl' hs' => wr_loop hc hn m (k + 1) fo' v5' ys' ey' (by omega) hl' hs'
theorem join_sheet (hc : CntOk c) {ys : List Value} (h : StrsAre ys ((List.range c).map rowS)) : JoinIs ys ⟨(preT (c - 1)).toArray⟩ := by
  have e : ∀ c, c = 4 ∨ c = 6 ∨ c = 8 ∨ c = 9 ∨ c = 12 ∨ c = 16 → PySem.Builtin.Str.glued ⟨#[]⟩ ((List.range c).map rowS) = ⟨(preT (c - 1)).toArray⟩ ∧ PySem.Builtin.Str.tooLong (((List.range c).map rowS).toArray.foldl (· + ·.length + 0) 0) = false ∧ (⟨(preT (c - 1)).toArray⟩ : Str).length ≤ sizeLine := by
    rintro c (rfl | rfl | rfl | rfl | rfl | rfl) <;> decide +kernel
  obtain ⟨a, b, d⟩ := e c hc
  exact ⟨_, h, by have := hc.le; simp; omega, a, b, d⟩
structure WrOk (nv : List Value) (tx : Str) : Prop where
  ok : ∃ c, CntOk c ∧ StrsAre nv ((List.range c).map nmS) ∧ tx = ⟨(preT (c - 1)).toArray⟩
structure NlP where
  (nm : Nat) (nv : List Value) (ev : Nat)
noncomputable def cWr (tx : Str) : Con NlP where
  lv := 13
  co p := .call (.ref 122) ⟨[.ref p.nm], []⟩
  E p := [(p.nm, lst p.nv p.ev)]
  cs p := [WrOk p.nv tx]
  res p σ := .ok (.ret (.str tx (σ 0)))
  E' p σ := [(p.nm, lst p.nv p.ev)]
noncomputable def gWr (co : Code) (es : List En) : NlP := ⟨refV ((argsOf co).getD 0 .none), getV (eO es 0), epO (eO es 0)⟩
noncomputable abbrev sWr (tx : Str) : SumFn := sumE (cWr tx) 1 gWr
theorem cWr_ok {tx : Str} : (cWr tx).Holds w where
  ad p σ := ⟨[], rfl⟩
  does p h := by
    obtain ⟨nm, nv, ev⟩ := p
    obtain ⟨c, hc, hn, rfl⟩ : WrOk nv tx := h.1
    refine Ends.cut (fun n t σ => wrA.eq_1 w.params (bOf w) (ktop w.params) theProg nm nv ev n t σ) rfl ⟨cEnumL_ok.ok _ _, trivial⟩ (fun n t σ => wrA_r w.params (bOf w) nm nv ev n t σ) (by decide) (fun _ _ _ _ => trivial) fun n t σ _ => ?_
    refine (wr_loop (p := wrP0 n t nm nv ev σ) hc hn c 0 _ .none [] 0 (Nat.zero_add c) (.z _ _) .nil).mono fun r G x => ?_
    obtain ⟨rfl, k0, k1, k2, k3, v2, v3, ys, ey, rfl, hs⟩ := x
    exact EndsS.fin (fun n' t' σ' => wrR.eq_1 w.params (bOf w) (ktop w.params) theProg _ _ k0 k1 k2 k3 v2 v3 ys ey nm nv ev n t σ n' t' σ') ⟨cJoin_ok.ok _ _, trivial⟩ (fun n' t' σ' => wrR_r w.params (bOf w) _ _ k0 k1 k2 k3 v2 v3 ys ey nm nv ev n t σ n' t' σ') (by decide) (fun _ _ _ _ => ⟨⟨join_sheet hc hs, _, rfl⟩, trivial⟩) fun n' t' σ2 _ => ⟨sg [tlS 0 σ2 0], sg_z (by simp), rfl, rfl⟩
end
end Mine
end
section
open PySem PySem.W PySem.W.X PyProof.Rows
namespace Mine
structure SortIs (vs : List Value) (so : List Str) : Prop where
  so : ∃ ss, StrsAre vs ss ∧ so.length ≤ 16 ∧ vs.length ≤ 16 ∧ sortedS so = true ∧ ss.Perm so
noncomputable def soI (ss : List Str) (σ : Nat → Nat) : List Value := upN (fun i => .str (ss.getD i ⟨#[]⟩) (σ (2 + i))) ss.length 0
noncomputable def cSort (so : List Str) (f : (Nat → Nat) → List Value) : Con NlP where
  lv := 0
  co p := .builtin "sorted" ⟨[.ref p.nm], []⟩
  E p := [(p.nm, lst p.nv p.ev)]
  cs p := [SortIs p.nv so]
  res p σ := .ok (.ret (.ref (σ 0)))
  E' p σ := [(p.nm, lst p.nv p.ev), (σ 0, lst (f σ) (σ 1))]
noncomputable def gSo (co : Code) (es : List En) : NlP := ⟨refV ((posOf co).getD 0 .none), getV (eO es 0), epO (eO es 0)⟩
noncomputable abbrev sSort (so : List Str) (f : (Nat → Nat) → List Value) : SumFn := sumE (cSort so f) 1 gSo
noncomputable def ldN (c : Nat) : Int := match Nat.beq c 8 with
  | true => 1
  | false => 0
structure LsP2 where
  (x : LexD) (tp : Tok) (ep : Nat)
structure LastOk (s : Str) (c : Nat) : Prop where
  hc : CntOk c
  hs : s = ⟨(preT (c - 1)).toArray⟩
noncomputable def cLast (K : KT) (m : Mc) (c : Nat) : Con LsP2 where
  lv := 12
  co p := .call (.ref 84) ⟨[.ref m.lx], []⟩
  E p := m.O K p.x (lst [.int (posT c) p.tp] 0) (lst [] p.ep)
  cs p := [LastOk m.sheet c]
  res p σ := .ok (.ret (.str ⟨#[]⟩ (σ 0)))
  E' p σ := m.O K { p.x with line := p.x.line + ldN c, lt := σ 1 } (lst [.int (posT c + ldN c) (σ 2)] 0) (lst [] p.ep)
noncomputable def gLa (co : Code) (es : List En) : LsP2 := ⟨lexOf (eO es 7), tokV (itemV (eO es 8) 0), epO (eO es 9)⟩
noncomputable abbrev sLast (K : KT) (m : Mc) (c : Nat) : SumFn := sumE (cLast K m c) 10 gLa
noncomputable def boL : Expr → Expr
  | .BoolOp _ (x :: _) _ => x
  | e => e
noncomputable def cmpL : Expr → Expr
  | .Compare l _ _ _ => l
  | e => e
noncomputable def tkE (K : KT) : Expr := cmpL (boL (valS (nthS (stmtsOf (fdK K 146)) 7)))
structure TkP where
  (it acc loc fr : Nat)
noncomputable def TkP.C (K : KT) (p : TkP) : Code := compC K (tkE K) p.it p.acc p.loc p.fr [("deck", p.fr + 3)]
noncomputable def tkSt (K : KT) (m : Mc) (p : TkP) (lo io : Obj) (ys : List Value) (ey : Nat) (x : LexD) (oa : Obj) (vs : List Value) (ep : Nat) : Sto :=
  (p.fr + 3, cellOf (.ref m.lx)) :: (p.loc, lo) :: (p.it, io) :: (p.acc, lst ys ey) :: m.O K x oa (lst vs ep)
noncomputable def tkDev : TkP := ⟨201, 202, 203, 204⟩
@[irreducible] noncomputable def tkT (P : Params) (b : Bool) (K : KT) (pg : Program) (m : Mc) (p : TkP) (lo : Obj) (ys : List Value) (ey : Nat) (x : LexD) (oa : Obj) (y : Str) (ty : Tok) (vs : List Value) (ep : Nat) (k l : Nat) (ap : List Value → Value → List Value) (orc : List Nat) (n t : Nat) (σ : Nat → Nat) : Ou :=
  goC (mkW P b K pg [sPopT, sApp ap]) 4000 16 (p.C K)
  (tkSt K m p lo (riO (k : Int) ((l + 1 : Nat) : Int)) ys ey x oa (.str y ty :: vs) ep) n t σ
  orc
theorem tkT_id : @tkT = @tkT := rfl
lay_z Mine.tkT
end Mine
name_z tkTY for Mine.tkT by Mine.tkT_id
namespace Mine
theorem tkTa_r (P : Params) (b : Bool) (m : Mc) (p : TkP) (ys : List Value) (ey : Nat) (x : LexD) (oa : Obj) (y : Str) (ty : Tok) (vs : List Value) (ep : Nat) (k l : Nat) (ap : List Value → Value → List Value) (n t : Nat) (σ : Nat → Nat) : Go1 (p.C (ktop P)) (List.range 14) (tkSt (ktop P) m p (loc1 "k" (PySem.W.ZFast.hKY P "k") (t + 1) (.int (k : Int) t)) (riO ((k : Int) + 1) (((l + 1 : Nat) : Int) - 1)) (ap ys (.str y ty)) (tlS 1 σ 0) x oa vs (tlS 0 σ 0)) [ys.length ≤ 100000, vs.length ≤ 1000] (tkT P b (ktop P) theProg m p loc0 ys ey x oa y ty vs ep k l ap [3,0,3,0,3,3,3,3,3,3,3,2,2,1,5,0,0,0,5,0,0,0,5,0,0,0,0,5,12,0,2,4,11,13,0,4,3,3,1] n t σ) := by
  rw [PySem.W.ZFast.tkTY_eq]
  cases b <;> refine ⟨⟨?_, ?_, ?_, ?_, ?_, ?_⟩, ?_, ?_, ?_, ?_⟩ <;> kernel_rfl
theorem tkTb_r (P : Params) (b : Bool) (m : Mc) (p : TkP) (hx : Int) (kx : Tok) (vx : Value) (ys : List Value) (ey : Nat) (x : LexD) (oa : Obj) (y : Str) (ty : Tok) (vs : List Value) (ep : Nat) (k l : Nat) (ap : List Value → Value → List Value) (n t : Nat) (σ : Nat → Nat) : Go1 (p.C (ktop P)) (List.range 14) (tkSt (ktop P) m p (loc1 "k" hx kx (.int (k : Int) t)) (riO ((k : Int) + 1) (((l + 1 : Nat) : Int) - 1)) (ap ys (.str y ty)) (tlS 1 σ 0) x oa vs (tlS 0 σ 0)) [ys.length ≤ 100000, vs.length ≤ 1000] (tkT P b (ktop P) theProg m p (loc1 "k" hx kx vx) ys ey x oa y ty vs ep k l ap [3,0,3,0,3,3,3,3,3,3,3,2,2,1,5,0,0,0,5,0,0,0,5,0,0,0,0,5,12,0,2,4,11,13,0,4,3,3,1] n t σ) := by
  rw [PySem.W.ZFast.tkTY_eq]
  cases b <;> refine ⟨⟨?_, ?_, ?_, ?_, ?_, ?_⟩, ?_, ?_, ?_, ?_⟩ <;> kernel_rfl
@[irreducible] noncomputable def tkE1 (P : Params) (b : Bool) (K : KT) (pg : Program) (m : Mc) (p : TkP) (hx : Int) (kx : Tok) (vx : Value) (ys : List Value) (ey : Nat) (x : LexD) (tp : Tok) (ep : Nat) (k l c : Nat) (ap : List Value → Value → List Value) (n t : Nat) (σ : Nat → Nat) : Ou :=
  goC (mkW P b K pg [sLast K m c, sApp ap]) 4000 16 (p.C K)
  (tkSt K m p (loc1 "k" hx kx vx) (riO (k : Int) ((l + 1 : Nat) : Int)) ys ey x (lst [.int (posT c) tp] 0) [] ep) n t σ
  [3,0,3,0,3,3,3,3,3,3,3,2,2,1,5,0,0,0,5,0,0,0,5,0,0,0,0,5,12,0,2,4,5,6,7,8,9,10,11,12,13,0,4,3,3,1]
theorem tkE1_id : @tkE1 = @tkE1 := rfl
lay_z Mine.tkE1
end Mine
name_z tkE1Y for Mine.tkE1 by Mine.tkE1_id
namespace Mine
theorem tkE1_r (P : Params) (b : Bool) (m : Mc) (p : TkP) (hx : Int) (kx : Tok) (vx : Value) (ys : List Value) (ey : Nat) (x : LexD) (tp : Tok) (ep : Nat) (k l c : Nat) (ap : List Value → Value → List Value) (n t : Nat) (σ : Nat → Nat) : Go1 (p.C (ktop P)) (List.range 14) (tkSt (ktop P) m p (loc1 "k" hx kx (.int (k : Int) t)) (riO ((k : Int) + 1) (((l + 1 : Nat) : Int) - 1)) (ap ys (.str ⟨#[]⟩ (tlS 0 σ 0))) (tlS 1 σ 0) { x with line := x.line + ldN c, lt := tlS 0 σ 1 } (lst [.int (posT c + ldN c) (tlS 0 σ 2)] 0) [] ep) [ys.length ≤ 100000, LastOk m.sheet c] (tkE1 P b (ktop P) theProg m p hx kx vx ys ey x tp ep k l c ap n t σ) := by
  rw [PySem.W.ZFast.tkE1Y_eq]
  cases b <;> refine ⟨⟨?_, ?_, ?_, ?_, ?_, ?_⟩, ?_, ?_, ?_, ?_⟩ <;> kernel_rfl
@[irreducible] noncomputable def tkZ (P : Params) (b : Bool) (K : KT) (pg : Program) (m : Mc) (p : TkP) (lo : Obj) (ys : List Value) (ey : Nat) (x : LexD) (oa : Obj) (vs : List Value) (ep : Nat) (k : Nat) (n t : Nat) (σ : Nat → Nat) : Ou :=
  goC (mkW P b K pg []) 4000 16 (p.C K)
  (tkSt K m p lo (riO (k : Int) 0) ys ey x oa vs ep) n t σ
  [3,0,3,0,3,3,3,16]
theorem tkZ_id : @tkZ = @tkZ := rfl
lay_z Mine.tkZ
end Mine
name_z tkZY for Mine.tkZ by Mine.tkZ_id
namespace Mine
theorem tkZ_r (P : Params) (b : Bool) (m : Mc) (p : TkP) (lo : Obj) (ys : List Value) (ey : Nat) (x : LexD) (oa : Obj) (vs : List Value) (ep : Nat) (k : Nat) (n t : Nat) (σ : Nat → Nat) : Go0 (.ok .next) (List.range 14) (tkSt (ktop P) m p lo (riO (k : Int) 0) ys ey x oa vs ep) [] (tkZ P b (ktop P) theProg m p lo ys ey x oa vs ep k n t σ) := by
  rw [PySem.W.ZFast.tkZY_eq]
  cases b <;> refine ⟨⟨?_, ?_, ?_, ?_, ?_, ?_⟩, ?_, ?_, ?_⟩ <;> kernel_rfl
structure TkQ where
  (p : TkP) (x : LexD) (tp : Tok) (vs : List Value) (ep ey : Nat)
structure TkOk (vs : List Value) (c : Nat) : Prop where
  len : vs.length = c
  str : ∃ ss, StrsAre vs ss
noncomputable def cTk (K : KT) (hf : Str → Int) (m : Mc) (c : Nat) (sn : List Value → Tok → List Value) : Con TkQ where
  lv := 16
  co q := q.p.C K
  E q := tkSt K m q.p loc0 (riO 0 ((c : Int) + 1)) [] q.ey q.x (lst [.int (posT c) q.tp] 0) q.vs q.ep
  cs q := [LastOk m.sheet c, TkOk q.vs c]
  res q σ := .ok .next
  E' q σ := tkSt K m q.p (loc1 "k" (hf "k") (σ 0) (.int (c : Int) (σ 1))) (riO ((c : Int) + 1) 0) (sn q.vs (σ 2)) (σ 3) { q.x with line := q.x.line + ldN c, lt := σ 4 } (lst [.int (posT c + ldN c) (σ 5)] 0) [] (σ 6)
noncomputable def gTk (co : Code) (es : List En) : TkQ := ⟨⟨itCc co, accC co, locC co, frmC co⟩, lexOf (eO es 11), tokV (itemV (eO es 12) 0), getV (eO es 13), epO (eO es 13), epO (eO es 3)⟩
noncomputable abbrev sTk (K : KT) (hf : Str → Int) (m : Mc) (c : Nat) (sn : List Value → Tok → List Value) : SumFn := sumE (cTk K hf m c sn) 14 gTk
noncomputable def snI (vs : List Value) (t : Tok) : List Value := vs ++ [.str ⟨#[]⟩ t]
section
variable {w : World}
theorem does_sorted {A : Around} {l : Nat} {vs : List Value} {ss : List Str} {ep : Nat} {h : Heap} {g : Array GenState} {dr : Drawn} {t : Nat} {os : OsState} (gl : h.get? l = some (lst vs ep)) (hS : StrsAre vs ss) (h64 : vs.length < 64) :
    Does w A (.builtin "sorted" ⟨[.ref l], []⟩) ⟨h, g, dr, t, os⟩ (fun r h' => ∃ vs' ss' e, r = .ok (.ret (.ref (h.objs.size + 1))) ∧ Ext [] h h' ∧ h'.get? (h.objs.size + 1) = some (lst vs' e) ∧ StrsAre vs' ss' ∧ ss'.Perm ss ∧ sortedS ss' = true) := by
  intro R H
  refine codeAny_builtin entry_sorted ?_
  generalize A.under (.builtin "sorted" ⟨[.ref l], []⟩) = A'
  have hl : Heap.IsList (Shared.heap ⟨h, g, dr, t, os⟩) l vs.toArray := ⟨_, gl, rfl, ep, rfl⟩
  unfold Builtin.«sorted»
  refine wpAny_bind (m := checkCount "sorted" 1 1 _) (wpAny_pure ?_)
  refine wpAny_bind (collect_list hl ?_)
  refine wpAny_bind (wpAny_newList ?_)
  have hsz : ((h.push (seqObj "list" #[] 0)).update h.objs.size (Obj.mapSeq (· ++ vs.toArray))).objs.size = h.objs.size + 1 := by
    rw [Heap.size_update, size_push']
  have hoL : (((h.push (seqObj "list" #[] 0)).update h.objs.size (Obj.mapSeq (· ++ vs.toArray))).push (seqObj "list" vs.toArray 0)).get? (h.objs.size + 1) = some (seqObj "list" vs.toArray 0) := by
    rw [← hsz]; exact Heap.get?_push_size _ rfl
  show wpAny _ _ _ _ _ (⟨((h.push (seqObj "list" #[] 0)).update h.objs.size (Obj.mapSeq (· ++ vs.toArray))).push (seqObj "list" vs.toArray 0), g, dr, t, os⟩ : Shared)
  rw [hsz]
  refine wpAny_bind (wpAny_holding (wpAny_call_entry slot_list_sort ⟨_, hoL, rfl⟩ entry_list_sort (list_sort_treeK strKind_oneLt hoL hS.keysOf (fun v₁ v₂ rest e => keyKind_strs (by rw [← e]; exact hS)) h64 fun st' a1 a2 => ⟨_, rfl, ?_⟩) (args_list_sort _)))
  obtain ⟨ss', k1, k2, k3⟩ := sorted_out_str hS a1 a2
  obtain ⟨e, he⟩ := sortedAll_at h vs ((arrOf st').map (·.2))
  refine wpAny_pure (H _ _ _ ⟨_, ss', e, rfl, ⟨fun b o z _ => sortedAll_old z, ?_⟩, ?_, k1, k2, k3⟩)
  · exact Nat.le_trans (Nat.le_succ _) (Nat.le_of_lt (Heap.lt_size he))
  · exact he
noncomputable def leS (a b : Str) : Prop := a.cps.toList ≤ b.cps.toList
theorem rising_pw : ∀ (l : List Str) (p : Str), risingS p l = true → List.Pairwise leS (p :: l)
  | [], p, _ => List.pairwise_cons.mpr ⟨fun a ha => (nomatch ha), .nil⟩
  | x :: r, p, h => by
    unfold risingS at h
    rw [Bool.and_eq_true, Bool.not_eq_true', ltCps_eq, decide_eq_false_iff_not] at h
    have h1 : leS p x := List.not_lt.mp h.1
    have h2 := rising_pw r x h.2
    refine List.pairwise_cons.mpr ⟨fun a ha => ?_, h2⟩
    rcases List.mem_cons.mp ha with rfl | ha
    · exact h1
    · exact List.le_trans h1 ((List.pairwise_cons.mp h2).1 a ha)
theorem sorted_pw {l : List Str} (h : sortedS l = true) : List.Pairwise leS l := by
  cases l with
  | nil => exact .nil
  | cons x r => exact rising_pw r x h
theorem sorted_one {l l' : List Str} (h : sortedS l = true) (h' : sortedS l' = true) (p : l.Perm l') : l = l' :=
  List.Perm.eq_of_pairwise (le := leS) (fun a b _ _ h1 h2 => by
    obtain ⟨⟨a⟩⟩ := a
    obtain ⟨⟨b⟩⟩ := b
    have : a = b := List.le_antisymm h1 h2
    rw [this]) (sorted_pw h) (sorted_pw h') p
theorem names_sorted {c : Nat} (hc : CntOk c) : sortedS ((List.range c).map nmS) = true := by
  rcases hc with rfl | rfl | rfl | rfl | rfl | rfl <;> decide +kernel
theorem soI_eq {vs : List Value} {ss : List Str} (h : StrsAre vs ss) (a b : Nat) : vs = soI ss (sg (a :: b :: vs.map tokV)) := by
  have hl := strsAre_len h
  rw [soI, upN_eq]
  refine List.ext_getElem (by simp [hl]) fun i h1 h2 => ?_
  obtain ⟨y, t, q1, q2⟩ := strsAre_get h i vs[i] (by simp [h1])
  have z : sg (a :: b :: vs.map tokV) (2 + i) = t := by
    unfold sg
    rw [List.getD_eq_getElem?_getD, Nat.add_comm 2 i]
    show ((vs.map tokV)[i]?).getD 0 = t
    rw [List.getElem?_map, List.getElem?_eq_getElem h1, q1]
    rfl
  simp only [List.getElem_map, List.getElem_range, Nat.zero_add]
  rw [z, List.getD_eq_getElem?_getD, q2, q1]
  rfl
theorem soI_strs (ss : List Str) (σ : Nat → Nat) : StrsAre (soI ss σ) ss := by
  have h := strsAre_maps (fun i => ss.getD i ⟨#[]⟩) (fun i => σ (2 + i)) (List.range ss.length)
  have e : (List.range ss.length).map (fun i => ss.getD i ⟨#[]⟩) = ss := by
    refine List.ext_getElem (by simp) fun i h1 h2 => ?_
    simp [List.getElem?_eq_getElem h2]
  rw [e] at h
  rw [soI, upN_eq]
  simp only [Nat.zero_add]
  exact h
theorem cSort_ok {so : List Str} : (cSort so (soI so)).Holds w where
  ad p σ := ⟨[σ 0], rfl⟩
  does p hc := by
    obtain ⟨ss, s1, s2, s3, s4, s5⟩ : SortIs p.nv so := hc.1
    refine Ends.of (res := fun σ => .ok (.ret (.ref (σ 0)))) fun A h g d t os hA S => (does_sorted S.at_.1 s1 (by omega)).mono fun r h' P => ?_
    obtain ⟨vs', ss', e, rfl, p2, p3, p4, p5, p6⟩ := P
    have hso : ss' = so := sorted_one p6 s4 (p5.trans s5)
    subst hso
    have hvl := strsAre_len p4
    refine ⟨(h.objs.size + 1) :: e :: vs'.map tokV, by simp; omega, rfl, p2.mono fun a ha => (nomatch ha), ⟨p2.1 _ _ S.at_.1 (fun z => (nomatch z)), ?_, trivial⟩, [h.objs.size + 1], rfl, by simp, fun a ha => by rw [List.mem_singleton.mp ha]; omega⟩
    show h'.get? (h.objs.size + 1) = some (lst (soI ss' (sg ((h.objs.size + 1) :: e :: vs'.map tokV))) e)
    rw [← soI_eq p4]
    exact p3
theorem cLast_ok {m : Mc} {c : Nat} : (cLast (ktop w.params) m c).Holds w where
  ad p σ := ⟨[], (List.append_nil _).symm⟩
  does p h := by
    obtain ⟨hc, hs⟩ : LastOk m.sheet c := h.1
    obtain ⟨x, tp, ep⟩ := p
    have G : ∀ k, k = 3 ∨ k = 5 ∨ k = 8 ∨ k = 11 ∨ k = 15 → m.sheet = ⟨(preT k).toArray⟩ → ldN (k + 1) = 0 → Ends w 12 (.call (.ref 84) ⟨[.ref m.lx], []⟩) ((cLast (ktop w.params) m (k + 1)).E ⟨x, tp, ep⟩) (QS ((cLast (ktop w.params) m (k + 1)).res ⟨x, tp, ep⟩) ((cLast (ktop w.params) m (k + 1)).E' ⟨x, tp, ep⟩)) := fun k hk hm hz =>
      ((cEndT_ok (w := w) (m := m)).does ⟨x, posT (k + 1), tp, ep⟩ ⟨by rw [hm]; exact .deck k hk, trivial⟩).mono fun r G q => by
        obtain ⟨σ, hz', rfl, rfl⟩ := q
        refine ⟨sg [σ 0, x.lt, σ 1], sg_z (by simp), rfl, ?_⟩
        show _ = m.O (ktop w.params) { x with line := x.line + ldN (k + 1), lt := x.lt } (lst [.int (posT (k + 1) + ldN (k + 1)) (σ 1)] 0) (lst [] ep)
        rw [hz, Int.add_zero, Int.add_zero]
        rfl
    rcases hc with rfl | rfl | rfl | rfl | rfl | rfl
    · exact G 3 (by decide) hs rfl
    · exact G 5 (by decide) hs rfl
    · exact (end8 hs x tp ep).mono fun r G q => q
    · exact G 8 (by decide) hs rfl
    · exact G 11 (by decide) hs rfl
    · exact G 15 (by decide) hs rfl
variable {m : Mc} {p : TkP} {c : Nat} {x : LexD} {tp : Tok}
theorem tk_loop (hm : LastOk m.sheet c) : ∀ (vs : List Value) (k : Nat) (lo : Obj) (ys : List Value) (ey ep : Nat), k + vs.length = c → LoK "k" (PySem.W.ZFast.hKY w.params) (fun k t => .int (k : Int) t) k lo → (∃ ss, StrsAre vs ss) → ys.length ≤ k →
    Ends w 16 (p.C (ktop w.params)) (tkSt (ktop w.params) m p lo (riO (k : Int) ((vs.length + 1 : Nat) : Int)) ys ey x (lst [.int (posT c) tp] 0) vs ep) (fun r G => r = .ok .next ∧ ∃ t1 t2 t3 e t4 t5 e2, G = tkSt (ktop w.params) m p (loc1 "k" (PySem.W.ZFast.hKY w.params "k") t1 (.int (c : Int) t2)) (riO ((c : Int) + 1) 0) (snI (ys ++ vs) t3) e { x with line := x.line + ldN c, lt := t4 } (lst [.int (posT c + ldN c) t5] 0) [] e2)
  | [], k, lo, ys, ey, ep, hk, hl, hs, hy => by
    have hk : k = c := hk
    subst hk
    have hc := hm.hc.le
    rw [List.append_nil]
    cases hl with
    | z => omega
    | s k t1 t2 =>
      refine Ends.turn (fun n t σ => tkE1.eq_1 w.params (bOf w) (ktop w.params) theProg m p _ t1 _ ys ey x tp ep (k + 1) 0 (k + 1) apI n t σ) rfl ⟨cLast_ok.ok _ _, cApp_ok.ok _ _, trivial⟩ (fun n t σ => tkE1_r w.params (bOf w) m p _ t1 _ ys ey x tp ep (k + 1) 0 (k + 1) apI n t σ) (by decide) (fun _ _ _ _ => ⟨by omega, hm, trivial⟩) fun n t σ _ => ?_
      exact Ends.fin (fun n' t' σ' => tkZ.eq_1 w.params (bOf w) (ktop w.params) theProg m p _ _ _ _ _ _ _ (k + 2) n' t' σ') rfl trivial (fun n' t' σ' => tkZ_r w.params (bOf w) m p _ _ _ _ _ _ _ (k + 2) n' t' σ') (by decide) (fun _ _ _ _ => trivial) fun n' t' σ' _ => ⟨rfl, _, _, _, _, _, _, _, rfl⟩
  | v :: vs, k, lo, ys, ey, ep, hk, hl, hs, hy => by
    obtain ⟨ss, hs⟩ := hs
    have hc := hm.hc.le
    have hk2 : k + (vs.length + 1) = c := hk
    cases hs with
    | cons y ty hs' =>
      rename_i ss'
      have e1 : ((vs.length + 1 + 1 : Nat) : Int) - 1 = ((vs.length + 1 : Nat) : Int) := by omega
      have ih := fun lo' ey' ep' hl' => (tk_loop hm vs (k + 1) lo' (ys ++ [.str y ty]) ey' ep' (by omega) hl' ⟨_, hs'⟩ (by simp; omega)).mono fun r G q => (by simpa using q : r = .ok .next ∧ ∃ t1 t2 t3 e t4 t5 e2, G = tkSt (ktop w.params) m p (loc1 "k" (PySem.W.ZFast.hKY w.params "k") t1 (.int (c : Int) t2)) (riO ((c : Int) + 1) 0) (snI (ys ++ .str y ty :: vs) t3) e { x with line := x.line + ldN c, lt := t4 } (lst [.int (posT c + ldN c) t5] 0) [] e2)
      cases hl with
      | z => exact Ends.turn (fun n t σ => tkT.eq_1 w.params (bOf w) (ktop w.params) theProg m p _ ys ey x _ y ty vs ep 0 (vs.length + 1) apI _ n t σ) rfl ⟨cPopT_ok.ok _ _, cApp_ok.ok _ _, trivial⟩ (fun n t σ => tkTa_r w.params (bOf w) m p ys ey x _ y ty vs ep 0 (vs.length + 1) apI n t σ) (by decide) (fun _ _ _ _ => ⟨by omega, by omega, trivial⟩) fun n t σ _ => by rw [e1]; exact ih _ _ _ (.s 0 _ _)
      | s k t1 t2 => exact Ends.turn (fun n t σ => tkT.eq_1 w.params (bOf w) (ktop w.params) theProg m p _ ys ey x _ y ty vs ep (k + 1) (vs.length + 1) apI _ n t σ) rfl ⟨cPopT_ok.ok _ _, cApp_ok.ok _ _, trivial⟩ (fun n t σ => tkTb_r w.params (bOf w) m p _ t1 _ ys ey x _ y ty vs ep (k + 1) (vs.length + 1) apI n t σ) (by decide) (fun _ _ _ _ => ⟨by omega, by omega, trivial⟩) fun n t σ _ => by rw [e1]; exact ih _ _ _ (.s (k + 1) _ _)
theorem cTk_ok : (cTk (ktop w.params) (PySem.W.ZFast.hKY w.params) m c snI).Holds w where
  ad p σ := ⟨[], (List.append_nil _).symm⟩
  does q h := by
    obtain ⟨p, x, tp, vs, ep, ey⟩ := q
    obtain ⟨hm, ⟨rfl, hs⟩, -⟩ := h
    refine (tk_loop hm vs 0 loc0 [] ey ep (Nat.zero_add _) .z hs (Nat.le_refl _)).mono fun r G z => ?_
    obtain ⟨rfl, t1, t2, t3, e, t4, t5, e2, rfl⟩ := z
    exact ⟨sg [t1, t2, t3, e, t4, t5, e2], sg_z (by simp), rfl, rfl⟩
end
end Mine
end
section
open PySem PySem.W PySem.W.X PyProof.Rows
namespace Mine
structure TrP where
  (nm ah en ea : Nat) (nv av : List Value) (pl : Int) (tp : Tok) (W : Nat) (tw : Tok) (ct : Int)
noncomputable def trE (p : TrP) : Sto := [(30, tableOf []), (37, tableOf []), (107, tableOf []), (136, tableOf []), (p.nm, lst p.nv p.en), (p.ah, lst p.av p.ea)]
noncomputable def trDev : TrP := ⟨1501, 1502, 3, 4, [.str "a" 31, .str "b " 32, .str "c\"" 33, .str "d" 34], [.int 0 41, .int 1 42], 0, 43, 2, 44, 4⟩
noncomputable def trDev3 : TrP := ⟨1501, 1502, 3, 4, [.str "a" 31, .str "b " 32, .str "c\"" 33, .str "d" 34], [.int 0 41, .int 1 42], 0, 43, 3, 44, 4⟩
noncomputable def trDev4 : TrP := ⟨1501, 1502, 3, 4, [.str "a" 31, .str "b " 32, .str "c\"" 33, .str "d" 34], [.int 0 41, .int 1 42], 0, 43, 4, 44, 4⟩
noncomputable def trM (hf : Str → Int) (tx : Str) (σ : Nat → Nat) : Mc := mcA hf (tlS 2 σ 0) (tlS 2 σ 1) tx (tlS 1 σ 0)
noncomputable def trPk (σ : Nat → Nat) : Nat → Nat
  | 0 => cutS (shN 2 σ) 1 + 4
  | j + 1 => cutS (shN (3 + j) σ) 1 + 2
noncomputable def trPc (hf : Str → Int) (tx : Str) (kk : Nat → Nat) (σ : Nat → Nat) (j : Nat) : Mc := mcB hf (tlS (3 + j) σ 0) (tlS (3 + j) σ 1) (trM hf tx σ).rc (trM hf tx σ).lc kk ⟨#[]⟩ (trPk σ j)
noncomputable def trPx (hf : Str → Int) (σ : Nat → Nat) (j : Nat) : LexD := lxN hf (tlS (3 + j) σ 1 + 7)
noncomputable def trHs (hf : Str → Int) : Nat → Int
  | 0 => hf "width"
  | 1 => hf "ahead"
  | 2 => hf "count"
  | 3 => hf "piles"
  | 4 => hf "heads"
  | _ => hf "tells"
noncomputable def trT (p : TrP) (xs : Str) (xt : Tok) (n : Nat) (σ : Nat → Nat) : TuP := ⟨p.nm, n, p.ah, cutS (shN (2 + p.W) σ) 0 + 6, cutS (shN 2 σ) 0 + 2, p.W, p.en, p.ea, p.nv, p.av, p.pl, 0, 0, 1, 0, 0, p.tp, p.tw, tlS 0 σ 0, 0, 0, 0, 0, xs, xt, fun _ => 0, fun _ => 0, ⟨lxN (fun _ => 0) 0, lst [] 0, lst [] 0⟩, fun _ => 0, fun _ => 0⟩
noncomputable def trV (p : TrP) (hf : Str → Int) (n t : Nat) (σ : Nat → Nat) : TwP := ⟨0, 0, 1, 0, cutS (shN (2 + p.W) σ) 1 + 1, cutS (shN (2 + p.W) σ) 1 + 2, cutS (shN (2 + p.W) σ) 1 + 3, trHs hf, kL [t, t + 1, cutS (shN 0 σ) 1 + 0, cutS (shN (2 + p.W) σ) 1 + 0, cutS (shN (2 + p.W) σ) 1 + 4, cutS (shN (2 + p.W) σ) 1 + 5], ⟨lxN hf (tlS 2 σ 1 + 21), lst [.int 0 (tlS 2 σ 1)] 0, lst [] 0⟩, fun _ => 0, fun j => tlS (3 + j) σ 1⟩
noncomputable def tuBeg (K : KT) (W : Nat) (m : Mc) (mc : Nat → Mc) (px : Nat → LexD) (p : TuP) (v : TwP) (ct : Int) : Sto :=
  tuE K W m mc px (p.w v 0 0) (frA v.hs v.ks (.int (W : Int) p.tw) (.ref p.ah) (.int ct p.tct) (.ref p.pls) (.int v.he v.th) (.int v.te v.tt)) (cellOf (.ref p.nm)) (cellOf (.int v.pw v.tpw)) cell0 cell0 (liO p.ah v.i) v.d v.eps v.tps [(30, tableOf []), (37, tableOf []), (136, tableOf [])]
noncomputable def frBc (hs : Nat → Int) (ks : Nat → Tok) (u : TvP) (W : Nat) (tw : Tok) (ah : Nat) (c : Nat) (tct : Tok) (pls : Nat) (v4 v5 : Value) (ra : Nat) (nw : Int) (tn : Tok) (hg : Int) (tg : Tok) : Obj :=
  frB hs ks (.int (W : Int) tw) (.ref ah) (.int (c : Int) tct) (.ref pls) v4 v5 u.v6 u.v7 u.v8 (.ref ra) u.v10 u.v11 (.int nw tn) (.int hg tg)
structure TbP where
  (v : TwP) (u : TvP) (m : Mc) (mc : Nat → Mc) (px : Nat → LexD) (c : Nat) (x : LexD) (b : Tok) (e ra er : Nat) (rv : List Value) (nw : Int) (tn : Tok) (hg : Int) (tg : Tok) (lo : Int) (tl : Tok) (rc lc : Nat)
noncomputable def tbE (K : KT) (W : Nat) (p : TuP) (z : TbP) : Sto :=
  tuE K W z.m z.mc z.px p (frBc z.v.hs z.v.ks z.u W p.tw p.ah z.c p.tct p.pls (.int z.v.he z.v.th) (.int z.v.te z.v.tt) z.ra z.nw z.tn z.hg z.tg) (cellOf (.ref z.u.hd)) (cellOf (.int z.v.pw z.v.tpw)) (cellOf z.u.w6) (cellOf (.int z.lo z.tl)) (liEnd z.v.i) ⟨z.x, lst [.int (posT z.c) z.b] 0, lst z.rv z.e⟩ z.v.eps z.v.tps
    [(30, t30 z.u.cd.c30), (37, t37 z.u.cd.c37), (136, t136 z.u.cd.c136), (z.u.cd.c30, code30 z.u.cd.k30), (z.u.cd.c37, code37 z.u.cd.k37), (z.u.cd.c136, code136 z.u.cd.k136), (z.u.hd, lst z.u.hv z.u.eh), (z.ra, lst z.rv z.er), (107, table107 z.rc z.lc)]
noncomputable def trTab (z : TbP) : Sto := [(30, t30 z.u.cd.c30), (37, t37 z.u.cd.c37), (107, table107 z.rc z.lc), (136, t136 z.u.cd.c136)]
noncomputable def trCs (nv : List Value) (pl : Int) (tp : Tok) (xs : Str) (xt : Tok) (z : TbP) (so : List Str) (sl : (Nat → Nat) → List Value) (sn : List Value → Tok → List Value) (cat : List Value → List Value → List Value) (σ : Nat → Nat) : List Prop :=
  [(z.x.line + ldN z.c = (z.c : Int) + 1) = (true = true), SameT (sn z.rv (tlS 7 σ 2)) (cat z.rv [.str ⟨#[]⟩ (cutS (shN 7 σ) 1 + 0)]), CatIs z.rv [.str ⟨#[]⟩ (cutS (shN 7 σ) 1 + 0)] (cat z.rv [.str ⟨#[]⟩ (cutS (shN 7 σ) 1 + 0)]), LastOk z.m.sheet z.c, TkOk z.rv z.c, RangeOk ((z.c : Int) + 1), SameT (sl (tlS 3 σ)) (sl (tlS 4 σ)), SortIs nv so, SortIs z.rv so, PairEq z.hg z.lo (-z.nw) pl, SameT z.u.hv [.str xs xt], ItemV nv (.int pl tp) (.str xs xt)]
noncomputable def twDev : TwP := ⟨3, 4, 5, 2, 801, 802, 803, fun _ => 1, fun i => 810 + i, ⟨lxDev, lst [] 0, lst [] 0⟩, fun _ => 0, fun _ => 0⟩
noncomputable def tbDev : TbP := ⟨twDev, tvDev, mcDev, fun j => ⟨2000 + 100 * j, 2001 + 100 * j, 2002 + 100 * j, 2003 + 100 * j, 2004 + 100 * j, 2005 + 100 * j, 2006 + 100 * j, 2007 + 100 * j, 2008 + 100 * j, 2009 + 100 * j, 2010 + 100 * j, 2011 + 100 * j, fun i => 2000 + i, 0, 2100, "", 2101⟩, fun _ => lxDev, 4, { lxDev with line := 5 }, 821, 822, 823, 824, [.str "a" 31, .str "b " 32, .str "c\"" 33, .str "d" 34], 0, 825, 0, 826, 0, 827, 828, 829⟩
@[irreducible] noncomputable def trA (P : Params) (b : Bool) (K : KT) (pg : Program) (p : TrP) (tx : Str) (hf : Str → Int) (kk : Nat → Nat) (orc : List Nat) (n t : Nat) (σ : Nat → Nat) : Ou :=
  goC (mkW P b K pg [sLen p.ct, sWr tx, sMachA K hf, sMachB K hf kk]) 4000 25 (.call (.ref 146) ⟨[.ref p.nm, .int p.pl p.tp, .int (p.W : Int) p.tw, .ref p.ah], []⟩)
  (trE p) n t σ
  orc
theorem trA_id : @trA = @trA := rfl
lay_z Mine.trA
end Mine
name_z trAY for Mine.trA by Mine.trA_id
namespace Mine
theorem trA2_r (P : Params) (b : Bool) (nm ah en ea : Nat) (nv av : List Value) (pl : Int) (tp tw : Tok) (ct : Int) (tx : Str) (kk : Nat → Nat) (xs : Str) (xt : Tok) (n t : Nat) (σ : Nat → Nat) : Go2 (turnC (ktop P) (trT ⟨nm, ah, en, ea, nv, av, pl, tp, 2, tw, ct⟩ xs xt n σ).it n) 24 [6, 7, 8, 9, 10, 11, 12, 13, 52, 4, 5, 26, 14, 15, 16, 17, 18, 19, 23, 20, 21, 22, 28, 29, 30, 31, 32, 33, 34, 35, 36, 37, 38, 39, 40, 41, 42, 43, 44, 45, 0, 1, 3, 2] (tuBeg (ktop P) 2 (trM (PySem.W.ZFast.hKY P) tx σ) (trPc (PySem.W.ZFast.hKY P) tx kk σ) (trPx (PySem.W.ZFast.hKY P) σ) (trT ⟨nm, ah, en, ea, nv, av, pl, tp, 2, tw, ct⟩ xs xt n σ) (trV ⟨nm, ah, en, ea, nv, av, pl, tp, 2, tw, ct⟩ (PySem.W.ZFast.hKY P) n t σ) ct ++ [(107, table107 (trM (PySem.W.ZFast.hKY P) tx σ).rc (trM (PySem.W.ZFast.hKY P) tx σ).lc)]) [WrOk nv tx, LenIs nv ct] (trA P b (ktop P) theProg ⟨nm, ah, en, ea, nv, av, pl, tp, 2, tw, ct⟩ tx (PySem.W.ZFast.hKY P) kk [0,0,8,8,9,9,7,7,7,7,0,0,0,0,8,0,2,4,7,7,0,0,8,0,3,4,0,4,2,10,10,0,0,7,0,0,0,0,25,25,0,25,0,25,25,25,0,25,0,25,25,25,26,0,26,0,26,0,26,0,26,26,26,26,26,26,26,28,28,0,0,5,2,0,27,0,27,27,27,0,26,0,26,0,26,26,26,26,26,26,26,28,28,0,0,5,2,0,27,0,27,27,27,0,26,0,26,0,26,26,26,48,7,7,28,28,28,8,11,11,49,49,49,0,49,0,50,50,0,50,0,50,50,49,50,50,50,0,50,0,50,50,49,50,50,50,0,50,0,50,50,49,50,50,50,0,50,0,50,50,49,50,50,52,7,7,7,7,12,12,7,6,6,0,6,0,53,1] n t σ) := by
  rw [PySem.W.ZFast.trAY_eq]
  cases b <;> refine ⟨⟨?_, ?_, ?_, ?_, ?_, ?_⟩, ?_, ?_, ?_, ?_⟩ <;> kernel_rfl
theorem trA3_r (P : Params) (b : Bool) (nm ah en ea : Nat) (nv av : List Value) (pl : Int) (tp tw : Tok) (ct : Int) (tx : Str) (kk : Nat → Nat) (xs : Str) (xt : Tok) (n t : Nat) (σ : Nat → Nat) : Go2 (turnC (ktop P) (trT ⟨nm, ah, en, ea, nv, av, pl, tp, 3, tw, ct⟩ xs xt n σ).it n) 24 [6, 7, 8, 9, 10, 11, 12, 13, 61, 4, 5, 26, 14, 15, 16, 17, 18, 19, 23, 20, 21, 22, 28, 29, 30, 31, 32, 33, 34, 35, 36, 37, 38, 39, 40, 41, 42, 43, 44, 45, 46, 47, 48, 49, 50, 51, 52, 53, 54, 0, 1, 3, 2] (tuBeg (ktop P) 3 (trM (PySem.W.ZFast.hKY P) tx σ) (trPc (PySem.W.ZFast.hKY P) tx kk σ) (trPx (PySem.W.ZFast.hKY P) σ) (trT ⟨nm, ah, en, ea, nv, av, pl, tp, 3, tw, ct⟩ xs xt n σ) (trV ⟨nm, ah, en, ea, nv, av, pl, tp, 3, tw, ct⟩ (PySem.W.ZFast.hKY P) n t σ) ct ++ [(107, table107 (trM (PySem.W.ZFast.hKY P) tx σ).rc (trM (PySem.W.ZFast.hKY P) tx σ).lc)]) [WrOk nv tx, LenIs nv ct] (trA P b (ktop P) theProg ⟨nm, ah, en, ea, nv, av, pl, tp, 3, tw, ct⟩ tx (PySem.W.ZFast.hKY P) kk [0,0,8,8,9,9,7,7,7,7,0,0,0,0,8,0,2,4,7,7,0,0,8,0,3,4,0,4,2,10,10,0,0,7,0,0,0,0,25,25,0,25,0,25,25,25,0,25,0,25,25,25,26,0,26,0,26,0,26,0,26,26,26,26,26,26,26,28,28,0,0,5,2,0,27,0,27,27,27,0,26,0,26,0,26,26,26,26,26,26,26,28,28,0,0,5,2,0,27,0,27,27,27,0,26,0,26,0,26,26,26,26,26,26,26,28,28,0,0,5,2,0,27,0,27,27,27,0,26,0,26,0,26,26,26,57,7,7,28,28,28,8,11,11,58,58,58,0,58,0,59,59,0,59,0,59,59,58,59,59,59,0,59,0,59,59,58,59,59,59,0,59,0,59,59,58,59,59,59,0,59,0,59,59,58,59,59,61,7,7,7,7,12,12,7,6,6,0,6,0,62,1] n t σ) := by
  rw [PySem.W.ZFast.trAY_eq]
  cases b <;> refine ⟨⟨?_, ?_, ?_, ?_, ?_, ?_⟩, ?_, ?_, ?_, ?_⟩ <;> kernel_rfl
theorem trA4_r (P : Params) (b : Bool) (nm ah en ea : Nat) (nv av : List Value) (pl : Int) (tp tw : Tok) (ct : Int) (tx : Str) (kk : Nat → Nat) (xs : Str) (xt : Tok) (n t : Nat) (σ : Nat → Nat) : Go2 (turnC (ktop P) (trT ⟨nm, ah, en, ea, nv, av, pl, tp, 4, tw, ct⟩ xs xt n σ).it n) 24 [6, 7, 8, 9, 10, 11, 12, 13, 70, 4, 5, 26, 14, 15, 16, 17, 18, 19, 23, 20, 21, 22, 28, 29, 30, 31, 32, 33, 34, 35, 36, 37, 38, 39, 40, 41, 42, 43, 44, 45, 46, 47, 48, 49, 50, 51, 52, 53, 54, 55, 56, 57, 58, 59, 60, 61, 62, 63, 0, 1, 3, 2] (tuBeg (ktop P) 4 (trM (PySem.W.ZFast.hKY P) tx σ) (trPc (PySem.W.ZFast.hKY P) tx kk σ) (trPx (PySem.W.ZFast.hKY P) σ) (trT ⟨nm, ah, en, ea, nv, av, pl, tp, 4, tw, ct⟩ xs xt n σ) (trV ⟨nm, ah, en, ea, nv, av, pl, tp, 4, tw, ct⟩ (PySem.W.ZFast.hKY P) n t σ) ct ++ [(107, table107 (trM (PySem.W.ZFast.hKY P) tx σ).rc (trM (PySem.W.ZFast.hKY P) tx σ).lc)]) [WrOk nv tx, LenIs nv ct] (trA P b (ktop P) theProg ⟨nm, ah, en, ea, nv, av, pl, tp, 4, tw, ct⟩ tx (PySem.W.ZFast.hKY P) kk [0,0,8,8,9,9,7,7,7,7,0,0,0,0,8,0,2,4,7,7,0,0,8,0,3,4,0,4,2,10,10,0,0,7,0,0,0,0,25,25,0,25,0,25,25,25,0,25,0,25,25,25,26,0,26,0,26,0,26,0,26,26,26,26,26,26,26,28,28,0,0,5,2,0,27,0,27,27,27,0,26,0,26,0,26,26,26,26,26,26,26,28,28,0,0,5,2,0,27,0,27,27,27,0,26,0,26,0,26,26,26,26,26,26,26,28,28,0,0,5,2,0,27,0,27,27,27,0,26,0,26,0,26,26,26,26,26,26,26,28,28,0,0,5,2,0,27,0,27,27,27,0,26,0,26,0,26,26,26,66,7,7,28,28,28,8,11,11,67,67,67,0,67,0,68,68,0,68,0,68,68,67,68,68,68,0,68,0,68,68,67,68,68,68,0,68,0,68,68,67,68,68,68,0,68,0,68,68,67,68,68,70,7,7,7,7,12,12,7,6,6,0,6,0,71,1] n t σ) := by
  rw [PySem.W.ZFast.trAY_eq]
  cases b <;> refine ⟨⟨?_, ?_, ?_, ?_, ?_, ?_⟩, ?_, ?_, ?_, ?_⟩ <;> kernel_rfl
@[irreducible] noncomputable def trB (P : Params) (b : Bool) (K : KT) (pg : Program) (p : TrP) (tx : Str) (hf : Str → Int) (kk : Nat → Nat) (orc0 : List Nat) (n0 t0 : Nat) (σ0 : Nat → Nat) (xs : Str) (xt : Tok) (z : TbP) (so : List Str) (sl : (Nat → Nat) → List Value) (sn : List Value → Tok → List Value) (cat : List Value → List Value → List Value) (hg : Str → Int) (orc : List Nat) (n t : Nat) (σ : Nat → Nat) : Ou :=
  goS (mkW P b K pg [sItem (.str xs xt), sListNe, sTupNe, sSort so sl, sRIter, sTk K hg z.m z.c sn, sCatF cat, sListEq, sV (opEqL true)]) 4000 24 (.ok .next) ((trA P b K pg p tx hf kk orc0 n0 t0 σ0).stk)
  (tbE K p.W (trT p xs xt n0 σ0) z) n t σ
  orc
theorem trB_id : @trB = @trB := rfl
lay_z Mine.trB
end Mine
name_z trBY for Mine.trB by Mine.trB_id
namespace Mine
theorem trB2_r (P : Params) (b : Bool) (nm ah en ea : Nat) (nv av : List Value) (pl : Int) (tp tw : Tok) (ct : Int) (tx : Str) (kk : Nat → Nat) (n0 t0 : Nat) (σ0 : Nat → Nat) (xs : Str) (xt : Tok) (z : TbP) (so : List Str) (sl : (Nat → Nat) → List Value) (sn : List Value → Tok → List Value) (cat : List Value → List Value → List Value) (hg : Str → Int) (n t : Nat) (σ : Nat → Nat) : Go0 (.ok (.ret (.bool true))) [40, 41, 48, 42] (trTab z) (trCs nv pl tp xs xt z so sl sn cat σ) (trB P b (ktop P) theProg ⟨nm, ah, en, ea, nv, av, pl, tp, 2, tw, ct⟩ tx (PySem.W.ZFast.hKY P) kk [0,0,8,8,9,9,7,7,7,7,0,0,0,0,8,0,2,4,7,7,0,0,8,0,3,4,0,4,2,10,10,0,0,7,0,0,0,0,25,25,0,25,0,25,25,25,0,25,0,25,25,25,26,0,26,0,26,0,26,0,26,26,26,26,26,26,26,28,28,0,0,5,2,0,27,0,27,27,27,0,26,0,26,0,26,26,26,26,26,26,26,28,28,0,0,5,2,0,27,0,27,27,27,0,26,0,26,0,26,26,26,48,7,7,28,28,28,8,11,11,49,49,49,0,49,0,50,50,0,50,0,50,50,49,50,50,50,0,50,0,50,50,49,50,50,50,0,50,0,50,50,49,50,50,50,0,50,0,50,50,49,50,50,52,7,7,7,7,12,12,7,6,6,0,6,0,53,1] n0 t0 σ0 xs xt z so sl sn cat hg [5,2,3,10,10,10,0,10,2,9,47,50,47,0,47,3,46,49,1,8,1,0,0,3,51,52,51,0,51,4,50,51,0,0,1,0,5,47,0,0,2,0,5,9,53,54,53,0,53,3,52,53,0,0,1,0,0,0,0,0,0,55,55,0,55,0,55,55,55,0,55,6,54,56,0,56,7,3,57,55,56,12,13,14,15,16,17,18,19,20,21,58,58,58,1,48,59,48,0,48,8,47,58,57,60,57,0,57,9,56,59,4,13,0,0,0,0,13,0,0,0,13,13,0,20,1,0,0,0,10] n t σ) := by
  rw [PySem.W.ZFast.trBY_eq]
  cases b <;> refine ⟨⟨?_, ?_, ?_, ?_, ?_, ?_⟩, ?_, ?_, ?_⟩ <;> kernel_rfl
theorem trB3_r (P : Params) (b : Bool) (nm ah en ea : Nat) (nv av : List Value) (pl : Int) (tp tw : Tok) (ct : Int) (tx : Str) (kk : Nat → Nat) (n0 t0 : Nat) (σ0 : Nat → Nat) (xs : Str) (xt : Tok) (z : TbP) (so : List Str) (sl : (Nat → Nat) → List Value) (sn : List Value → Tok → List Value) (cat : List Value → List Value → List Value) (hg : Str → Int) (n t : Nat) (σ : Nat → Nat) : Go0 (.ok (.ret (.bool true))) [49, 50, 57, 51] (trTab z) (trCs nv pl tp xs xt z so sl sn cat σ) (trB P b (ktop P) theProg ⟨nm, ah, en, ea, nv, av, pl, tp, 3, tw, ct⟩ tx (PySem.W.ZFast.hKY P) kk [0,0,8,8,9,9,7,7,7,7,0,0,0,0,8,0,2,4,7,7,0,0,8,0,3,4,0,4,2,10,10,0,0,7,0,0,0,0,25,25,0,25,0,25,25,25,0,25,0,25,25,25,26,0,26,0,26,0,26,0,26,26,26,26,26,26,26,28,28,0,0,5,2,0,27,0,27,27,27,0,26,0,26,0,26,26,26,26,26,26,26,28,28,0,0,5,2,0,27,0,27,27,27,0,26,0,26,0,26,26,26,26,26,26,26,28,28,0,0,5,2,0,27,0,27,27,27,0,26,0,26,0,26,26,26,57,7,7,28,28,28,8,11,11,58,58,58,0,58,0,59,59,0,59,0,59,59,58,59,59,59,0,59,0,59,59,58,59,59,59,0,59,0,59,59,58,59,59,59,0,59,0,59,59,58,59,59,61,7,7,7,7,12,12,7,6,6,0,6,0,62,1] n0 t0 σ0 xs xt z so sl sn cat hg [5,2,3,10,10,10,0,10,2,9,56,59,56,0,56,3,55,58,1,8,1,0,0,3,60,61,60,0,60,4,59,60,0,0,1,0,5,56,0,0,2,0,5,9,62,63,62,0,62,3,61,62,0,0,1,0,0,0,0,0,0,64,64,0,64,0,64,64,64,0,64,6,63,65,0,65,7,3,66,64,65,12,13,14,15,16,17,18,19,20,21,67,67,67,1,57,68,57,0,57,8,56,67,66,69,66,0,66,9,65,68,4,13,0,0,0,0,13,0,0,0,13,13,0,20,1,0,0,0,10] n t σ) := by
  rw [PySem.W.ZFast.trBY_eq]
  cases b <;> refine ⟨⟨?_, ?_, ?_, ?_, ?_, ?_⟩, ?_, ?_, ?_⟩ <;> kernel_rfl
theorem trB4_r (P : Params) (b : Bool) (nm ah en ea : Nat) (nv av : List Value) (pl : Int) (tp tw : Tok) (ct : Int) (tx : Str) (kk : Nat → Nat) (n0 t0 : Nat) (σ0 : Nat → Nat) (xs : Str) (xt : Tok) (z : TbP) (so : List Str) (sl : (Nat → Nat) → List Value) (sn : List Value → Tok → List Value) (cat : List Value → List Value → List Value) (hg : Str → Int) (n t : Nat) (σ : Nat → Nat) : Go0 (.ok (.ret (.bool true))) [58, 59, 66, 60] (trTab z) (trCs nv pl tp xs xt z so sl sn cat σ) (trB P b (ktop P) theProg ⟨nm, ah, en, ea, nv, av, pl, tp, 4, tw, ct⟩ tx (PySem.W.ZFast.hKY P) kk [0,0,8,8,9,9,7,7,7,7,0,0,0,0,8,0,2,4,7,7,0,0,8,0,3,4,0,4,2,10,10,0,0,7,0,0,0,0,25,25,0,25,0,25,25,25,0,25,0,25,25,25,26,0,26,0,26,0,26,0,26,26,26,26,26,26,26,28,28,0,0,5,2,0,27,0,27,27,27,0,26,0,26,0,26,26,26,26,26,26,26,28,28,0,0,5,2,0,27,0,27,27,27,0,26,0,26,0,26,26,26,26,26,26,26,28,28,0,0,5,2,0,27,0,27,27,27,0,26,0,26,0,26,26,26,26,26,26,26,28,28,0,0,5,2,0,27,0,27,27,27,0,26,0,26,0,26,26,26,66,7,7,28,28,28,8,11,11,67,67,67,0,67,0,68,68,0,68,0,68,68,67,68,68,68,0,68,0,68,68,67,68,68,68,0,68,0,68,68,67,68,68,68,0,68,0,68,68,67,68,68,70,7,7,7,7,12,12,7,6,6,0,6,0,71,1] n0 t0 σ0 xs xt z so sl sn cat hg [5,2,3,10,10,10,0,10,2,9,65,68,65,0,65,3,64,67,1,8,1,0,0,3,69,70,69,0,69,4,68,69,0,0,1,0,5,65,0,0,2,0,5,9,71,72,71,0,71,3,70,71,0,0,1,0,0,0,0,0,0,73,73,0,73,0,73,73,73,0,73,6,72,74,0,74,7,3,75,73,74,12,13,14,15,16,17,18,19,20,21,76,76,76,1,66,77,66,0,66,8,65,76,75,78,75,0,75,9,74,77,4,13,0,0,0,0,13,0,0,0,13,13,0,20,1,0,0,0,10] n t σ) := by
  rw [PySem.W.ZFast.trBY_eq]
  cases b <;> refine ⟨⟨?_, ?_, ?_, ?_, ?_, ?_⟩, ?_, ?_, ?_⟩ <;> kernel_rfl
end Mine
end
section
open PySem PySem.W PySem.W.X PyProof.Rows
namespace Mine
theorem cnt_ok {W s : Nat} (hW : W = 2 ∨ W = 3 ∨ W = 4) (hs : s + 1 = 2 ∨ s + 1 = 3 ∨ s + 1 = 4) : CntOk (W * (s + 1)) := by
  unfold CntOk
  rcases hW with rfl | rfl | rfl <;> rcases hs with h | h | h <;> rw [h] <;> decide
theorem lines_end {c : Nat} (hc : CntOk c) : 1 + linesT c + ldN c = (c : Int) + 1 := by
  rcases hc with rfl | rfl | rfl | rfl | rfl | rfl <;> decide
theorem eqTrue {p : Prop} (h : p) : p = (true = true) := propext ⟨fun _ => rfl, fun _ => h⟩
theorem tr_cs {W s place : Nat} {nv : List Value} {st : StN} {tp : Tok} {xt : Tok} {z : TbP} {σ : Nat → Nat} (hc : CntOk (W * (s + 1))) (hn : StrsAre nv ((List.range (W * (s + 1))).map nmS)) (hi : ItemV nv (.int (place : Int) tp) (.str (nmS place) xt)) (I : InvN W (s + 1) place st) (hf : finN place st = true)
    (zc : z.c = W * (s + 1)) (zx : z.x.line = 1 + linesT (W * (s + 1))) (zr : StrsAre z.rv (st.p.map nmS)) (zh : StrsAre z.u.hv (st.hands.map nmS)) (zn : z.nw = st.now) (zg : z.hg = st.high) (zl : z.lo = st.low) (zm : z.m.sheet = ⟨(preT (W * (s + 1) - 1)).toArray⟩) :
    AllP (trCs nv (place : Int) tp (nmS place) xt z ((List.range (W * (s + 1))).map nmS) (soI ((List.range (W * (s + 1))).map nmS)) snI catI σ) := by
  have hc2 := hc.le
  unfold finN at hf
  simp only [Bool.and_eq_true, decide_eq_true_eq] at hf
  obtain ⟨⟨f1, f2⟩, f3⟩ := hf
  have f1 := eqL_eq f1
  have hpn : st.p.length = W * (s + 1) := I.length
  have hrl := strsAre_len zr
  rw [List.length_map, hpn] at hrl
  have hnl := strsAre_len hn
  rw [List.length_map, List.length_range] at hnl
  rw [f1] at zh
  have hpm := I.perm
  clear I
  generalize W * (s + 1) = c at *
  subst zc
  refine ⟨eqTrue (by rw [zx, ← lines_end hc]), ⟨_, strsAre_snoc zr, strsAre_snoc zr⟩, ⟨rfl, by simp; omega⟩, ⟨hc, zm⟩, ⟨hrl, _, zr⟩, ⟨by omega, by omega⟩, ⟨_, soI_strs _ _, soI_strs _ _⟩, ⟨_, hn, by simp; omega, by omega, names_sorted hc, .refl _⟩, ⟨_, zr, by simp; omega, by omega, names_sorted hc, hpm.map nmS⟩, ⟨by rw [zg, zn]; exact f2, by rw [zl]; exact f3⟩, ⟨_, zh, .cons _ _ .nil⟩, hi, trivial⟩
theorem tb_eq {K : KT} {W s : Nat} {m : Mc} {mc : Nat → Mc} {px : Nat → LexD} {p : TuP} {v : TwP} {u : TvP} {c : Nat} {x : LexD} {b : Tok} {e ra er : Nat} {rv : List Value} {nw hg lo : Int} {tn tg tl : Tok} {rc lc : Nat} (hd : v.d = ⟨x, lst [.int (posT c) b] 0, lst rv e⟩) (h9 : u.v9 = .ref ra) (h12 : u.v12 = .int nw tn) (h13 : u.v13 = .int hg tg) (h7 : u.w7 = .int lo tl) (hct : tuCt W s = (c : Int)) :
    tuZ K W s m mc px (p.w v 0 0) (liEnd v.i) u ra rv er ++ [(107, table107 rc lc)] = tbE K W p ⟨v, u, m, mc, px, c, x, b, e, ra, er, rv, nw, tn, hg, tg, lo, tl, rc, lc⟩ := by
  obtain ⟨he, te, pw, i, th, tt, tpw, hs, ks, d, eps, tps⟩ := v
  obtain ⟨hd', hv, eh, v6, v7, v8, v9, v10, v11, v12, v13, w6, w7, cd⟩ := u
  cases hd; cases h9; cases h12; cases h13; cases h7
  simp only [tuZ, tbE, tuE, frBc, TuP.w, hct, List.append_assoc, List.cons_append, List.nil_append]
theorem trick_ok {w : World} {W s place nm ah en ea : Nat} {nv av : List Value} {ds : List Nat} {tp tw : Tok} (hW : W = 2 ∨ W = 3 ∨ W = 4) (hs : s + 1 = 2 ∨ s + 1 = 3 ∨ s + 1 = 4) (hp : place < W * (s + 1)) (hn : StrsAre nv ((List.range (W * (s + 1))).map nmS)) (hd : DigIs W av 0 ds) (hne : ds ≠ []) (ok : loopAll W (s + 1) place ds.length (startN (W * (s + 1))) = true) :
    Ends w 25 (.call (.ref 146) ⟨[.ref nm, .int (place : Int) tp, .int (W : Int) tw, .ref ah], []⟩) [(30, tableOf []), (37, tableOf []), (107, tableOf []), (136, tableOf []), (nm, lst nv en), (ah, lst av ea)]
      (fun r G => r = .ok (.ret (.bool true)) ∧ ∃ z : TbP, G = trTab z) := by
  have hc := cnt_ok hW hs
  have hc2 := hc.le
  obtain ⟨xt, hi⟩ := names_item hn hp hc2.2
  have hnl := strsAre_len hn
  rw [List.length_map, List.length_range] at hnl
  have hiv : ItemV nv (.int (place : Int) tp) (.str (nmS place) xt) := ⟨_, _, rfl, hi⟩
  have G : ∀ {J J2 : List Nat} {orc orc2 : List Nat}, J.Nodup → J2.Nodup →
      (∀ n t σ, Go2 (turnC (ktop w.params) (trT ⟨nm, ah, en, ea, nv, av, (place : Int), tp, W, tw, tuCt W s⟩ (nmS place) xt n σ).it n) 24 J (tuBeg (ktop w.params) W (trM (PySem.W.ZFast.hKY w.params) ⟨(preT (W * (s + 1) - 1)).toArray⟩ σ) (trPc (PySem.W.ZFast.hKY w.params) ⟨(preT (W * (s + 1) - 1)).toArray⟩ (fun _ => 0) σ) (trPx (PySem.W.ZFast.hKY w.params) σ) (trT ⟨nm, ah, en, ea, nv, av, (place : Int), tp, W, tw, tuCt W s⟩ (nmS place) xt n σ) (trV ⟨nm, ah, en, ea, nv, av, (place : Int), tp, W, tw, tuCt W s⟩ (PySem.W.ZFast.hKY w.params) n t σ) (tuCt W s) ++ [(107, table107 (trM (PySem.W.ZFast.hKY w.params) ⟨(preT (W * (s + 1) - 1)).toArray⟩ σ).rc (trM (PySem.W.ZFast.hKY w.params) ⟨(preT (W * (s + 1) - 1)).toArray⟩ σ).lc)]) [WrOk nv ⟨(preT (W * (s + 1) - 1)).toArray⟩, LenIs nv (tuCt W s)] (trA w.params (bOf w) (ktop w.params) theProg ⟨nm, ah, en, ea, nv, av, (place : Int), tp, W, tw, tuCt W s⟩ ⟨(preT (W * (s + 1) - 1)).toArray⟩ (PySem.W.ZFast.hKY w.params) (fun _ => 0) orc n t σ)) →
      (∀ n0 t0 σ0 z n t σ, Go0 (.ok (.ret (.bool true))) J2 (trTab z) (trCs nv (place : Int) tp (nmS place) xt z ((List.range (W * (s + 1))).map nmS) (soI ((List.range (W * (s + 1))).map nmS)) snI catI σ) (trB w.params (bOf w) (ktop w.params) theProg ⟨nm, ah, en, ea, nv, av, (place : Int), tp, W, tw, tuCt W s⟩ ⟨(preT (W * (s + 1) - 1)).toArray⟩ (PySem.W.ZFast.hKY w.params) (fun _ => 0) orc n0 t0 σ0 (nmS place) xt z ((List.range (W * (s + 1))).map nmS) (soI ((List.range (W * (s + 1))).map nmS)) snI catI (PySem.W.ZFast.hKY w.params) orc2 n t σ)) →
      Ends w 25 (.call (.ref 146) ⟨[.ref nm, .int (place : Int) tp, .int (W : Int) tw, .ref ah], []⟩) (trE ⟨nm, ah, en, ea, nv, av, (place : Int), tp, W, tw, tuCt W s⟩) (fun r G => r = .ok (.ret (.bool true)) ∧ ∃ z : TbP, G = trTab z) := fun {J J2 orc orc2} hJ hJ2 FA FB => by
    refine Ends.cut (fun n t σ => trA.eq_1 w.params (bOf w) (ktop w.params) theProg ⟨nm, ah, en, ea, nv, av, (place : Int), tp, W, tw, tuCt W s⟩ ⟨(preT (W * (s + 1) - 1)).toArray⟩ (PySem.W.ZFast.hKY w.params) (fun _ => 0) orc n t σ) rfl ⟨cLen_ok.ok _ _, cWr_ok.ok _ _, cMachA_ok.ok _ _, cMachB_ok.ok _ _, trivial⟩ FA hJ (fun _ _ _ _ => ⟨⟨_, hc, hn, rfl⟩, ⟨by rw [hnl]; rfl, by omega⟩, trivial⟩) fun n t σ _ => ?_
    have T := (tu_all (w := w) (s := s) (place := place) (m := trM (PySem.W.ZFast.hKY w.params) ⟨(preT (W * (s + 1) - 1)).toArray⟩ σ) (mc := trPc (PySem.W.ZFast.hKY w.params) ⟨(preT (W * (s + 1) - 1)).toArray⟩ (fun _ => 0) σ) (px := trPx (PySem.W.ZFast.hKY w.params) σ) (p := trT ⟨nm, ah, en, ea, nv, av, (place : Int), tp, W, tw, tuCt W s⟩ (nmS place) xt n σ) (v := trV ⟨nm, ah, en, ea, nv, av, (place : Int), tp, W, tw, tuCt W s⟩ (PySem.W.ZFast.hKY w.params) n t σ) ⟨hW, hs, hp, fun _ => rfl, hn, rfl, rfl, hiv⟩ rfl rfl rfl rfl rfl ⟨_, rfl⟩ ⟨_, rfl⟩ hd hne ok).frame [(107, table107 (trM (PySem.W.ZFast.hKY w.params) ⟨(preT (W * (s + 1) - 1)).toArray⟩ σ).rc (trM (PySem.W.ZFast.hKY w.params) ⟨(preT (W * (s + 1) - 1)).toArray⟩ σ).lc)]
    refine T.mono fun r G q => ?_
    obtain ⟨E', rfl, rfl, st, v, u, ra, rv, er, I, hf, V, rfl⟩ := q
    obtain ⟨b, hb⟩ := V.da
    obtain ⟨e, he⟩ := V.dp
    obtain ⟨tn, h12⟩ := V.v12
    obtain ⟨tg, h13⟩ := V.v13
    obtain ⟨tl, h7⟩ := V.w7
    obtain ⟨lt, hx⟩ := V.dx
    have hdd : v.d = ⟨v.d.x, lst [.int (posT (W * (s + 1))) b] 0, lst rv e⟩ := by rw [← hb, ← he]
    rw [tb_eq hdd V.v9 h12 h13 h7 rfl]
    refine EndsS.fin (fun n' t' σ' => trB.eq_1 w.params (bOf w) (ktop w.params) theProg ⟨nm, ah, en, ea, nv, av, (place : Int), tp, W, tw, tuCt W s⟩ ⟨(preT (W * (s + 1) - 1)).toArray⟩ (PySem.W.ZFast.hKY w.params) (fun _ => 0) orc n t σ (nmS place) xt _ ((List.range (W * (s + 1))).map nmS) (soI ((List.range (W * (s + 1))).map nmS)) snI catI (PySem.W.ZFast.hKY w.params) orc2 n' t' σ')
      ⟨cItem_ok.ok _ _, cListNe_ok.ok _ _, cTupNe_ok.ok _ _, cSort_ok.ok _ _, cRIter_ok.ok _ _, cTk_ok.ok _ _, cCatF_ok.ok _ _, cListEq_ok.ok _ _, sV_ok opEqL_good, trivial⟩
      (fun n' t' σ' => FB n t σ _ n' t' σ') hJ2 (fun n' t' σ' _ => tr_cs hc hn hiv I hf rfl (by show v.d.x.line = _; rw [hx]; rfl) V.rv V.hv rfl rfl rfl rfl) fun _ _ _ _ => ⟨rfl, _, rfl⟩
  rcases hW with rfl | rfl | rfl
  · exact G (by decide) (by decide) (fun n t σ => trA2_r w.params (bOf w) nm ah en ea nv av (place : Int) tp tw _ _ _ _ xt n t σ) fun n0 t0 σ0 z n t σ => trB2_r w.params (bOf w) nm ah en ea nv av (place : Int) tp tw _ _ _ n0 t0 σ0 _ xt z _ _ snI catI _ n t σ
  · exact G (by decide) (by decide) (fun n t σ => trA3_r w.params (bOf w) nm ah en ea nv av (place : Int) tp tw _ _ _ _ xt n t σ) fun n0 t0 σ0 z n t σ => trB3_r w.params (bOf w) nm ah en ea nv av (place : Int) tp tw _ _ _ n0 t0 σ0 _ xt z _ _ snI catI _ n t σ
  · exact G (by decide) (by decide) (fun n t σ => trA4_r w.params (bOf w) nm ah en ea nv av (place : Int) tp tw _ _ _ _ xt n t σ) fun n0 t0 σ0 z n t σ => trB4_r w.params (bOf w) nm ah en ea nv av (place : Int) tp tw _ _ _ n0 t0 σ0 _ xt z _ _ snI catI _ n t σ
end Mine
end
section
open PySem PySem.W PySem.W.X PyProof.Rows
namespace Mine
noncomputable def num8 (z : Nat → Int) (τ : Nat → Tok) : List Value := [.int (z 0) (τ 0), .int (z 1) (τ 1), .int (z 2) (τ 2), .int (z 3) (τ 3), .int (z 4) (τ 4), .int (z 5) (τ 5), .int (z 6) (τ 6), .int (z 7) (τ 7)]
noncomputable def dfl8 (τ : Nat → Tok) : List Value := [.int 1 (τ 0), .int 2 (τ 1), .int 7 (τ 2), .int 1 (τ 3), .int 2 (τ 4), .int 5 (τ 5), .int 3 (τ 6), .int 0 (τ 7)]
noncomputable def tf8 (u v : List Value) (i : Nat) : Tok := tokV ((catI u v).getD i .none)
structure Cat8 (u v : List Value) (z : Nat → Int) : Prop where
  eq : u ++ v = num8 z (tf8 u v)
  le : u.length + v.length ≤ 100000
noncomputable def cCat8 (z : Nat → Int) (tf : List Value → List Value → Nat → Tok) : Con L2P where
  lv := 0
  co p := .builtin "list.__add__" ⟨[.ref p.a, .ref p.b], []⟩
  E p := p.E
  cs p := [Cat8 p.vs p.us z]
  res p σ := .ok (.ret (.ref (σ 0)))
  E' p σ := [(p.a, lst p.vs p.ep), (p.b, lst p.us p.eq), (σ 0, lst (num8 z (tf p.vs p.us)) 0)]
noncomputable abbrev sCat8 (z : Nat → Int) (tf : List Value → List Value → Nat → Tok) : SumFn := sumE (cCat8 z tf) 2 gL2
noncomputable def powB : Int → Int → Bool
  | .ofNat a, .ofNat b => Nat.ble 2 a && Nat.ble a 4 && Nat.ble 1 b && Nat.ble b 4
  | _, _ => false
noncomputable def opPow : VOp := iop2 "int.__pow__" (fun a b => [powB a b]) (fun a b => []) (fun a b k => .int (a ^ b.toNat) k)
noncomputable def lsE (K : KT) : Expr := match valS (nthS (stmtsOf (fdK K 151)) 3) with
  | .Call _ (a :: _) _ _ => a
  | e => e
noncomputable def lsC (K : KT) (it acc loc fr : Nat) : Code := .compLoop (lsE K) 0 (.ref it) (.ref acc)
  { scope := { scopeOfE (fdK K 151).scope (lsE K) with names := freeToCell (scopeOfE (fdK K 151).scope (lsE K)).names }, locals := loc, globals := 3, cells := [("width", fr + 1), ("count", fr + 2)], qual := "law.<locals>.", func := none, code := .ref 150, frame := some fr, builtins := 0 }
structure PwP where
  (it acc loc fr : Nat) (W : Int) (tw : Tok) (c : Int) (tc : Tok) (ey : Nat)
noncomputable def PwP.C (K : KT) (p : PwP) : Code := lsC K p.it p.acc p.loc p.fr
noncomputable def pwSt (p : PwP) (lo io : Obj) (ys : List Value) (ey : Nat) : Sto := [(p.fr + 1, cellOf (.int p.W p.tw)), (p.fr + 2, cellOf (.int p.c p.tc)), (p.loc, lo), (p.it, io), (p.acc, lst ys ey)]
noncomputable def pwDev : PwP := ⟨201, 202, 203, 204, 2, 301, 4, 302, 0⟩
noncomputable def pwV : List Int → (Nat → Tok) → Nat → List Value
  | [], _, _ => []
  | x :: r, τ, i => .int x (τ i) :: pwV r τ (i + 1)
structure PwOk (W c : Int) (L : List Int) : Prop where
  ok : (L = [2, 3, 4] ∧ ((W = 2 ∧ c = 4) ∨ (W = 3 ∧ c = 6) ∨ (W = 3 ∧ c = 9) ∨ (W = 4 ∧ c = 8) ∨ (W = 4 ∧ c = 12) ∨ (W = 4 ∧ c = 16))) ∨ (L = [3, 4] ∧ ((W = 2 ∧ c = 6) ∨ (W = 2 ∧ c = 8) ∨ (W = 3 ∧ c = 12)))
noncomputable def cPw (K : KT) (hf : Str → Int) (L : List Int) : Con PwP where
  lv := 12
  co p := p.C K
  E p := pwSt p loc0 (riO 1 4) [] p.ey
  cs p := [PwOk p.W p.c L]
  res p σ := .ok .next
  E' p σ := pwSt p (loc1 "k" (hf "k") (σ 0) (.int 4 (σ 1))) (riO 5 0) (pwV L (fun i => σ (2 + i)) 0) (σ 5)
noncomputable def gPw (co : Code) (es : List En) : PwP := ⟨itCc co, accC co, locC co, frmC co, intV (cellV (eO es 0)), tokV (cellV (eO es 0)), intV (cellV (eO es 1)), tokV (cellV (eO es 1)), epO (eO es 4)⟩
noncomputable abbrev sPw (K : KT) (hf : Str → Int) (L : List Int) : SumFn := sumE (cPw K hf L) 5 gPw
structure CntIs (x : Int) (c : Nat) : Prop where
  eq : x = (c : Int)
  ok : CntOk c
structure XtP where
  (x : Int) (tx : Tok)
noncomputable def cNc (c : Nat) (nl : (Nat → Nat) → List Value) : Con XtP where
  lv := 13
  co p := .call (.ref 117) ⟨[.int p.x p.tx], []⟩
  E p := []
  cs p := [CntIs p.x c]
  res p σ := .ok (.ret (.ref (σ 0)))
  E' p σ := [(σ 0, lst (nl σ) (σ 1))]
noncomputable def gNc (co : Code) (es : List En) : XtP := ⟨intV ((argsOf co).getD 0 .none), tokV ((argsOf co).getD 0 .none)⟩
noncomputable abbrev sNc (c : Nat) (nl : (Nat → Nat) → List Value) : SumFn := sumE (cNc c nl) 0 gNc
noncomputable def lwE (sc : Nat) (vs : List Value) (es : Nat) : Sto := [(sc, lst vs es), (30, tableOf []), (37, tableOf []), (107, tableOf []), (136, tableOf [])]
noncomputable def repP (p : Prop) : Nat → List Prop → List Prop
  | 0, l => l
  | m + 1, l => p :: repP p m l
noncomputable def lwCs (vs : List Value) (f8 dr : List Value → List Value) (k8 : Int) (z : Nat → Int) (w0 s0 e0 p0 : Int) (c : Nat) (L : List Int) (m : Nat) (σ : Nat → Nat) : List Prop :=
  (0 < (2 + w0) * (2 + s0) ∧ z 2 % ((2 + w0) * (2 + s0)) = p0) :: CntIs ((2 + w0) * (2 + s0)) c :: repP (0 < 2 + w0) m [(0 : Int) < 2 ∧ z 7 % 2 = e0, PwOk (2 + w0) ((2 + w0) * (2 + s0)) L, (2 + s0).natAbs < 1024, (0 : Int) < 3 ∧ z 1 % 3 = s0, (0 : Int) < 3 ∧ z 0 % 3 = w0, Cat8 (f8 vs) (dr (dfl8 fun i => cutS (shN 0 σ) 1 + i)) z, SlIs (dfl8 fun i => cutS (shN 0 σ) 1 + i) (some k8) none (dr (dfl8 fun i => cutS (shN 0 σ) 1 + i)), true = true, LenIs (f8 vs) k8, SlIs vs none (some 8) (f8 vs), true = true, SlIs vs none (some 8) (f8 vs), true = true]
noncomputable def lwAv (z : Nat → Int) (w0 : Int) (m : Nat) (σ : Nat → Nat) : List Value := upN (fun i => .int (z (3 + i) % (2 + w0)) (tlS (10 + i) σ 0)) m 0
noncomputable def lwC (w0 p0 : Int) (m : Nat) (σ : Nat → Nat) : Code := .call (.ref 146) ⟨[.ref (tlS (10 + m) σ 0), .int p0 (tlS (11 + m) σ 0), .int (2 + w0) (cutS (shN 5 σ) 1 + 0), .ref (cutS (shN 9 σ) 0 + 3)], []⟩
noncomputable def lwOut (sc : Nat) (vs : List Value) (es : Nat) (z : Nat → Int) (w0 : Int) (nl : (Nat → Nat) → List Value) (m : Nat) (σ : Nat → Nat) : Sto := [(30, tableOf []), (37, tableOf []), (107, tableOf []), (136, tableOf []), (tlS (10 + m) σ 0, lst (nl (tlS (10 + m) σ)) (tlS (10 + m) σ 1)), (cutS (shN 9 σ) 0 + 3, lst (lwAv z w0 m σ) m), (sc, lst vs es)]
noncomputable def lwTab (l0 l1 l2 l3 : List Value) (sc : Nat) (vs : List Value) (es : Nat) : Sto := [(30, tableOf l0), (37, tableOf l1), (107, tableOf l2), (136, tableOf l3), (sc, lst vs es)]
@[irreducible] noncomputable def pw (P : Params) (b : Bool) (K : KT) (pg : Program) (p : PwP) (orc : List Nat) (n t : Nat) (σ : Nat → Nat) : Ou :=
  goC (mkW P b K pg [sV opPow]) 4000 12 (p.C K)
  (pwSt p loc0 (riO 1 4) [] p.ey) n t σ
  orc
theorem pw_id : @pw = @pw := rfl
lay_z Mine.pw
end Mine
name_z pwY for Mine.pw by Mine.pw_id
namespace Mine
theorem pwA_r (P : Params) (b : Bool) (it acc loc fr : Nat) (W : Int) (tw : Tok) (c : Int) (tc : Tok) (ey : Nat) (n t : Nat) (σ : Nat → Nat) (h : (W = 2 ∧ c = 4) ∨ (W = 3 ∧ c = 6) ∨ (W = 3 ∧ c = 9) ∨ (W = 4 ∧ c = 8) ∨ (W = 4 ∧ c = 12) ∨ (W = 4 ∧ c = 16)) : Go0 (.ok .next) (List.range 5) (pwSt ⟨it, acc, loc, fr, W, tw, c, tc, ey⟩ (loc1 "k" (PySem.W.ZFast.hKY P "k") (t + 1) (.int 4 (cutS (shN 2 σ) 1 + 0))) (riO 5 0) [.int 2 (cutS (shN 0 σ) 1 + 0), .int 3 (cutS (shN 1 σ) 1 + 0), .int 4 (cutS (shN 2 σ) 1 + 0)] (ey + 3)) [] (pw P b (ktop P) theProg ⟨it, acc, loc, fr, W, tw, c, tc, ey⟩ [4,0,4,0,4,4,4,4,4,4,4,3,3,1,3,0,2,2,0,0,0,4,0,4,0,4,4,4,4,4,4,4,3,3,1,3,0,2,2,0,0,3,0,5,0,5,5,5,0,4,0,4,0,4,4,4,4,4,4,4,3,3,1,3,0,2,2,0,0,3,0,5,0,5,5,5,0,4,0,4,0,4,4,4,4,4,4,4,3,3,1,3,0,2,2,0,0,3,0,5,0,5,5,5,0,4,0,4,0,4,4,4,7] n t σ) := by
  rw [PySem.W.ZFast.pwY_eq]
  rcases h with ⟨rfl, rfl⟩ | ⟨rfl, rfl⟩ | ⟨rfl, rfl⟩ | ⟨rfl, rfl⟩ | ⟨rfl, rfl⟩ | ⟨rfl, rfl⟩ <;> cases b <;> refine ⟨⟨?_, ?_, ?_, ?_, ?_, ?_⟩, ?_, ?_, ?_⟩ <;> kernel_rfl
theorem pwB_r (P : Params) (b : Bool) (it acc loc fr : Nat) (W : Int) (tw : Tok) (c : Int) (tc : Tok) (ey : Nat) (n t : Nat) (σ : Nat → Nat) (h : (W = 2 ∧ c = 6) ∨ (W = 2 ∧ c = 8) ∨ (W = 3 ∧ c = 12)) : Go0 (.ok .next) (List.range 5) (pwSt ⟨it, acc, loc, fr, W, tw, c, tc, ey⟩ (loc1 "k" (PySem.W.ZFast.hKY P "k") (t + 1) (.int 4 (cutS (shN 2 σ) 1 + 0))) (riO 5 0) [.int 3 (cutS (shN 1 σ) 1 + 0), .int 4 (cutS (shN 2 σ) 1 + 0)] (ey + 2)) [] (pw P b (ktop P) theProg ⟨it, acc, loc, fr, W, tw, c, tc, ey⟩ [4,0,4,0,4,4,4,4,4,4,4,3,3,1,3,0,2,2,0,0,0,4,0,4,0,4,4,4,4,4,4,4,3,3,1,3,0,2,2,0,0,0,4,0,4,0,4,4,4,4,4,4,4,3,3,1,3,0,2,2,0,0,3,0,5,0,5,5,5,0,4,0,4,0,4,4,4,4,4,4,4,3,3,1,3,0,2,2,0,0,3,0,5,0,5,5,5,0,4,0,4,0,4,4,4,7] n t σ) := by
  rw [PySem.W.ZFast.pwY_eq]
  rcases h with ⟨rfl, rfl⟩ | ⟨rfl, rfl⟩ | ⟨rfl, rfl⟩ <;> cases b <;> refine ⟨⟨?_, ?_, ?_, ?_, ?_, ?_⟩, ?_, ?_, ?_⟩ <;> kernel_rfl
@[irreducible] noncomputable def lw (P : Params) (b : Bool) (K : KT) (pg : Program) (sc : Nat) (vs : List Value) (es : Nat) (f8 dr : List Value → List Value) (k8 : Int) (z : Nat → Int) (tf : List Value → List Value → Nat → Tok) (w0 s0 : Int) (hf : Str → Int) (L : List Int) (e0 p0 : Int) (c : Nat) (nl : (Nat → Nat) → List Value) (orc : List Nat) (n t : Nat) (σ : Nat → Nat) : Ou :=
  goC (mkW P b K pg [sSlF f8, sLen k8, sSlF dr, sCat8 z tf, sV (opModL w0), sV (opModL s0), sV opMulS, sPw K hf L, sV (opModL e0), sV (opModL p0), sV opModS, sNc c nl]) 4000 26 (.call (.ref 151) ⟨[.ref sc], []⟩)
  (lwE sc vs es) n t σ
  orc
theorem lw_id : @lw = @lw := rfl
lay_z Mine.lw
end Mine
name_z lwY for Mine.lw by Mine.lw_id
namespace Mine
theorem lw20_r (P : Params) (b : Bool) (sc : Nat) (vs : List Value) (es : Nat) (f8 dr : List Value → List Value) (k8 : Int) (z : Nat → Int) (tf : List Value → List Value → Nat → Tok) (w0 s0 : Int) (p0 : Int) (c : Nat) (nl : (Nat → Nat) → List Value) (n t : Nat) (σ : Nat → Nat) : Go2 (lwC w0 p0 2 σ) 25 [1, 2, 3, 4, 31, 27, 0] (lwOut sc vs es z w0 nl 2 σ) (lwCs vs f8 dr k8 z w0 s0 0 p0 c [2, 3, 4] 2 σ) (lw P b (ktop P) theProg sc vs es f8 dr k8 z tf w0 s0 (PySem.W.ZFast.hKY P) [2, 3, 4] 0 p0 c nl [0,0,6,6,0,0,6,1,1,1,0,1,2,0,8,0,0,6,1,1,1,0,1,2,0,11,0,3,12,11,11,11,0,11,4,10,13,0,10,15,10,0,10,5,9,14,6,6,6,16,16,16,0,16,0,16,0,6,0,0,7,7,7,6,16,16,16,0,16,0,16,0,7,0,0,0,8,8,8,0,0,0,0,0,0,0,0,17,17,0,17,0,17,17,17,0,17,0,17,17,17,18,0,18,9,6,7,19,17,18,20,20,20,0,0,19,19,0,19,0,21,0,22,21,0,21,0,21,21,19,21,21,22,22,22,0,22,21,0,21,0,21,21,19,21,21,0,0,0,22,21,0,21,0,21,21,19,21,21,0,0,0,22,21,0,21,0,21,21,19,21,21,24,22,22,22,6,6,6,6,0,0,6,16,16,16,0,16,0,16,0,10,0,0,16,16,16,0,16,0,25,25,25,25,25,16,26,26,0,26,0,27,0,27,0,27,0,27,0,27,27,26,27,27,29,29,29,7,0,12,0,28,0,28,28,28,0,27,0,27,0,27,27,26,27,27,29,29,29,7,0,12,0,28,0,28,28,28,0,27,0,27,0,27,27,26,27,27,31,6,6,29,29,29,0,0,8,0,13,6,16,16,16,0,16,0,16,8,0,11,7,6,0,1] n t σ) := by
  rw [PySem.W.ZFast.lwY_eq]
  cases b <;> refine ⟨⟨?_, ?_, ?_, ?_, ?_, ?_⟩, ?_, ?_, ?_, ?_⟩ <;> kernel_rfl
theorem lw21_r (P : Params) (b : Bool) (sc : Nat) (vs : List Value) (es : Nat) (f8 dr : List Value → List Value) (k8 : Int) (z : Nat → Int) (tf : List Value → List Value → Nat → Tok) (w0 s0 : Int) (p0 : Int) (c : Nat) (nl : (Nat → Nat) → List Value) (n t : Nat) (σ : Nat → Nat) : Go2 (lwC w0 p0 3 σ) 25 [1, 2, 3, 4, 31, 27, 0] (lwOut sc vs es z w0 nl 3 σ) (lwCs vs f8 dr k8 z w0 s0 1 p0 c [2, 3, 4] 3 σ) (lw P b (ktop P) theProg sc vs es f8 dr k8 z tf w0 s0 (PySem.W.ZFast.hKY P) [2, 3, 4] 1 p0 c nl [0,0,6,6,0,0,6,1,1,1,0,1,2,0,8,0,0,6,1,1,1,0,1,2,0,11,0,3,12,11,11,11,0,11,4,10,13,0,10,15,10,0,10,5,9,14,6,6,6,16,16,16,0,16,0,16,0,6,0,0,7,7,7,6,16,16,16,0,16,0,16,0,7,0,0,0,8,8,8,0,0,0,0,0,0,0,0,17,17,0,17,0,17,17,17,0,17,0,17,17,17,18,0,18,9,6,7,19,17,18,20,20,20,0,0,19,19,0,19,0,21,0,22,21,0,21,0,21,21,19,21,21,22,22,22,0,22,21,0,21,0,21,21,19,21,21,0,0,0,22,21,0,21,0,21,21,19,21,21,0,0,0,22,21,0,21,0,21,21,19,21,21,24,22,22,22,6,6,6,6,0,0,6,16,16,16,0,16,0,16,0,10,0,0,16,16,16,0,16,0,25,25,25,25,25,16,26,26,0,26,0,27,0,27,0,27,0,27,0,27,27,26,27,27,29,29,29,7,0,12,0,28,0,28,28,28,0,27,0,27,0,27,27,26,27,27,29,29,29,7,0,12,0,28,0,28,28,28,0,27,0,27,0,27,27,26,27,27,29,29,29,7,0,12,0,28,0,28,28,28,0,27,0,27,0,27,27,26,27,27,31,6,6,29,29,29,0,0,8,0,13,6,16,16,16,0,16,0,16,8,0,11,7,6,0,1] n t σ) := by
  rw [PySem.W.ZFast.lwY_eq]
  cases b <;> refine ⟨⟨?_, ?_, ?_, ?_, ?_, ?_⟩, ?_, ?_, ?_, ?_⟩ <;> kernel_rfl
theorem lw30_r (P : Params) (b : Bool) (sc : Nat) (vs : List Value) (es : Nat) (f8 dr : List Value → List Value) (k8 : Int) (z : Nat → Int) (tf : List Value → List Value → Nat → Tok) (w0 s0 : Int) (p0 : Int) (c : Nat) (nl : (Nat → Nat) → List Value) (n t : Nat) (σ : Nat → Nat) : Go2 (lwC w0 p0 3 σ) 25 [1, 2, 3, 4, 31, 27, 0] (lwOut sc vs es z w0 nl 3 σ) (lwCs vs f8 dr k8 z w0 s0 0 p0 c [3, 4] 3 σ) (lw P b (ktop P) theProg sc vs es f8 dr k8 z tf w0 s0 (PySem.W.ZFast.hKY P) [3, 4] 0 p0 c nl [0,0,6,6,0,0,6,1,1,1,0,1,2,0,8,0,0,6,1,1,1,0,1,2,0,11,0,3,12,11,11,11,0,11,4,10,13,0,10,15,10,0,10,5,9,14,6,6,6,16,16,16,0,16,0,16,0,6,0,0,7,7,7,6,16,16,16,0,16,0,16,0,7,0,0,0,8,8,8,0,0,0,0,0,0,0,0,17,17,0,17,0,17,17,17,0,17,0,17,17,17,18,0,18,9,6,7,19,17,18,20,20,20,0,0,19,19,0,19,0,21,0,22,21,0,21,0,21,21,19,21,21,22,22,22,0,22,21,0,21,0,21,21,19,21,21,0,0,0,22,21,0,21,0,21,21,19,21,21,24,22,22,22,6,6,6,6,0,0,6,16,16,16,0,16,0,16,0,10,0,0,16,16,16,0,16,0,25,25,25,25,25,16,26,26,0,26,0,27,0,27,0,27,0,27,0,27,27,26,27,27,29,29,29,7,0,12,0,28,0,28,28,28,0,27,0,27,0,27,27,26,27,27,29,29,29,7,0,12,0,28,0,28,28,28,0,27,0,27,0,27,27,26,27,27,29,29,29,7,0,12,0,28,0,28,28,28,0,27,0,27,0,27,27,26,27,27,31,6,6,29,29,29,0,0,8,0,13,6,16,16,16,0,16,0,16,8,0,11,7,6,0,1] n t σ) := by
  rw [PySem.W.ZFast.lwY_eq]
  cases b <;> refine ⟨⟨?_, ?_, ?_, ?_, ?_, ?_⟩, ?_, ?_, ?_, ?_⟩ <;> kernel_rfl
theorem lw31_r (P : Params) (b : Bool) (sc : Nat) (vs : List Value) (es : Nat) (f8 dr : List Value → List Value) (k8 : Int) (z : Nat → Int) (tf : List Value → List Value → Nat → Tok) (w0 s0 : Int) (p0 : Int) (c : Nat) (nl : (Nat → Nat) → List Value) (n t : Nat) (σ : Nat → Nat) : Go2 (lwC w0 p0 4 σ) 25 [1, 2, 3, 4, 31, 27, 0] (lwOut sc vs es z w0 nl 4 σ) (lwCs vs f8 dr k8 z w0 s0 1 p0 c [3, 4] 4 σ) (lw P b (ktop P) theProg sc vs es f8 dr k8 z tf w0 s0 (PySem.W.ZFast.hKY P) [3, 4] 1 p0 c nl [0,0,6,6,0,0,6,1,1,1,0,1,2,0,8,0,0,6,1,1,1,0,1,2,0,11,0,3,12,11,11,11,0,11,4,10,13,0,10,15,10,0,10,5,9,14,6,6,6,16,16,16,0,16,0,16,0,6,0,0,7,7,7,6,16,16,16,0,16,0,16,0,7,0,0,0,8,8,8,0,0,0,0,0,0,0,0,17,17,0,17,0,17,17,17,0,17,0,17,17,17,18,0,18,9,6,7,19,17,18,20,20,20,0,0,19,19,0,19,0,21,0,22,21,0,21,0,21,21,19,21,21,22,22,22,0,22,21,0,21,0,21,21,19,21,21,0,0,0,22,21,0,21,0,21,21,19,21,21,24,22,22,22,6,6,6,6,0,0,6,16,16,16,0,16,0,16,0,10,0,0,16,16,16,0,16,0,25,25,25,25,25,16,26,26,0,26,0,27,0,27,0,27,0,27,0,27,27,26,27,27,29,29,29,7,0,12,0,28,0,28,28,28,0,27,0,27,0,27,27,26,27,27,29,29,29,7,0,12,0,28,0,28,28,28,0,27,0,27,0,27,27,26,27,27,29,29,29,7,0,12,0,28,0,28,28,28,0,27,0,27,0,27,27,26,27,27,29,29,29,7,0,12,0,28,0,28,28,28,0,27,0,27,0,27,27,26,27,27,31,6,6,29,29,29,0,0,8,0,13,6,16,16,16,0,16,0,16,8,0,11,7,6,0,1] n t σ) := by
  rw [PySem.W.ZFast.lwY_eq]
  cases b <;> refine ⟨⟨?_, ?_, ?_, ?_, ?_, ?_⟩, ?_, ?_, ?_, ?_⟩ <;> kernel_rfl
@[irreducible] noncomputable def lwR (P : Params) (b : Bool) (K : KT) (pg : Program) (sc : Nat) (vs : List Value) (es : Nat) (f8 dr : List Value → List Value) (k8 : Int) (z : Nat → Int) (tf : List Value → List Value → Nat → Tok) (w0 s0 : Int) (hf : Str → Int) (L : List Int) (e0 p0 : Int) (c : Nat) (nl : (Nat → Nat) → List Value) (orc0 : List Nat) (n0 t0 : Nat) (σ0 : Nat → Nat) (l0 l1 l2 l3 : List Value) (orc : List Nat) (n t : Nat) (σ : Nat → Nat) : Ou :=
  goS (mkW P b K pg []) 4000 25 (.ok (.ret (.bool true))) ((lw P b K pg sc vs es f8 dr k8 z tf w0 s0 hf L e0 p0 c nl orc0 n0 t0 σ0).stk)
  (lwTab l0 l1 l2 l3 sc vs es) n t σ
  orc
theorem lwR_id : @lwR = @lwR := rfl
lay_z Mine.lwR
end Mine
name_z lwRY for Mine.lwR by Mine.lwR_id
namespace Mine
theorem lwR20_r (P : Params) (b : Bool) (sc : Nat) (vs : List Value) (es : Nat) (f8 dr : List Value → List Value) (k8 : Int) (z : Nat → Int) (tf : List Value → List Value → Nat → Tok) (w0 s0 : Int) (p0 : Int) (c : Nat) (nl : (Nat → Nat) → List Value) (n0 t0 : Nat) (σ0 : Nat → Nat) (l0 l1 l2 l3 : List Value) (n t : Nat) (σ : Nat → Nat) : Go0 (.ok (.ret (.bool true))) (List.range 5) (lwTab l0 l1 l2 l3 sc vs es) [] (lwR P b (ktop P) theProg sc vs es f8 dr k8 z tf w0 s0 (PySem.W.ZFast.hKY P) [2, 3, 4] 0 p0 c nl [0,0,6,6,0,0,6,1,1,1,0,1,2,0,8,0,0,6,1,1,1,0,1,2,0,11,0,3,12,11,11,11,0,11,4,10,13,0,10,15,10,0,10,5,9,14,6,6,6,16,16,16,0,16,0,16,0,6,0,0,7,7,7,6,16,16,16,0,16,0,16,0,7,0,0,0,8,8,8,0,0,0,0,0,0,0,0,17,17,0,17,0,17,17,17,0,17,0,17,17,17,18,0,18,9,6,7,19,17,18,20,20,20,0,0,19,19,0,19,0,21,0,22,21,0,21,0,21,21,19,21,21,22,22,22,0,22,21,0,21,0,21,21,19,21,21,0,0,0,22,21,0,21,0,21,21,19,21,21,0,0,0,22,21,0,21,0,21,21,19,21,21,24,22,22,22,6,6,6,6,0,0,6,16,16,16,0,16,0,16,0,10,0,0,16,16,16,0,16,0,25,25,25,25,25,16,26,26,0,26,0,27,0,27,0,27,0,27,0,27,27,26,27,27,29,29,29,7,0,12,0,28,0,28,28,28,0,27,0,27,0,27,27,26,27,27,29,29,29,7,0,12,0,28,0,28,28,28,0,27,0,27,0,27,27,26,27,27,31,6,6,29,29,29,0,0,8,0,13,6,16,16,16,0,16,0,16,8,0,11,7,6,0,1] n0 t0 σ0 l0 l1 l2 l3 [] n t σ) := by
  rw [PySem.W.ZFast.lwRY_eq]
  cases b <;> refine ⟨⟨?_, ?_, ?_, ?_, ?_, ?_⟩, ?_, ?_, ?_⟩ <;> kernel_rfl
theorem lwR21_r (P : Params) (b : Bool) (sc : Nat) (vs : List Value) (es : Nat) (f8 dr : List Value → List Value) (k8 : Int) (z : Nat → Int) (tf : List Value → List Value → Nat → Tok) (w0 s0 : Int) (p0 : Int) (c : Nat) (nl : (Nat → Nat) → List Value) (n0 t0 : Nat) (σ0 : Nat → Nat) (l0 l1 l2 l3 : List Value) (n t : Nat) (σ : Nat → Nat) : Go0 (.ok (.ret (.bool true))) (List.range 5) (lwTab l0 l1 l2 l3 sc vs es) [] (lwR P b (ktop P) theProg sc vs es f8 dr k8 z tf w0 s0 (PySem.W.ZFast.hKY P) [2, 3, 4] 1 p0 c nl [0,0,6,6,0,0,6,1,1,1,0,1,2,0,8,0,0,6,1,1,1,0,1,2,0,11,0,3,12,11,11,11,0,11,4,10,13,0,10,15,10,0,10,5,9,14,6,6,6,16,16,16,0,16,0,16,0,6,0,0,7,7,7,6,16,16,16,0,16,0,16,0,7,0,0,0,8,8,8,0,0,0,0,0,0,0,0,17,17,0,17,0,17,17,17,0,17,0,17,17,17,18,0,18,9,6,7,19,17,18,20,20,20,0,0,19,19,0,19,0,21,0,22,21,0,21,0,21,21,19,21,21,22,22,22,0,22,21,0,21,0,21,21,19,21,21,0,0,0,22,21,0,21,0,21,21,19,21,21,0,0,0,22,21,0,21,0,21,21,19,21,21,24,22,22,22,6,6,6,6,0,0,6,16,16,16,0,16,0,16,0,10,0,0,16,16,16,0,16,0,25,25,25,25,25,16,26,26,0,26,0,27,0,27,0,27,0,27,0,27,27,26,27,27,29,29,29,7,0,12,0,28,0,28,28,28,0,27,0,27,0,27,27,26,27,27,29,29,29,7,0,12,0,28,0,28,28,28,0,27,0,27,0,27,27,26,27,27,29,29,29,7,0,12,0,28,0,28,28,28,0,27,0,27,0,27,27,26,27,27,31,6,6,29,29,29,0,0,8,0,13,6,16,16,16,0,16,0,16,8,0,11,7,6,0,1] n0 t0 σ0 l0 l1 l2 l3 [] n t σ) := by
  rw [PySem.W.ZFast.lwRY_eq]
  cases b <;> refine ⟨⟨?_, ?_, ?_, ?_, ?_, ?_⟩, ?_, ?_, ?_⟩ <;> kernel_rfl
theorem lwR30_r (P : Params) (b : Bool) (sc : Nat) (vs : List Value) (es : Nat) (f8 dr : List Value → List Value) (k8 : Int) (z : Nat → Int) (tf : List Value → List Value → Nat → Tok) (w0 s0 : Int) (p0 : Int) (c : Nat) (nl : (Nat → Nat) → List Value) (n0 t0 : Nat) (σ0 : Nat → Nat) (l0 l1 l2 l3 : List Value) (n t : Nat) (σ : Nat → Nat) : Go0 (.ok (.ret (.bool true))) (List.range 5) (lwTab l0 l1 l2 l3 sc vs es) [] (lwR P b (ktop P) theProg sc vs es f8 dr k8 z tf w0 s0 (PySem.W.ZFast.hKY P) [3, 4] 0 p0 c nl [0,0,6,6,0,0,6,1,1,1,0,1,2,0,8,0,0,6,1,1,1,0,1,2,0,11,0,3,12,11,11,11,0,11,4,10,13,0,10,15,10,0,10,5,9,14,6,6,6,16,16,16,0,16,0,16,0,6,0,0,7,7,7,6,16,16,16,0,16,0,16,0,7,0,0,0,8,8,8,0,0,0,0,0,0,0,0,17,17,0,17,0,17,17,17,0,17,0,17,17,17,18,0,18,9,6,7,19,17,18,20,20,20,0,0,19,19,0,19,0,21,0,22,21,0,21,0,21,21,19,21,21,22,22,22,0,22,21,0,21,0,21,21,19,21,21,0,0,0,22,21,0,21,0,21,21,19,21,21,24,22,22,22,6,6,6,6,0,0,6,16,16,16,0,16,0,16,0,10,0,0,16,16,16,0,16,0,25,25,25,25,25,16,26,26,0,26,0,27,0,27,0,27,0,27,0,27,27,26,27,27,29,29,29,7,0,12,0,28,0,28,28,28,0,27,0,27,0,27,27,26,27,27,29,29,29,7,0,12,0,28,0,28,28,28,0,27,0,27,0,27,27,26,27,27,29,29,29,7,0,12,0,28,0,28,28,28,0,27,0,27,0,27,27,26,27,27,31,6,6,29,29,29,0,0,8,0,13,6,16,16,16,0,16,0,16,8,0,11,7,6,0,1] n0 t0 σ0 l0 l1 l2 l3 [] n t σ) := by
  rw [PySem.W.ZFast.lwRY_eq]
  cases b <;> refine ⟨⟨?_, ?_, ?_, ?_, ?_, ?_⟩, ?_, ?_, ?_⟩ <;> kernel_rfl
theorem lwR31_r (P : Params) (b : Bool) (sc : Nat) (vs : List Value) (es : Nat) (f8 dr : List Value → List Value) (k8 : Int) (z : Nat → Int) (tf : List Value → List Value → Nat → Tok) (w0 s0 : Int) (p0 : Int) (c : Nat) (nl : (Nat → Nat) → List Value) (n0 t0 : Nat) (σ0 : Nat → Nat) (l0 l1 l2 l3 : List Value) (n t : Nat) (σ : Nat → Nat) : Go0 (.ok (.ret (.bool true))) (List.range 5) (lwTab l0 l1 l2 l3 sc vs es) [] (lwR P b (ktop P) theProg sc vs es f8 dr k8 z tf w0 s0 (PySem.W.ZFast.hKY P) [3, 4] 1 p0 c nl [0,0,6,6,0,0,6,1,1,1,0,1,2,0,8,0,0,6,1,1,1,0,1,2,0,11,0,3,12,11,11,11,0,11,4,10,13,0,10,15,10,0,10,5,9,14,6,6,6,16,16,16,0,16,0,16,0,6,0,0,7,7,7,6,16,16,16,0,16,0,16,0,7,0,0,0,8,8,8,0,0,0,0,0,0,0,0,17,17,0,17,0,17,17,17,0,17,0,17,17,17,18,0,18,9,6,7,19,17,18,20,20,20,0,0,19,19,0,19,0,21,0,22,21,0,21,0,21,21,19,21,21,22,22,22,0,22,21,0,21,0,21,21,19,21,21,0,0,0,22,21,0,21,0,21,21,19,21,21,24,22,22,22,6,6,6,6,0,0,6,16,16,16,0,16,0,16,0,10,0,0,16,16,16,0,16,0,25,25,25,25,25,16,26,26,0,26,0,27,0,27,0,27,0,27,0,27,27,26,27,27,29,29,29,7,0,12,0,28,0,28,28,28,0,27,0,27,0,27,27,26,27,27,29,29,29,7,0,12,0,28,0,28,28,28,0,27,0,27,0,27,27,26,27,27,29,29,29,7,0,12,0,28,0,28,28,28,0,27,0,27,0,27,27,26,27,27,29,29,29,7,0,12,0,28,0,28,28,28,0,27,0,27,0,27,27,26,27,27,31,6,6,29,29,29,0,0,8,0,13,6,16,16,16,0,16,0,16,8,0,11,7,6,0,1] n0 t0 σ0 l0 l1 l2 l3 [] n t σ) := by
  rw [PySem.W.ZFast.lwRY_eq]
  cases b <;> refine ⟨⟨?_, ?_, ?_, ?_, ?_, ?_⟩, ?_, ?_, ?_⟩ <;> kernel_rfl
end Mine
end
section
open PySem PySem.W PySem.W.X PyProof.Rows
namespace Mine
section
variable {w : World}
theorem opPow_good : opPow.Good w := iop2_good F.entry_int_pow (by decide +kernel) fun a t b u hb hc => by
  have h := all1 hb
  clear hb hc
  unfold powB at h
  split at h
  · rename_i a b
    simp only [Bool.and_eq_true, Nat.ble_eq] at h
    obtain ⟨⟨⟨h1, h2⟩, h3⟩, h4⟩ := h
    have ha : a = 2 ∨ a = 3 ∨ a = 4 := by omega
    have hb : b = 1 ∨ b = 2 ∨ b = 3 ∨ b = 4 := by omega
    refine .inl ⟨_, AutoIntG2.int___pow___int_int_4 _ t _ u ?_ ?_ ?_ ?_ ?_, fun k => rfl⟩ <;> rcases ha with rfl | rfl | rfl <;> rcases hb with rfl | rfl | rfl | rfl <;> decide +kernel
  · cases h
theorem cCat8_ok {z : Nat → Int} : (cCat8 z tf8).Holds w where
  ad p σ := ⟨[σ 0], rfl⟩
  does p hc := (cCat_ok (xs := num8 z (tf8 p.vs p.us))).does p ⟨⟨hc.1.eq, hc.1.le⟩, trivial⟩
theorem cPw_ok {L : List Int} : (cPw (ktop w.params) (PySem.W.ZFast.hKY w.params) L).Holds w where
  ad p σ := ⟨[], (List.append_nil _).symm⟩
  does p hc := by
    obtain ⟨it, acc, loc, fr, W, tw, c, tc, ey⟩ := p
    have h : PwOk W c L := hc.1
    obtain ⟨⟨rfl, h⟩ | ⟨rfl, h⟩⟩ := h
    · exact Ends.fin (fun n t σ => pw.eq_1 w.params (bOf w) (ktop w.params) theProg ⟨it, acc, loc, fr, W, tw, c, tc, ey⟩ _ n t σ) rfl ⟨sV_ok opPow_good, trivial⟩ (fun n t σ => pwA_r w.params (bOf w) it acc loc fr W tw c tc ey n t σ h) (by decide) (fun _ _ _ _ => trivial) fun n t σ _ => ⟨sg [t + 1, cutS (shN 2 σ) 1 + 0, cutS (shN 0 σ) 1 + 0, cutS (shN 1 σ) 1 + 0, cutS (shN 2 σ) 1 + 0, ey + 3], sg_z (by simp), rfl, rfl⟩
    · exact Ends.fin (fun n t σ => pw.eq_1 w.params (bOf w) (ktop w.params) theProg ⟨it, acc, loc, fr, W, tw, c, tc, ey⟩ _ n t σ) rfl ⟨sV_ok opPow_good, trivial⟩ (fun n t σ => pwB_r w.params (bOf w) it acc loc fr W tw c tc ey n t σ h) (by decide) (fun _ _ _ _ => trivial) fun n t σ _ => ⟨sg [t + 1, cutS (shN 2 σ) 1 + 0, cutS (shN 1 σ) 1 + 0, cutS (shN 2 σ) 1 + 0, 0, ey + 2], sg_z (by simp), rfl, rfl⟩
theorem cNc_ok {c : Nat} : (cNc c (nmL c)).Holds w where
  ad p σ := ⟨_, rfl⟩
  does p hc := by
    obtain ⟨x, tx⟩ := p
    obtain ⟨rfl, h⟩ : CntIs x c := hc.1
    exact (cNm_ok (w := w)).does ⟨c, tx⟩ ⟨h, trivial⟩
theorem cat8_lit {l : List Value} {a0 a1 a2 a3 a4 a5 a6 a7 : Int} (h : IntsAre l [a0, a1, a2, a3, a4, a5, a6, a7]) : l = num8 (fun i => [a0, a1, a2, a3, a4, a5, a6, a7].getD i 0) (fun i => tokV (l.getD i .none)) := by
  obtain ⟨t0, l0, rfl, h0⟩ := h.cons_inv
  obtain ⟨t1, l1, rfl, h1⟩ := h0.cons_inv
  obtain ⟨t2, l2, rfl, h2⟩ := h1.cons_inv
  obtain ⟨t3, l3, rfl, h3⟩ := h2.cons_inv
  obtain ⟨t4, l4, rfl, h4⟩ := h3.cons_inv
  obtain ⟨t5, l5, rfl, h5⟩ := h4.cons_inv
  obtain ⟨t6, l6, rfl, h6⟩ := h5.cons_inv
  obtain ⟨t7, l7, rfl, h7⟩ := h6.cons_inv
  have := h7.nil_inv
  subst this
  rfl
theorem cat8_of {l : List Value} {zs : List Int} (h : IntsAre l zs) (h8 : zs.length = 8) : l = num8 (fun i => zs.getD i 0) (fun i => tokV (l.getD i .none)) := by
  match zs, h8, h with
  | [a0, a1, a2, a3, a4, a5, a6, a7], _, h => exact cat8_lit h
noncomputable def dflN : List Int := [1, 2, 7, 1, 2, 5, 3, 0]
theorem dfl8_ints (τ : Nat → Tok) : IntsAre (dfl8 τ) dflN := .cons _ _ (.cons _ _ (.cons _ _ (.cons _ _ (.cons _ _ (.cons _ _ (.cons _ _ (.cons _ _ .nil)))))))
theorem repP_all {p : Prop} {l : List Prop} (h : p) (H : AllP l) : ∀ m, AllP (repP p m l)
  | 0 => H
  | m + 1 => ⟨h, repP_all h H m⟩
theorem nmL_strs {c : Nat} {σ : Nat → Nat} : StrsAre (nmL c σ) ((List.range c).map nmS) := by
  rw [nmL, upN_eq]
  simp only [Nat.zero_add]
  exact strsAre_maps _ _ _
theorem lwAv_len {z : Nat → Int} {w0 : Int} {m : Nat} {σ : Nat → Nat} : (lwAv z w0 m σ).length = m := by rw [lwAv, upN_eq]; simp
theorem lwAv_dig {z : Nat → Int} {w0 : Int} {W m : Nat} {σ : Nat → Nat} (hW : 2 + w0 = (W : Int)) (h0 : 0 < W) (hm : m ≤ 5) : DigIs W (lwAv z w0 m σ) 0 ((List.range m).map fun i => (z (3 + i) % (W : Int)).toNat) := by
  have y0 : ∀ i, 0 ≤ z (3 + i) % (W : Int) := fun i => Int.emod_nonneg _ (by omega)
  have y1 : ∀ i, z (3 + i) % (W : Int) < (W : Int) := fun i => Int.emod_lt_of_pos _ (by omega)
  refine ⟨by rw [lwAv_len]; simp, fun d hd => ?_, by rw [lwAv_len]; omega, fun k h => ?_⟩
  · obtain ⟨i, -, rfl⟩ := List.mem_map.mp hd
    have := y0 i
    have := y1 i
    omega
  · simp only [List.length_map, List.length_range] at h
    refine ⟨tlS (10 + k) σ 0, (upN_get _ m 0 (0 + k) (by omega)).trans ?_⟩
    simp only [List.getElem_map, List.getElem_range, Nat.zero_add, hW]
    rw [Int.toNat_of_nonneg (y0 k)]
theorem pw_of {W s : Nat} (hW : W = 2 ∨ W = 3 ∨ W = 4) (hs : s + 1 = 2 ∨ s + 1 = 3 ∨ s + 1 = 4) : ∃ L, PwOk (W : Int) ((W * (s + 1) : Nat) : Int) L ∧ (L = [2, 3, 4] ∧ leastN W (W * (s + 1)) = 2 ∨ L = [3, 4] ∧ leastN W (W * (s + 1)) = 3) := by
  have e : ∀ W : Nat, W = 2 ∨ W = 3 ∨ W = 4 → ∀ s : Nat, s = 2 ∨ s = 3 ∨ s = 4 → ((W : Int) = 2 ∧ ((W * s : Nat) : Int) = 4 ∨ (W : Int) = 3 ∧ ((W * s : Nat) : Int) = 6 ∨ (W : Int) = 3 ∧ ((W * s : Nat) : Int) = 9 ∨ (W : Int) = 4 ∧ ((W * s : Nat) : Int) = 8 ∨ (W : Int) = 4 ∧ ((W * s : Nat) : Int) = 12 ∨ (W : Int) = 4 ∧ ((W * s : Nat) : Int) = 16) ∧ leastN W (W * s) = 2 ∨ ((W : Int) = 2 ∧ ((W * s : Nat) : Int) = 6 ∨ (W : Int) = 2 ∧ ((W * s : Nat) : Int) = 8 ∨ (W : Int) = 3 ∧ ((W * s : Nat) : Int) = 12) ∧ leastN W (W * s) = 3 := by
    rintro W (rfl | rfl | rfl) s (rfl | rfl | rfl) <;> decide
  rcases e W hW (s + 1) hs with ⟨a, b⟩ | ⟨a, b⟩
  · exact ⟨_, ⟨.inl ⟨rfl, a⟩⟩, .inl ⟨rfl, b⟩⟩
  · exact ⟨_, ⟨.inr ⟨rfl, a⟩⟩, .inr ⟨rfl, b⟩⟩
theorem law_ok {sc es : Nat} {vs : List Value} {ns : List Int} (hi : IntsAre vs ns) (hlen : ns.length ≤ 63) : Ends w 26 (.call (.ref 151) ⟨[.ref sc], []⟩) (lwE sc vs es) (fun r G => r = .ok (.ret (.bool true)) ∧ ∃ l0 l1 l2 l3, G = lwTab l0 l1 l2 l3 sc vs es) := by
  have hvl : vs.length = ns.length := hi.length
  obtain ⟨k, hk⟩ : ∃ k, (vs.take 8).length = k := ⟨_, rfl⟩
  have hk' : k = (ns.take 8).length := by rw [← hk]; simp [hvl]
  have hk8 : k ≤ 8 := by rw [← hk]; simp; omega
  obtain ⟨z, hcat⟩ : ∃ z : Nat → Int, ∀ τ, Cat8 (vs.take 8) ((dfl8 τ).drop k) z := by
    refine ⟨fun i => (ns.take 8 ++ dflN.drop k).getD i 0, fun τ => ⟨cat8_of ((hi.take 8).append ((dfl8_ints τ).drop k)) ?_, ?_⟩⟩
    · rw [List.length_append, List.length_drop, ← hk']
      show k + (8 - k) = 8
      omega
    · rw [hk, List.length_drop]
      show k + (8 - k) ≤ 100000
      omega
  have b0 := Int.emod_nonneg (z 0) (show (3 : Int) ≠ 0 by decide)
  have b0' := Int.emod_lt_of_pos (z 0) (show (0 : Int) < 3 by decide)
  have b1 := Int.emod_nonneg (z 1) (show (3 : Int) ≠ 0 by decide)
  have b1' := Int.emod_lt_of_pos (z 1) (show (0 : Int) < 3 by decide)
  have b7 := Int.emod_nonneg (z 7) (show (2 : Int) ≠ 0 by decide)
  have b7' := Int.emod_lt_of_pos (z 7) (show (0 : Int) < 2 by decide)
  obtain ⟨W, hWe⟩ : ∃ W : Nat, 2 + z 0 % 3 = (W : Int) := ⟨(2 + z 0 % 3).toNat, by omega⟩
  obtain ⟨s, hse⟩ : ∃ s : Nat, 2 + z 1 % 3 = ((s + 1 : Nat) : Int) := ⟨(1 + z 1 % 3).toNat, by omega⟩
  have hW : W = 2 ∨ W = 3 ∨ W = 4 := by omega
  have hs : s + 1 = 2 ∨ s + 1 = 3 ∨ s + 1 = 4 := by omega
  have hCC : (2 + z 0 % 3) * (2 + z 1 % 3) = ((W * (s + 1) : Nat) : Int) := by rw [hWe, hse]; push_cast; rfl
  have hc := cnt_ok hW hs
  have hc2 := hc.le
  have b2 := Int.emod_nonneg (z 2) (show ((W * (s + 1) : Nat) : Int) ≠ 0 by omega)
  have b2' := Int.emod_lt_of_pos (z 2) (show (0 : Int) < ((W * (s + 1) : Nat) : Int) by omega)
  obtain ⟨place, hpe⟩ : ∃ place : Nat, z 2 % ((W * (s + 1) : Nat) : Int) = (place : Int) := ⟨(z 2 % ((W * (s + 1) : Nat) : Int)).toNat, by omega⟩
  have hpl : place < W * (s + 1) := by omega
  have sl8 : SlIs vs none (some 8) (vs.take 8) := ⟨by rw [show (8 : Int) = ((8 : Nat) : Int) from rfl, slicePick_upto'], by omega⟩
  have sld : ∀ τ, SlIs (dfl8 τ) (some (k : Int)) none ((dfl8 τ).drop k) := fun τ => ⟨by rw [slicePick_from'], show 8 ≤ 100000 by omega⟩
  obtain ⟨L, hL, hLL⟩ := pw_of hW hs
  have G : ∀ {e m : Nat} {e0 : Int} {J J2 orc orc2 : List Nat}, J.Nodup → J2.Nodup → z 7 % 2 = e0 → e < 2 → m = leastN W (W * (s + 1)) + e → 0 < m → m ≤ 5 →
      (∀ n t σ, Go2 (lwC (z 0 % 3) (place : Int) m σ) 25 J (lwOut sc vs es z (z 0 % 3) (nmL (W * (s + 1))) m σ) (lwCs vs (List.take 8) (List.drop k) (k : Int) z (z 0 % 3) (z 1 % 3) e0 (place : Int) (W * (s + 1)) L m σ) (lw w.params (bOf w) (ktop w.params) theProg sc vs es (List.take 8) (List.drop k) (k : Int) z tf8 (z 0 % 3) (z 1 % 3) (PySem.W.ZFast.hKY w.params) L e0 (place : Int) (W * (s + 1)) (nmL (W * (s + 1))) orc n t σ)) →
      (∀ n0 t0 σ0 l0 l1 l2 l3 n t σ, Go0 (.ok (.ret (.bool true))) J2 (lwTab l0 l1 l2 l3 sc vs es) [] (lwR w.params (bOf w) (ktop w.params) theProg sc vs es (List.take 8) (List.drop k) (k : Int) z tf8 (z 0 % 3) (z 1 % 3) (PySem.W.ZFast.hKY w.params) L e0 (place : Int) (W * (s + 1)) (nmL (W * (s + 1))) orc n0 t0 σ0 l0 l1 l2 l3 orc2 n t σ)) →
      Ends w 26 (.call (.ref 151) ⟨[.ref sc], []⟩) (lwE sc vs es) (fun r G => r = .ok (.ret (.bool true)) ∧ ∃ l0 l1 l2 l3, G = lwTab l0 l1 l2 l3 sc vs es) := fun {e m e0 J J2 orc orc2} hJ hJ2 he he2 hm m0 m5 FA FB => by
    refine Ends.cut (fun n t σ => lw.eq_1 w.params (bOf w) (ktop w.params) theProg sc vs es (List.take 8) (List.drop k) (k : Int) z tf8 (z 0 % 3) (z 1 % 3) (PySem.W.ZFast.hKY w.params) L e0 (place : Int) (W * (s + 1)) (nmL (W * (s + 1))) orc n t σ) rfl
      ⟨cSlF_ok.ok _ _, cLen_ok.ok _ _, cSlF_ok.ok _ _, cCat8_ok.ok _ _, sV_ok opModL_good, sV_ok opModL_good, sV_ok opMulS_good, cPw_ok.ok _ _, sV_ok opModL_good, sV_ok opModL_good, sV_ok opModS_good, cNc_ok.ok _ _, trivial⟩ FA hJ (fun _ _ _ _ => ?_) fun n t σ _ => ?_
    · unfold lwCs
      rw [hCC, hWe]
      refine ⟨⟨by omega, hpe⟩, ⟨rfl, hc⟩, repP_all (by omega) ?_ m⟩
      exact ⟨⟨by decide, he⟩, hL, by omega, ⟨by decide, rfl⟩, ⟨by decide, rfl⟩, hcat _, sld _, rfl, ⟨by rw [hk], by omega⟩, sl8, rfl, sl8, rfl, trivial⟩
    · have T := (trick_ok (w := w) (nm := tlS (10 + m) σ 0) (ah := cutS (shN 9 σ) 0 + 3) (en := tlS (10 + m) σ 1) (ea := m) (tp := tlS (11 + m) σ 0) (tw := cutS (shN 5 σ) 1 + 0) hW hs hpl (nmL_strs (σ := tlS (10 + m) σ)) (lwAv_dig (z := z) (σ := σ) hWe (by omega) m5) (by intro q; have := congrArg List.length q; simp at this; omega) (by rw [List.length_map, List.length_range, hm]; exact plain_law hW hs place hpl e he2)).frame [(sc, lst vs es)]
      have eC : lwC (z 0 % 3) (place : Int) m σ = .call (.ref 146) ⟨[.ref (tlS (10 + m) σ 0), .int (place : Int) (tlS (11 + m) σ 0), .int (W : Int) (cutS (shN 5 σ) 1 + 0), .ref (cutS (shN 9 σ) 0 + 3)], []⟩ := by unfold lwC; rw [hWe]
      rw [eC]
      refine T.mono fun r G q => ?_
      obtain ⟨E', rfl, rfl, y, rfl⟩ := q
      exact EndsS.fin (fun n' t' σ' => lwR.eq_1 w.params (bOf w) (ktop w.params) theProg sc vs es (List.take 8) (List.drop k) (k : Int) z tf8 (z 0 % 3) (z 1 % 3) (PySem.W.ZFast.hKY w.params) L e0 (place : Int) (W * (s + 1)) (nmL (W * (s + 1))) orc n t σ _ _ _ _ orc2 n' t' σ') trivial (fun n' t' σ' => FB n t σ _ _ _ _ n' t' σ') hJ2 (fun _ _ _ _ => trivial) fun _ _ _ _ => ⟨rfl, _, _, _, _, rfl⟩
  have e01 : z 7 % 2 = 0 ∨ z 7 % 2 = 1 := by omega
  rcases hLL with ⟨rfl, hl⟩ | ⟨rfl, hl⟩ <;> rcases e01 with he | he
  · exact G (e := 0) (by decide) (by decide) he (by decide) (by rw [hl]) (by decide) (by decide) (fun n t σ => lw20_r w.params (bOf w) sc vs es (List.take 8) (List.drop k) (k : Int) z tf8 (z 0 % 3) (z 1 % 3) (place : Int) (W * (s + 1)) (nmL (W * (s + 1))) n t σ) (fun n0 t0 σ0 l0 l1 l2 l3 n t σ => lwR20_r w.params (bOf w) sc vs es (List.take 8) (List.drop k) (k : Int) z tf8 (z 0 % 3) (z 1 % 3) (place : Int) (W * (s + 1)) (nmL (W * (s + 1))) n0 t0 σ0 l0 l1 l2 l3 n t σ)
  · exact G (e := 1) (by decide) (by decide) he (by decide) (by rw [hl]) (by decide) (by decide) (fun n t σ => lw21_r w.params (bOf w) sc vs es (List.take 8) (List.drop k) (k : Int) z tf8 (z 0 % 3) (z 1 % 3) (place : Int) (W * (s + 1)) (nmL (W * (s + 1))) n t σ) (fun n0 t0 σ0 l0 l1 l2 l3 n t σ => lwR21_r w.params (bOf w) sc vs es (List.take 8) (List.drop k) (k : Int) z tf8 (z 0 % 3) (z 1 % 3) (place : Int) (W * (s + 1)) (nmL (W * (s + 1))) n0 t0 σ0 l0 l1 l2 l3 n t σ)
  · exact G (e := 0) (by decide) (by decide) he (by decide) (by rw [hl]) (by decide) (by decide) (fun n t σ => lw30_r w.params (bOf w) sc vs es (List.take 8) (List.drop k) (k : Int) z tf8 (z 0 % 3) (z 1 % 3) (place : Int) (W * (s + 1)) (nmL (W * (s + 1))) n t σ) (fun n0 t0 σ0 l0 l1 l2 l3 n t σ => lwR30_r w.params (bOf w) sc vs es (List.take 8) (List.drop k) (k : Int) z tf8 (z 0 % 3) (z 1 % 3) (place : Int) (W * (s + 1)) (nmL (W * (s + 1))) n0 t0 σ0 l0 l1 l2 l3 n t σ)
  · exact G (e := 1) (by decide) (by decide) he (by decide) (by rw [hl]) (by decide) (by decide) (fun n t σ => lw31_r w.params (bOf w) sc vs es (List.take 8) (List.drop k) (k : Int) z tf8 (z 0 % 3) (z 1 % 3) (place : Int) (W * (s + 1)) (nmL (W * (s + 1))) n t σ) (fun n0 t0 σ0 l0 l1 l2 l3 n t σ => lwR31_r w.params (bOf w) sc vs es (List.take 8) (List.drop k) (k : Int) z tf8 (z 0 % 3) (z 1 % 3) (place : Int) (W * (s + 1)) (nmL (W * (s + 1))) n0 t0 σ0 l0 l1 l2 l3 n t σ)
end
end Mine
end
section
open PySem PySem.W PySem.W.X PySem.W.ZRun PyProof.Rows
set_option maxHeartbeats 400000
namespace Mine
noncomputable def saidL (l : OpenLaw) : Bool := l.wellSaid
theorem saidL_id : @saidL = @saidL := rfl
lay_quick Mine.saidL
end Mine
name_quick saidLY for Mine.saidL by Mine.saidL_id
namespace Mine
theorem said_ok : saidL PySem.Challenge.rw_pe0163_01 = true := by
  rw [PySem.W.Fast.saidLY_eq]
  kernel_rfl
noncomputable abbrev lawR : OpenRow := PySem.Challenge.rw_pe0163_01.row
theorem lawD_some : (defOf vw lawR.name).isSome = true := by kernel_rfl
noncomputable def lawD : DefRec × List (Str × Expr) := (defOf vw lawR.name).get lawD_some
theorem lawD_eq : defOf vw lawR.name = some (lawD.1, lawD.2) := (Option.some_get lawD_some).symm
theorem lawD_p : lawR.prog.theDef lawR.name = some (lawD.1.params, lawD.1.body, lawD.1.scope) := by kernel_rfl
theorem lawD_k : kwWritten? lawD.1.params.kwonlyargs lawD.1.params.kw_defaults = some lawD.2 := by kernel_rfl
theorem lawR_ok : (chainsOk vw && opensWell lawR.prog && (frees lawR.toRowW && lawR.within.isEmpty)) = true := by kernel_rfl
theorem lawR_bare : lawR.prog.bare := ⟨rfl, rfl, rfl, rfl, rfl, by decide +kernel⟩
theorem lawR_wr : (!lawR.writes || lawR.records.isEmpty) = true := by kernel_rfl
theorem rec_ok (s : Shared) (e : (xlAt vw [] s && recOk [] s) = true) : RecFacts lawR.records s.heap := recFacts_of (R := []) (Bool.and_eq_true_iff.mp e).2
theorem top (walk : Walk ktop) : PySem.Challenge.rw_pe0163_01.Holds := by
  w_on
  refine holds_law ((saidL.eq_1 _).symm.trans said_ok) fun said => ?_
  refine holds_openX (q := vw) (loose := []) (Xt := fun s => xlAt vw [] s && recOk [] s) (XP := XL vw []) (Yf := obsZ topA) (Ya := valZ topK 152 406) (d := lawD.1) (kwd := lawD.2) (N := 1804) left_fin (fun s e => xl_of s (Bool.and_eq_true_iff.mp e).1) XL.keeps lawD_eq lawD_p lawD_k rec_ok lawR_wr (by assumption) lawR_ok lawR_bare ?hw ?hc
  case hw => w_witness2
  case hc =>
    intro w s₀ s₁ mg mb G y fa o pm cd doc dV kV ho hd hcd hD hmg hg args vals as L hpre hlay hrd hwl hlo
    obtain ⟨ZA, ZI, ZN, ZT⟩ := z_facts topA_eq y
    have KX : Frag.In (topK w.params) s₁.heap := InK.keeps w s₀.heap s₁.heap ZI L.keeps
    have ZH : KT.Holds s₁.heap 1 0 (ktop w.params) := holds_top (ktop_eq w.params) ZA L.keeps
    refine Ground.open G ?_
    intro T B D TE TW
    wrow_args hpre hlay hrd hwl hlo
    obtain ⟨hat, hsz⟩ := script_at L
    have htk := script_toks L ZT
    rw [ZN] at hat hsz
    subst hat
    x_fa T KX hmg
    all_lens
    z_lists L; z_lens
    rename IntsAre _ _ => hi
    rename s₁.heap.get? 152 = _ => hol
    refine wpAny_mono (walk w s₁ _ _ ZH hsz hg htk hol hi (by omega)) (fun v s' h => good_of (fun _ => rfl) (by kernel_rfl) h) (fun _ _ h => False.elim h)
end Mine
end
section
open PySem PySem.W PySem.W.X PyProof.Rows
namespace Mine
theorem table_of {h h' : Heap} {c b : Nat} {o : Obj} {vs : Array Value} {l : List Value} (hc : h.get? c = some o) (h1 : o.cls = .type "code") (h2 : o.data = .fields vs) (h3 : vs[11]? = some (.ref b)) (h0 : h.get? b = some (tableOf [])) (h4 : h'.get? b = some (tableOf l)) : ∀ o, h.get? b = some o → asItWas h h' b o := by
  intro o' e
  obtain rfl := Option.some.inj (h0.symm.trans e)
  exact .inr (.inl ⟨⟨c, o, vs, hc, h1, h2, h3⟩, rfl, #[], l.toArray, rfl, by rw [h4]; simp [tableOf]⟩)
theorem law_walk : Walk ktop := by
  intro w s ns vs ht hsz hg htk hl hi hlen
  obtain ⟨h, g, dr, t, os⟩ := s
  dsimp only at ht hsz hg htk hl
  subst hg
  have kt : ∀ a o, (ktop w.params).get a = some o → h.get? a = some o := fun a o e => by
    have z := KT.Holds.get ht e
    rwa [Nat.one_mul, Nat.add_zero] at z
  have h30 := kt 30 (tableOf []) (by kernel_rfl)
  have h37 := kt 37 (tableOf []) (by kernel_rfl)
  have h107 := kt 107 (tableOf []) (by kernel_rfl)
  have h136 := kt 136 (tableOf []) (by kernel_rfl)
  have S : St w h (lwE 152 vs 0) := ⟨fun a o e _ => kt a o e, by omega, ⟨hl, h30, h37, h107, h136, trivial⟩, by show [152, 30, 37, 107, 136].Nodup; decide, by show ∀ a ∈ [152, 30, 37, 107, 136], 152 ≤ a ∨ a ∈ [30, 37, 107, 136]; decide⟩
  refine wpAny_call (law_ok (w := w) (sc := 152) (es := 0) hi hlen callerA h _ dr t os _ ⟨rfl, by decide, by decide⟩ S fun r h' t' E' q S' G => ?_)
  obtain ⟨rfl, l0, l1, l2, l3, rfl⟩ := q
  obtain ⟨k30, k37, k107, k136, k152, -⟩ := S'.at_
  have e : Ext [152, 30, 37, 107, 136] h h' := G.ext
  have A : ∀ b o, h.get? b = some o → asItWas h h' b o := fun b o q => by
    by_cases hb : b ∈ [152, 30, 37, 107, 136]
    · simp only [List.mem_cons, List.not_mem_nil, or_false] at hb
      rcases hb with rfl | rfl | rfl | rfl | rfl
      · exact .inl (by rw [k152, ← q, hl]; rfl)
      · exact table_of (kt 34 (o_34 w.params) (by kernel_rfl)) rfl rfl rfl h30 k30 o q
      · exact table_of (kt 41 (o_41 w.params) (by kernel_rfl)) rfl rfl rfl h37 k37 o q
      · exact table_of (kt 111 (o_111 w.params) (by kernel_rfl)) rfl rfl rfl h107 k107 o q
      · exact table_of (kt 140 (o_140 w.params) (by kernel_rfl)) rfl rfl rfl h136 k136 o q
    · exact .inl (e.1 b o q hb)
  refine ⟨rfl, ⟨A, fun b o q => ?_⟩, rfl, AllBare.of_eq rfl⟩
  by_cases hb : b ∈ [152, 30, 37, 107, 136]
  · simp only [List.mem_cons, List.not_mem_nil, or_false] at hb
    rcases hb with rfl | rfl | rfl | rfl | rfl
    · exact ⟨_, k152⟩
    · exact ⟨_, k30⟩
    · exact ⟨_, k37⟩
    · exact ⟨_, k107⟩
    · exact ⟨_, k136⟩
  · exact ⟨_, e.1 b o q hb⟩
theorem the_end : PySem.Challenge.rw_pe0163_01.Holds := top law_walk
end Mine
end
theorem PySem.Challenge.cw_pe0163_01_holds : PySem.Challenge.rw_pe0163_01.Holds :=
  Mine.the_end
