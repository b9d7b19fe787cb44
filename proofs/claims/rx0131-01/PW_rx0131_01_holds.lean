import PyProof.Rows.All
import Wide.All
import OpenK.AllK
import Wide.FinOn
import PySem.Challenge.RW_rx0131_01
open PySem PySem.W PySem.Calls PyProof.Rows
set_option Elab.async false
set_option maxRecDepth 100000
set_option linter.unusedVariables false
namespace Mine
section
/-- a text by its signs' numbers -/
abbrev Sx (l : List Nat) : Str := ⟨l.toArray⟩
noncomputable def special : List Nat := [40, 41, 91, 93, 123, 125, 63, 42, 43, 45, 124, 94, 36, 92, 46, 38, 126, 35, 32, 9, 10, 13, 11, 12]
noncomputable def fmTable : List (List (Int × Nat)) := [[(40960, 108), (49152, 115), (32768, 45), (24576, 98), (16384, 100), (8192, 99), (4096, 112)], [(256, 114)], [(128, 119)], [(2112, 115), (2048, 83), (64, 120)], [(32, 114)], [(16, 119)], [(1032, 115), (1024, 83), (8, 120)], [(4, 114)], [(2, 119)], [(513, 116), (512, 84), (1, 120)]]
/-- the table of the signs to be escaped, looked at -/
noncomputable def spE : List DictEntry → List Nat → Bool
  | [], [] => true
  | ⟨hash, .int k _, .str x _⟩ :: r, c :: cs => hash == hashInt k && k == (c : Int) && x == Sx [92, c] && spE r cs
  | _, _ => false
noncomputable def spObj : Obj → Bool
  | ⟨.type t, none, .dict es _, sl⟩ => t == "dict" && sl.isEmpty && spE es.toList special
  | _ => false
noncomputable def rowLit (q : Int × Nat) : WData := .tuple [.int q.1, .str (Sx [q.2])]
noncomputable def fmLit : WData := .tuple (fmTable.map fun ps => .tuple (ps.map rowLit))
end
section
abbrev pw : Program := PySem.Challenge.pw_rx0131_01
/-- the text without the names that it gives itself -/
noncomputable def viewQ : Program := view pw [0, 2, 3, 5, 6, 8, 9, 11, 12, 13, 14, 15, 16, 17, 18, 19, 20, 21, 22, 23, 24, 25, 26, 27, 28, 29, 30, 31, 32, 34, 35, 36, 37, 38, 40, 41, 42, 43, 44, 45, 46, 47, 48, 49, 50]
theorem recs_q : recsOf viewQ = recsOf pw := by kernel_rfl
noncomputable def looseQ : List Str := [Str.ofString "_twin_re_1", Str.ofString "_special_chars_map", Str.ofString "_filemode_table"]
noncomputable def lvQ : List (Str × WData) := [(Str.ofString "_filemode_table", fmLit)]
/-- the table of the signs to be escaped stands -/
noncomputable def spAt (s : Shared) : Bool := match s.heap.nsMap mainGlobals (Str.ofString "_special_chars_map") with
  | some (.ref a) => !(a == sysModules) && (s.heap.get? a).any spObj
  | _ => false
noncomputable def XtQ (s : Shared) : Bool := xlAt viewQ lvQ s && (recOk [] s && spAt s)
noncomputable def XPQ (mg : Str → Option Value) (h : Heap) : Prop := XL viewQ lvQ mg h ∧ ∃ a o, mg (Str.ofString "_special_chars_map") = some (.ref a) ∧ (a == sysModules) = false ∧ h.get? a = some o ∧ spObj o = true
theorem xpQ_of (s : Shared) (h : XtQ s = true) : XPQ (s.heap.nsMap mainGlobals) s.heap := by
  obtain ⟨h1, h2⟩ := Bool.and_eq_true_iff.mp h
  obtain ⟨_, h3⟩ := Bool.and_eq_true_iff.mp h2
  refine ⟨xl_of s h1, ?_⟩
  unfold spAt at h3
  split at h3
  · rename_i a e
    obtain ⟨h4, h5⟩ := Bool.and_eq_true_iff.mp h3
    cases q : s.heap.get? a with
    | none => rw [q] at h5; cases h5
    | some o => rw [q] at h5; exact ⟨a, o, e, by simpa using h4, q, h5⟩
  · cases h3
theorem xpQ_keeps (mg : Str → Option Value) (h h' : Heap) (x : XPQ mg h) (k : ∀ b o, h.get? b = some o → h'.get? b = some o) : XPQ mg h' :=
  ⟨XL.keeps mg h h' x.1 k, let ⟨a, o, h1, h2, h3, h4⟩ := x.2; ⟨a, o, h1, h2, k _ _ h3, h4⟩⟩
/-- a def of the text, by its place -/
noncomputable def fdAt (i : Nat) : Arguments × List Stmt × Scope := match pw.main.body[i]? with
  | some (.FunctionDef (name := _) (args := a) (body := b) (scope := s) ..) => (a, b, s)
  | _ => default
noncomputable def fdA (i : Nat) : Arguments := (fdAt i).1
noncomputable def fdB (i : Nat) : List Stmt := (fdAt i).2.1
noncomputable def fdS (i : Nat) : Scope := (fdAt i).2.2
/-! what stands behind the opening (heapA) and behind the top (heapZ) -/
noncomputable def ob0 (P : Params) : Obj := { cls := Value.type "dict", data := Data.dict #[{ hash := PyData.keyHash P (Str.ofString "__name__"), key := Value.str (Str.ofString "__name__") 1, val := Value.str (Str.ofString "builtins") 160 }, { hash := PyData.keyHash P (Str.ofString "__doc__"), key := Value.str (Str.ofString "__doc__") 2, val := Value.builtin "builtins.__doc__:str#opaque" }, { hash := PyData.keyHash P (Str.ofString "__package__"), key := Value.str (Str.ofString "__package__") 3, val := Value.builtin "builtins.__package__:str#opaque" }, { hash := PyData.keyHash P (Str.ofString "__loader__"), key := Value.str (Str.ofString "__loader__") 4, val := Value.builtin "builtins.__loader__:shared#opaque" }, { hash := PyData.keyHash P (Str.ofString "__spec__"), key := Value.str (Str.ofString "__spec__") 5, val := Value.builtin "builtins.__spec__#opaque" }, { hash := PyData.keyHash P (Str.ofString "__build_class__"), key := Value.str (Str.ofString "__build_class__") 6, val := Value.builtin "__build_class__" }, { hash := PyData.keyHash P (({ cps := #[95, 95, 105, 109, 112, 111, 114, 116, 95, 95] } : Str)), key := Value.str (({ cps := #[95, 95, 105, 109, 112, 111, 114, 116, 95, 95] } : Str)) 7, val := Value.builtin "__import__" }, { hash := PyData.keyHash P (Str.ofString "abs"), key := Value.str (Str.ofString "abs") 8, val := Value.builtin "abs" }, { hash := PyData.keyHash P (Str.ofString "all"), key := Value.str (Str.ofString "all") 9, val := Value.builtin "all" }, { hash := PyData.keyHash P (Str.ofString "any"), key := Value.str (Str.ofString "any") 10, val := Value.builtin "any" }, { hash := PyData.keyHash P (Str.ofString "ascii"), key := Value.str (Str.ofString "ascii") 11, val := Value.builtin "ascii" }, { hash := PyData.keyHash P (Str.ofString "bin"), key := Value.str (Str.ofString "bin") 12, val := Value.builtin "bin" }, { hash := PyData.keyHash P (Str.ofString "breakpoint"), key := Value.str (Str.ofString "breakpoint") 13, val := Value.builtin "breakpoint" }, { hash := PyData.keyHash P (Str.ofString "callable"), key := Value.str (Str.ofString "callable") 14, val := Value.builtin "callable" }, { hash := PyData.keyHash P (Str.ofString "chr"), key := Value.str (Str.ofString "chr") 15, val := Value.builtin "chr" }, { hash := PyData.keyHash P (Str.ofString "compile"), key := Value.str (Str.ofString "compile") 16, val := Value.builtin "compile" }, { hash := PyData.keyHash P (Str.ofString "delattr"), key := Value.str (Str.ofString "delattr") 17, val := Value.builtin "delattr" }, { hash := PyData.keyHash P (Str.ofString "dir"), key := Value.str (Str.ofString "dir") 18, val := Value.builtin "dir" }, { hash := PyData.keyHash P (Str.ofString "divmod"), key := Value.str (Str.ofString "divmod") 19, val := Value.builtin "divmod" }, { hash := PyData.keyHash P (Str.ofString "eval"), key := Value.str (Str.ofString "eval") 20, val := Value.builtin "eval" }, { hash := PyData.keyHash P (Str.ofString "exec"), key := Value.str (Str.ofString "exec") 21, val := Value.builtin "exec" }, { hash := PyData.keyHash P (Str.ofString "format"), key := Value.str (Str.ofString "format") 22, val := Value.builtin "format" }, { hash := PyData.keyHash P (Str.ofString "getattr"), key := Value.str (Str.ofString "getattr") 23, val := Value.builtin "getattr" }, { hash := PyData.keyHash P (Str.ofString "globals"), key := Value.str (Str.ofString "globals") 24, val := Value.builtin "globals" }, { hash := PyData.keyHash P (Str.ofString "hasattr"), key := Value.str (Str.ofString "hasattr") 25, val := Value.builtin "hasattr" }, { hash := PyData.keyHash P (Str.ofString "hash"), key := Value.str (Str.ofString "hash") 26, val := Value.builtin "hash" }, { hash := PyData.keyHash P (Str.ofString "hex"), key := Value.str (Str.ofString "hex") 27, val := Value.builtin "hex" }, { hash := PyData.keyHash P (Str.ofString "id"), key := Value.str (Str.ofString "id") 28, val := Value.builtin "id" }, { hash := PyData.keyHash P (Str.ofString "input"), key := Value.str (Str.ofString "input") 29, val := Value.builtin "input" }, { hash := PyData.keyHash P (Str.ofString "isinstance"), key := Value.str (Str.ofString "isinstance") 30, val := Value.builtin "isinstance" }, { hash := PyData.keyHash P (Str.ofString "issubclass"), key := Value.str (Str.ofString "issubclass") 31, val := Value.builtin "issubclass" }, { hash := PyData.keyHash P (Str.ofString "iter"), key := Value.str (Str.ofString "iter") 32, val := Value.builtin "iter" }, { hash := PyData.keyHash P (Str.ofString "aiter"), key := Value.str (Str.ofString "aiter") 33, val := Value.builtin "aiter" }, { hash := PyData.keyHash P (Str.ofString "len"), key := Value.str (Str.ofString "len") 34, val := Value.builtin "len" }, { hash := PyData.keyHash P (Str.ofString "locals"), key := Value.str (Str.ofString "locals") 35, val := Value.builtin "locals" }, { hash := PyData.keyHash P (Str.ofString "max"), key := Value.str (Str.ofString "max") 36, val := Value.builtin "max" }, { hash := PyData.keyHash P (Str.ofString "min"), key := Value.str (Str.ofString "min") 37, val := Value.builtin "min" }, { hash := PyData.keyHash P (Str.ofString "next"), key := Value.str (Str.ofString "next") 38, val := Value.builtin "next" }, { hash := PyData.keyHash P (Str.ofString "anext"), key := Value.str (Str.ofString "anext") 39, val := Value.builtin "anext" }, { hash := PyData.keyHash P (Str.ofString "oct"), key := Value.str (Str.ofString "oct") 40, val := Value.builtin "oct" }, { hash := PyData.keyHash P (Str.ofString "ord"), key := Value.str (Str.ofString "ord") 41, val := Value.builtin "ord" }, { hash := PyData.keyHash P (Str.ofString "pow"), key := Value.str (Str.ofString "pow") 42, val := Value.builtin "pow" }, { hash := PyData.keyHash P (Str.ofString "print"), key := Value.str (Str.ofString "print") 43, val := Value.builtin "print" }, { hash := PyData.keyHash P (Str.ofString "repr"), key := Value.str (Str.ofString "repr") 44, val := Value.builtin "repr" }, { hash := PyData.keyHash P (Str.ofString "round"), key := Value.str (Str.ofString "round") 45, val := Value.builtin "round" }, { hash := PyData.keyHash P (Str.ofString "setattr"), key := Value.str (Str.ofString "setattr") 46, val := Value.builtin "setattr" }, { hash := PyData.keyHash P (Str.ofString "sorted"), key := Value.str (Str.ofString "sorted") 47, val := Value.builtin "sorted" }, { hash := PyData.keyHash P (Str.ofString "sum"), key := Value.str (Str.ofString "sum") 48, val := Value.builtin "sum" }, { hash := PyData.keyHash P (Str.ofString "vars"), key := Value.str (Str.ofString "vars") 49, val := Value.builtin "vars" }, { hash := PyData.keyHash P (Str.ofString "None"), key := Value.str (Str.ofString "None") 50, val := Value.none }, { hash := PyData.keyHash P (Str.ofString "Ellipsis"), key := Value.str (Str.ofString "Ellipsis") 51, val := Value.ellipsis }, { hash := PyData.keyHash P (Str.ofString "NotImplemented"), key := Value.str (Str.ofString "NotImplemented") 52, val := Value.notImplemented }, { hash := PyData.keyHash P (Str.ofString "False"), key := Value.str (Str.ofString "False") 53, val := Value.bool false }, { hash := PyData.keyHash P (Str.ofString "True"), key := Value.str (Str.ofString "True") 54, val := Value.bool true }, { hash := PyData.keyHash P (Str.ofString "bool"), key := Value.str (Str.ofString "bool") 55, val := Value.type "bool" }, { hash := PyData.keyHash P (Str.ofString "memoryview"), key := Value.str (Str.ofString "memoryview") 56, val := Value.type "memoryview" }, { hash := PyData.keyHash P (Str.ofString "bytearray"), key := Value.str (Str.ofString "bytearray") 57, val := Value.type "bytearray" }, { hash := PyData.keyHash P (Str.ofString "bytes"), key := Value.str (Str.ofString "bytes") 58, val := Value.type "bytes" }, { hash := PyData.keyHash P (Str.ofString "classmethod"), key := Value.str (Str.ofString "classmethod") 59, val := Value.type "classmethod" }, { hash := PyData.keyHash P (Str.ofString "complex"), key := Value.str (Str.ofString "complex") 60, val := Value.type "complex" }, { hash := PyData.keyHash P (Str.ofString "dict"), key := Value.str (Str.ofString "dict") 61, val := Value.type "dict" }, { hash := PyData.keyHash P (Str.ofString "enumerate"), key := Value.str (Str.ofString "enumerate") 62, val := Value.type "enumerate" }, { hash := PyData.keyHash P (Str.ofString "filter"), key := Value.str (Str.ofString "filter") 63, val := Value.type "filter" }, { hash := PyData.keyHash P (Str.ofString "float"), key := Value.str (Str.ofString "float") 64, val := Value.type "float" }, { hash := PyData.keyHash P (Str.ofString "frozenset"), key := Value.str (Str.ofString "frozenset") 65, val := Value.type "frozenset" }, { hash := PyData.keyHash P (Str.ofString "property"), key := Value.str (Str.ofString "property") 66, val := Value.type "property" }, { hash := PyData.keyHash P (Str.ofString "int"), key := Value.str (Str.ofString "int") 67, val := Value.type "int" }, { hash := PyData.keyHash P (Str.ofString "list"), key := Value.str (Str.ofString "list") 68, val := Value.type "list" }, { hash := PyData.keyHash P (Str.ofString "map"), key := Value.str (Str.ofString "map") 69, val := Value.type "map" }, { hash := PyData.keyHash P (Str.ofString "object"), key := Value.str (Str.ofString "object") 70, val := Value.type "object" }, { hash := PyData.keyHash P (Str.ofString "range"), key := Value.str (Str.ofString "range") 71, val := Value.type "range" }, { hash := PyData.keyHash P (Str.ofString "reversed"), key := Value.str (Str.ofString "reversed") 72, val := Value.type "reversed" }, { hash := PyData.keyHash P (Str.ofString "set"), key := Value.str (Str.ofString "set") 73, val := Value.type "set" }, { hash := PyData.keyHash P (Str.ofString "slice"), key := Value.str (Str.ofString "slice") 74, val := Value.type "slice" }, { hash := PyData.keyHash P (Str.ofString "staticmethod"), key := Value.str (Str.ofString "staticmethod") 75, val := Value.type "staticmethod" }, { hash := PyData.keyHash P (Str.ofString "str"), key := Value.str (Str.ofString "str") 76, val := Value.type "str" }, { hash := PyData.keyHash P (Str.ofString "super"), key := Value.str (Str.ofString "super") 77, val := Value.type "super" }, { hash := PyData.keyHash P (Str.ofString "tuple"), key := Value.str (Str.ofString "tuple") 78, val := Value.type "tuple" }, { hash := PyData.keyHash P (Str.ofString "type"), key := Value.str (Str.ofString "type") 79, val := Value.type "type" }, { hash := PyData.keyHash P (Str.ofString "zip"), key := Value.str (Str.ofString "zip") 80, val := Value.type "zip" }, { hash := PyData.keyHash P (Str.ofString "__debug__"), key := Value.str (Str.ofString "__debug__") 81, val := Value.bool true }, { hash := PyData.keyHash P (Str.ofString "BaseException"), key := Value.str (Str.ofString "BaseException") 82, val := Value.type "BaseException" }, { hash := PyData.keyHash P (Str.ofString "BaseExceptionGroup"), key := Value.str (Str.ofString "BaseExceptionGroup") 83, val := Value.type "BaseExceptionGroup" }, { hash := PyData.keyHash P (Str.ofString "Exception"), key := Value.str (Str.ofString "Exception") 84, val := Value.type "Exception" }, { hash := PyData.keyHash P (Str.ofString "GeneratorExit"), key := Value.str (Str.ofString "GeneratorExit") 85, val := Value.type "GeneratorExit" }, { hash := PyData.keyHash P (Str.ofString "KeyboardInterrupt"), key := Value.str (Str.ofString "KeyboardInterrupt") 86, val := Value.type "KeyboardInterrupt" }, { hash := PyData.keyHash P (Str.ofString "SystemExit"), key := Value.str (Str.ofString "SystemExit") 87, val := Value.type "SystemExit" }, { hash := PyData.keyHash P (Str.ofString "ArithmeticError"), key := Value.str (Str.ofString "ArithmeticError") 88, val := Value.type "ArithmeticError" }, { hash := PyData.keyHash P (Str.ofString "AssertionError"), key := Value.str (Str.ofString "AssertionError") 89, val := Value.type "AssertionError" }, { hash := PyData.keyHash P (Str.ofString "AttributeError"), key := Value.str (Str.ofString "AttributeError") 90, val := Value.type "AttributeError" }, { hash := PyData.keyHash P (Str.ofString "BufferError"), key := Value.str (Str.ofString "BufferError") 91, val := Value.type "BufferError" }, { hash := PyData.keyHash P (Str.ofString "EOFError"), key := Value.str (Str.ofString "EOFError") 92, val := Value.type "EOFError" }, { hash := PyData.keyHash P (Str.ofString "ImportError"), key := Value.str (Str.ofString "ImportError") 93, val := Value.type "ImportError" }, { hash := PyData.keyHash P (Str.ofString "LookupError"), key := Value.str (Str.ofString "LookupError") 94, val := Value.type "LookupError" }, { hash := PyData.keyHash P (Str.ofString "MemoryError"), key := Value.str (Str.ofString "MemoryError") 95, val := Value.type "MemoryError" }, { hash := PyData.keyHash P (Str.ofString "NameError"), key := Value.str (Str.ofString "NameError") 96, val := Value.type "NameError" }, { hash := PyData.keyHash P (Str.ofString "OSError"), key := Value.str (Str.ofString "OSError") 97, val := Value.type "OSError" }, { hash := PyData.keyHash P (Str.ofString "ReferenceError"), key := Value.str (Str.ofString "ReferenceError") 98, val := Value.type "ReferenceError" }, { hash := PyData.keyHash P (Str.ofString "RuntimeError"), key := Value.str (Str.ofString "RuntimeError") 99, val := Value.type "RuntimeError" }, { hash := PyData.keyHash P (Str.ofString "StopAsyncIteration"), key := Value.str (Str.ofString "StopAsyncIteration") 100, val := Value.type "StopAsyncIteration" }, { hash := PyData.keyHash P (Str.ofString "StopIteration"), key := Value.str (Str.ofString "StopIteration") 101, val := Value.type "StopIteration" }, { hash := PyData.keyHash P (Str.ofString "SyntaxError"), key := Value.str (Str.ofString "SyntaxError") 102, val := Value.type "SyntaxError" }, { hash := PyData.keyHash P (Str.ofString "SystemError"), key := Value.str (Str.ofString "SystemError") 103, val := Value.type "SystemError" }, { hash := PyData.keyHash P (Str.ofString "TypeError"), key := Value.str (Str.ofString "TypeError") 104, val := Value.type "TypeError" }, { hash := PyData.keyHash P (Str.ofString "ValueError"), key := Value.str (Str.ofString "ValueError") 105, val := Value.type "ValueError" }, { hash := PyData.keyHash P (Str.ofString "Warning"), key := Value.str (Str.ofString "Warning") 106, val := Value.type "Warning" }, { hash := PyData.keyHash P (Str.ofString "FloatingPointError"), key := Value.str (Str.ofString "FloatingPointError") 107, val := Value.type "FloatingPointError" }, { hash := PyData.keyHash P (Str.ofString "OverflowError"), key := Value.str (Str.ofString "OverflowError") 108, val := Value.type "OverflowError" }, { hash := PyData.keyHash P (Str.ofString "ZeroDivisionError"), key := Value.str (Str.ofString "ZeroDivisionError") 109, val := Value.type "ZeroDivisionError" }, { hash := PyData.keyHash P (Str.ofString "BytesWarning"), key := Value.str (Str.ofString "BytesWarning") 110, val := Value.type "BytesWarning" }, { hash := PyData.keyHash P (Str.ofString "DeprecationWarning"), key := Value.str (Str.ofString "DeprecationWarning") 111, val := Value.type "DeprecationWarning" }, { hash := PyData.keyHash P (Str.ofString "EncodingWarning"), key := Value.str (Str.ofString "EncodingWarning") 112, val := Value.type "EncodingWarning" }, { hash := PyData.keyHash P (Str.ofString "FutureWarning"), key := Value.str (Str.ofString "FutureWarning") 113, val := Value.type "FutureWarning" }, { hash := PyData.keyHash P (Str.ofString "ImportWarning"), key := Value.str (Str.ofString "ImportWarning") 114, val := Value.type "ImportWarning" }, { hash := PyData.keyHash P (({ cps := #[80, 101, 110, 100, 105, 110, 103, 68, 101, 112, 114, 101, 99, 97, 116, 105, 111, 110, 87, 97, 114, 110, 105, 110, 103] } : Str)), key := Value.str (({ cps := #[80, 101, 110, 100, 105, 110, 103, 68, 101, 112, 114, 101, 99, 97, 116, 105, 111, 110, 87, 97, 114, 110, 105, 110, 103] } : Str)) 115, val := Value.type "PendingDeprecationWarning" }, { hash := PyData.keyHash P (Str.ofString "ResourceWarning"), key := Value.str (Str.ofString "ResourceWarning") 116, val := Value.type "ResourceWarning" }, { hash := PyData.keyHash P (Str.ofString "RuntimeWarning"), key := Value.str (Str.ofString "RuntimeWarning") 117, val := Value.type "RuntimeWarning" }, { hash := PyData.keyHash P (Str.ofString "SyntaxWarning"), key := Value.str (Str.ofString "SyntaxWarning") 118, val := Value.type "SyntaxWarning" }, { hash := PyData.keyHash P (Str.ofString "UnicodeWarning"), key := Value.str (Str.ofString "UnicodeWarning") 119, val := Value.type "UnicodeWarning" }, { hash := PyData.keyHash P (Str.ofString "UserWarning"), key := Value.str (Str.ofString "UserWarning") 120, val := Value.type "UserWarning" }, { hash := PyData.keyHash P (Str.ofString "BlockingIOError"), key := Value.str (Str.ofString "BlockingIOError") 121, val := Value.type "BlockingIOError" }, { hash := PyData.keyHash P (Str.ofString "ChildProcessError"), key := Value.str (Str.ofString "ChildProcessError") 122, val := Value.type "ChildProcessError" }, { hash := PyData.keyHash P (Str.ofString "ConnectionError"), key := Value.str (Str.ofString "ConnectionError") 123, val := Value.type "ConnectionError" }, { hash := PyData.keyHash P (Str.ofString "FileExistsError"), key := Value.str (Str.ofString "FileExistsError") 124, val := Value.type "FileExistsError" }, { hash := PyData.keyHash P (Str.ofString "FileNotFoundError"), key := Value.str (Str.ofString "FileNotFoundError") 125, val := Value.type "FileNotFoundError" }, { hash := PyData.keyHash P (Str.ofString "InterruptedError"), key := Value.str (Str.ofString "InterruptedError") 126, val := Value.type "InterruptedError" }, { hash := PyData.keyHash P (Str.ofString "IsADirectoryError"), key := Value.str (Str.ofString "IsADirectoryError") 127, val := Value.type "IsADirectoryError" }, { hash := PyData.keyHash P (Str.ofString "NotADirectoryError"), key := Value.str (Str.ofString "NotADirectoryError") 128, val := Value.type "NotADirectoryError" }, { hash := PyData.keyHash P (Str.ofString "PermissionError"), key := Value.str (Str.ofString "PermissionError") 129, val := Value.type "PermissionError" }, { hash := PyData.keyHash P (Str.ofString "ProcessLookupError"), key := Value.str (Str.ofString "ProcessLookupError") 130, val := Value.type "ProcessLookupError" }, { hash := PyData.keyHash P (Str.ofString "TimeoutError"), key := Value.str (Str.ofString "TimeoutError") 131, val := Value.type "TimeoutError" }, { hash := PyData.keyHash P (Str.ofString "IndentationError"), key := Value.str (Str.ofString "IndentationError") 132, val := Value.type "IndentationError" }, { hash := PyData.keyHash P (Str.ofString "_IncompleteInputError"), key := Value.str (Str.ofString "_IncompleteInputError") 133, val := Value.type "_IncompleteInputError" }, { hash := PyData.keyHash P (Str.ofString "IndexError"), key := Value.str (Str.ofString "IndexError") 134, val := Value.type "IndexError" }, { hash := PyData.keyHash P (Str.ofString "KeyError"), key := Value.str (Str.ofString "KeyError") 135, val := Value.type "KeyError" }, { hash := PyData.keyHash P (Str.ofString "ModuleNotFoundError"), key := Value.str (Str.ofString "ModuleNotFoundError") 136, val := Value.type "ModuleNotFoundError" }, { hash := PyData.keyHash P (Str.ofString "NotImplementedError"), key := Value.str (Str.ofString "NotImplementedError") 137, val := Value.type "NotImplementedError" }, { hash := PyData.keyHash P (Str.ofString "PythonFinalizationError"), key := Value.str (Str.ofString "PythonFinalizationError") 138, val := Value.type "PythonFinalizationError" }, { hash := PyData.keyHash P (Str.ofString "RecursionError"), key := Value.str (Str.ofString "RecursionError") 139, val := Value.type "RecursionError" }, { hash := PyData.keyHash P (Str.ofString "UnboundLocalError"), key := Value.str (Str.ofString "UnboundLocalError") 140, val := Value.type "UnboundLocalError" }, { hash := PyData.keyHash P (Str.ofString "UnicodeError"), key := Value.str (Str.ofString "UnicodeError") 141, val := Value.type "UnicodeError" }, { hash := PyData.keyHash P (Str.ofString "BrokenPipeError"), key := Value.str (Str.ofString "BrokenPipeError") 142, val := Value.type "BrokenPipeError" }, { hash := PyData.keyHash P (Str.ofString "ConnectionAbortedError"), key := Value.str (Str.ofString "ConnectionAbortedError") 143, val := Value.type "ConnectionAbortedError" }, { hash := PyData.keyHash P (Str.ofString "ConnectionRefusedError"), key := Value.str (Str.ofString "ConnectionRefusedError") 144, val := Value.type "ConnectionRefusedError" }, { hash := PyData.keyHash P (Str.ofString "ConnectionResetError"), key := Value.str (Str.ofString "ConnectionResetError") 145, val := Value.type "ConnectionResetError" }, { hash := PyData.keyHash P (Str.ofString "TabError"), key := Value.str (Str.ofString "TabError") 146, val := Value.type "TabError" }, { hash := PyData.keyHash P (Str.ofString "UnicodeDecodeError"), key := Value.str (Str.ofString "UnicodeDecodeError") 147, val := Value.type "UnicodeDecodeError" }, { hash := PyData.keyHash P (Str.ofString "UnicodeEncodeError"), key := Value.str (Str.ofString "UnicodeEncodeError") 148, val := Value.type "UnicodeEncodeError" }, { hash := PyData.keyHash P (Str.ofString "UnicodeTranslateError"), key := Value.str (Str.ofString "UnicodeTranslateError") 149, val := Value.type "UnicodeTranslateError" }, { hash := PyData.keyHash P (Str.ofString "ExceptionGroup"), key := Value.str (Str.ofString "ExceptionGroup") 150, val := Value.type "ExceptionGroup" }, { hash := PyData.keyHash P (Str.ofString "EnvironmentError"), key := Value.str (Str.ofString "EnvironmentError") 151, val := Value.type "OSError" }, { hash := PyData.keyHash P (Str.ofString "IOError"), key := Value.str (Str.ofString "IOError") 152, val := Value.type "OSError" }, { hash := PyData.keyHash P (Str.ofString "open"), key := Value.str (Str.ofString "open") 153, val := Value.builtin "open" }, { hash := PyData.keyHash P (Str.ofString "quit"), key := Value.str (Str.ofString "quit") 154, val := Value.builtin "builtins.quit#opaque" }, { hash := PyData.keyHash P (Str.ofString "exit"), key := Value.str (Str.ofString "exit") 155, val := Value.builtin "builtins.exit#opaque" }, { hash := PyData.keyHash P (Str.ofString "copyright"), key := Value.str (Str.ofString "copyright") 156, val := Value.builtin "builtins.copyright#opaque" }, { hash := PyData.keyHash P (Str.ofString "credits"), key := Value.str (Str.ofString "credits") 157, val := Value.builtin "builtins.credits#opaque" }, { hash := PyData.keyHash P (Str.ofString "license"), key := Value.str (Str.ofString "license") 158, val := Value.builtin "builtins.license#opaque" }, { hash := PyData.keyHash P (Str.ofString "help"), key := Value.str (Str.ofString "help") 159, val := Value.builtin "builtins.help#opaque" }] 159 }
noncomputable def ob1 (P : Params) : Obj := { cls := Value.type "dict", data := Data.dict #[{ hash := PyData.keyHash P (Str.ofString "builtins"), key := Value.str (Str.ofString "builtins") 162, val := Value.ref 4 }, { hash := PyData.keyHash P (Str.ofString "__main__"), key := Value.str (Str.ofString "__main__") 163, val := Value.ref 5 }, { hash := PyData.keyHash P (Str.ofString "_sre"), key := Value.str (Str.ofString "_sre") 244, val := Value.ref 12 }] 3 }
noncomputable def ob2 (P : Params) : Obj := { cls := Value.none, data := Data.dict #[{ hash := PyData.keyHash P (({ cps := #[105, 109, 112, 111, 114, 116, 46, 108, 111, 97, 100, 101, 100, 46, 95, 115, 114, 101] } : Str)), key := Value.str (({ cps := #[105, 109, 112, 111, 114, 116, 46, 108, 111, 97, 100, 101, 100, 46, 95, 115, 114, 101] } : Str)) 183, val := Value.bool true }, { hash := PyData.keyHash P (({ cps := #[99, 108, 97, 115, 115, 46, 95, 102, 114, 111, 122, 101, 110, 95, 105, 109, 112, 111, 114, 116, 108, 105, 98, 46, 66, 117, 105, 108, 116, 105, 110, 73, 109, 112, 111, 114, 116, 101, 114] } : Str)), key := Value.str (({ cps := #[99, 108, 97, 115, 115, 46, 95, 102, 114, 111, 122, 101, 110, 95, 105, 109, 112, 111, 114, 116, 108, 105, 98, 46, 66, 117, 105, 108, 116, 105, 110, 73, 109, 112, 111, 114, 116, 101, 114] } : Str)) 185, val := Value.ref 14 }, { hash := PyData.keyHash P (({ cps := #[119, 97, 116, 99, 104, 101, 100, 46, 105, 109, 112, 111, 114, 116] } : Str)), key := Value.str (({ cps := #[119, 97, 116, 99, 104, 101, 100, 46, 105, 109, 112, 111, 114, 116] } : Str)) 206, val := Value.ref 18 }, { hash := PyData.keyHash P (({ cps := #[99, 108, 97, 115, 115, 46, 95, 102, 114, 111, 122, 101, 110, 95, 105, 109, 112, 111, 114, 116, 108, 105, 98, 46, 77, 111, 100, 117, 108, 101, 83, 112, 101, 99] } : Str)), key := Value.str (({ cps := #[99, 108, 97, 115, 115, 46, 95, 102, 114, 111, 122, 101, 110, 95, 105, 109, 112, 111, 114, 116, 108, 105, 98, 46, 77, 111, 100, 117, 108, 101, 83, 112, 101, 99] } : Str)) 216, val := Value.ref 22 }, { hash := PyData.keyHash P (Str.ofString "sys.modules.booked-epoch"), key := Value.str (Str.ofString "sys.modules.booked-epoch") 245, val := Value.int 3 0 }, { hash := PyData.keyHash P (({ cps := #[105, 109, 112, 111, 114, 116, 46, 108, 97, 116, 101, 114, 45, 108, 97, 105, 100, 46, 95, 115, 114, 101] } : Str)), key := Value.str (({ cps := #[105, 109, 112, 111, 114, 116, 46, 108, 97, 116, 101, 114, 45, 108, 97, 105, 100, 46, 95, 115, 114, 101] } : Str)) 270, val := Value.bool true }, { hash := PyData.keyHash P (Str.ofString "watched.library"), key := Value.str (Str.ofString "watched.library") 272, val := Value.ref 27 }, { hash := PyData.keyHash P (Str.ofString "watched.library-objects"), key := Value.str (Str.ofString "watched.library-objects") 0, val := Value.str (({ cps := #[12] } : Str)) 0 }, { hash := PyData.keyHash P (({ cps := #[119, 97, 116, 99, 104, 101, 100, 46, 108, 105, 98, 114, 97, 114, 121, 45, 100, 101, 101, 112, 46, 95, 115, 114, 101] } : Str)), key := Value.str (({ cps := #[119, 97, 116, 99, 104, 101, 100, 46, 108, 105, 98, 114, 97, 114, 121, 45, 100, 101, 101, 112, 46, 95, 115, 114, 101] } : Str)) 273, val := Value.str (({ cps := #[4, 0, 0, 11, 4, 0, 0, 11, 4, 0, 0, 3, 4, 0, 0, 11, 8, 4, 100, 105, 99, 116, 2] } : Str)) 0 }] 9 }
noncomputable def ob3 (P : Params) : Obj := { cls := Value.type "dict", data := Data.dict #[{ hash := PyData.keyHash P (Str.ofString "__name__"), key := Value.str (Str.ofString "__name__") 165, val := Value.str (Str.ofString "law_rx0131_01") 642 }, { hash := PyData.keyHash P (Str.ofString "__doc__"), key := Value.str (Str.ofString "__doc__") 166, val := Value.none }, { hash := PyData.keyHash P (Str.ofString "__package__"), key := Value.str (Str.ofString "__package__") 167, val := Value.none }, { hash := PyData.keyHash P (Str.ofString "__loader__"), key := Value.str (Str.ofString "__loader__") 168, val := Value.builtin "__main__.__loader__#opaque" }, { hash := PyData.keyHash P (Str.ofString "__spec__"), key := Value.str (Str.ofString "__spec__") 169, val := Value.none }, { hash := PyData.keyHash P (Str.ofString "__annotations__"), key := Value.str (Str.ofString "__annotations__") 170, val := Value.ref 6 }, { hash := PyData.keyHash P (Str.ofString "__builtins__"), key := Value.str (Str.ofString "__builtins__") 171, val := Value.ref 4 }, { hash := PyData.keyHash P (Str.ofString "__file__"), key := Value.str (Str.ofString "__file__") 173, val := Value.str (Str.ofString "/claim/cut.py") 172 }, { hash := PyData.keyHash P (Str.ofString "__cached__"), key := Value.str (Str.ofString "__cached__") 174, val := Value.none }, { hash := PyData.keyHash P (Str.ofString "_sre"), key := Value.str (Str.ofString "_sre") 275, val := Value.ref 12 }, { hash := PyData.keyHash P (Str.ofString "_twin_re_1"), key := Value.str (Str.ofString "_twin_re_1") 321, val := Value.ref 36 }, { hash := PyData.keyHash P (Str.ofString "translate"), key := Value.str (Str.ofString "translate") 330, val := Value.ref 43 }, { hash := PyData.keyHash P (Str.ofString "_special_chars_map"), key := Value.str (Str.ofString "_special_chars_map") 478, val := Value.ref 45 }, { hash := PyData.keyHash P (Str.ofString "escape"), key := Value.str (Str.ofString "escape") 485, val := Value.ref 55 }, { hash := PyData.keyHash P (Str.ofString "_translate"), key := Value.str (Str.ofString "_translate") 506, val := Value.ref 62 }, { hash := PyData.keyHash P (Str.ofString "_join_translated_parts"), key := Value.str (Str.ofString "_join_translated_parts") 519, val := Value.ref 69 }, { hash := PyData.keyHash P (Str.ofString "S_IFMT"), key := Value.str (Str.ofString "S_IFMT") 528, val := Value.ref 76 }, { hash := PyData.keyHash P (Str.ofString "S_IFDIR"), key := Value.str (Str.ofString "S_IFDIR") 530, val := Value.int 16384 529 }, { hash := PyData.keyHash P (Str.ofString "S_IFCHR"), key := Value.str (Str.ofString "S_IFCHR") 532, val := Value.int 8192 531 }, { hash := PyData.keyHash P (Str.ofString "S_IFBLK"), key := Value.str (Str.ofString "S_IFBLK") 534, val := Value.int 24576 533 }, { hash := PyData.keyHash P (Str.ofString "S_IFREG"), key := Value.str (Str.ofString "S_IFREG") 536, val := Value.int 32768 535 }, { hash := PyData.keyHash P (Str.ofString "S_IFIFO"), key := Value.str (Str.ofString "S_IFIFO") 538, val := Value.int 4096 537 }, { hash := PyData.keyHash P (Str.ofString "S_IFLNK"), key := Value.str (Str.ofString "S_IFLNK") 540, val := Value.int 40960 539 }, { hash := PyData.keyHash P (Str.ofString "S_IFSOCK"), key := Value.str (Str.ofString "S_IFSOCK") 542, val := Value.int 49152 541 }, { hash := PyData.keyHash P (Str.ofString "S_ISUID"), key := Value.str (Str.ofString "S_ISUID") 544, val := Value.int 2048 543 }, { hash := PyData.keyHash P (Str.ofString "S_ISGID"), key := Value.str (Str.ofString "S_ISGID") 546, val := Value.int 1024 545 }, { hash := PyData.keyHash P (Str.ofString "S_ISVTX"), key := Value.str (Str.ofString "S_ISVTX") 548, val := Value.int 512 547 }, { hash := PyData.keyHash P (Str.ofString "S_IRUSR"), key := Value.str (Str.ofString "S_IRUSR") 550, val := Value.int 256 549 }, { hash := PyData.keyHash P (Str.ofString "S_IWUSR"), key := Value.str (Str.ofString "S_IWUSR") 552, val := Value.int 128 551 }, { hash := PyData.keyHash P (Str.ofString "S_IXUSR"), key := Value.str (Str.ofString "S_IXUSR") 554, val := Value.int 64 553 }, { hash := PyData.keyHash P (Str.ofString "S_IRGRP"), key := Value.str (Str.ofString "S_IRGRP") 556, val := Value.int 32 555 }, { hash := PyData.keyHash P (Str.ofString "S_IWGRP"), key := Value.str (Str.ofString "S_IWGRP") 558, val := Value.int 16 557 }, { hash := PyData.keyHash P (Str.ofString "S_IXGRP"), key := Value.str (Str.ofString "S_IXGRP") 560, val := Value.int 8 559 }, { hash := PyData.keyHash P (Str.ofString "S_IROTH"), key := Value.str (Str.ofString "S_IROTH") 562, val := Value.int 4 561 }, { hash := PyData.keyHash P (Str.ofString "S_IWOTH"), key := Value.str (Str.ofString "S_IWOTH") 564, val := Value.int 2 563 }, { hash := PyData.keyHash P (Str.ofString "S_IXOTH"), key := Value.str (Str.ofString "S_IXOTH") 566, val := Value.int 1 565 }, { hash := PyData.keyHash P (Str.ofString "_filemode_table"), key := Value.str (Str.ofString "_filemode_table") 592, val := Value.ref 109 }, { hash := PyData.keyHash P (Str.ofString "filemode"), key := Value.str (Str.ofString "filemode") 604, val := Value.ref 116 }, { hash := PyData.keyHash P (({ cps := #[95, 114, 97, 105, 115, 101, 95, 115, 101, 114, 105, 97, 108, 105, 122, 97, 116, 105, 111, 110, 95, 101, 114, 114, 111, 114] } : Str)), key := Value.str (({ cps := #[95, 114, 97, 105, 115, 101, 95, 115, 101, 114, 105, 97, 108, 105, 122, 97, 116, 105, 111, 110, 95, 101, 114, 114, 111, 114] } : Str)) 613, val := Value.ref 123 }, { hash := PyData.keyHash P (Str.ofString "_escape_cdata"), key := Value.str (Str.ofString "_escape_cdata") 620, val := Value.ref 130 }, { hash := PyData.keyHash P (Str.ofString "_escape_attrib"), key := Value.str (Str.ofString "_escape_attrib") 627, val := Value.ref 137 }, { hash := PyData.keyHash P (Str.ofString "_escape_cdata_c14n"), key := Value.str (Str.ofString "_escape_cdata_c14n") 634, val := Value.ref 144 }, { hash := PyData.keyHash P (Str.ofString "_escape_attrib_c14n"), key := Value.str (Str.ofString "_escape_attrib_c14n") 641, val := Value.ref 151 }, { hash := PyData.keyHash P (Str.ofString "_law_mode"), key := Value.str (Str.ofString "_law_mode") 649, val := Value.ref 156 }, { hash := PyData.keyHash P (Str.ofString "_law_row"), key := Value.str (Str.ofString "_law_row") 655, val := Value.ref 161 }, { hash := PyData.keyHash P (Str.ofString "_law_pattern"), key := Value.str (Str.ofString "_law_pattern") 661, val := Value.ref 166 }, { hash := PyData.keyHash P (Str.ofString "_law_tables"), key := Value.str (Str.ofString "_law_tables") 669, val := Value.ref 173 }, { hash := PyData.keyHash P (Str.ofString "_law_written"), key := Value.str (Str.ofString "_law_written") 675, val := Value.ref 178 }, { hash := PyData.keyHash P (Str.ofString "_law_runs"), key := Value.str (Str.ofString "_law_runs") 688, val := Value.ref 185 }, { hash := PyData.keyHash P (Str.ofString "_law_stands"), key := Value.str (Str.ofString "_law_stands") 694, val := Value.ref 190 }, { hash := PyData.keyHash P (Str.ofString "_law_takes"), key := Value.str (Str.ofString "_law_takes") 700, val := Value.ref 195 }, { hash := PyData.keyHash P (Str.ofString "_law_fits"), key := Value.str (Str.ofString "_law_fits") 706, val := Value.ref 200 }, { hash := PyData.keyHash P (Str.ofString "_law_right"), key := Value.str (Str.ofString "_law_right") 712, val := Value.ref 205 }, { hash := PyData.keyHash P (Str.ofString "law"), key := Value.str (Str.ofString "law") 718, val := Value.ref 210 }] 54 }
noncomputable def ob4 (P : Params) : Obj := { cls := Value.type "module", dict := some 0 }
noncomputable def ob5 (P : Params) : Obj := { cls := Value.type "module", dict := some 3 }
noncomputable def ob6 (P : Params) : Obj := { cls := Value.type "dict", data := Data.dict #[] }
noncomputable def ob7 (P : Params) : Obj := { cls := Value.type "tuple", data := Data.seq #[] }
noncomputable def ob8 (P : Params) : Obj := { cls := Value.none, data := Data.fields #[] }
noncomputable def ob9 (P : Params) : Obj := { cls := Value.type "code", data := Data.fields #[Value.str (Str.ofString "<module>") 176, Value.str (Str.ofString "<module>") 177, Value.str (Str.ofString "/claim/cut.py") 178, Value.int 1 0, Value.int 0 0, Value.int 0 0, Value.int 0 0, Value.int 0 0, Value.ref 7, Value.bool false, Value.int 175 0, Value.ref 8, Value.none, Value.none, Value.none, Value.none, Value.int 179 0, Value.int 1 0, Value.str (Str.ofString "/claim/cut.py") 180] }
noncomputable def ob10 (P : Params) : Obj := { cls := Value.type "frame", slots := #[some (Value.ref 9), some (Value.ref 3), some (Value.ref 3), none, some (Value.str (Str.ofString "__main__") 164), none, some (Value.ref 0)] }
noncomputable def ob11 (P : Params) : Obj := { cls := Value.type "dict", data := Data.dict #[{ hash := PyData.keyHash P (Str.ofString "__name__"), key := Value.str (Str.ofString "__name__") 247, val := Value.str (Str.ofString "_sre") 246 }, { hash := PyData.keyHash P (Str.ofString "__doc__"), key := Value.str (Str.ofString "__doc__") 248, val := Value.none }, { hash := PyData.keyHash P (Str.ofString "__package__"), key := Value.str (Str.ofString "__package__") 250, val := Value.str (Str.ofString "") 249 }, { hash := PyData.keyHash P (Str.ofString "__loader__"), key := Value.str (Str.ofString "__loader__") 251, val := Value.builtin "off-the-table:_sre.__loader__:shared#opaque" }, { hash := PyData.keyHash P (Str.ofString "__spec__"), key := Value.str (Str.ofString "__spec__") 252, val := Value.builtin "off-the-table:_sre.__spec__:shared#opaque" }, { hash := PyData.keyHash P (Str.ofString "compile"), key := Value.str (Str.ofString "compile") 253, val := Value.builtin "_sre.compile" }, { hash := PyData.keyHash P (Str.ofString "template"), key := Value.str (Str.ofString "template") 254, val := Value.builtin "off-the-table:_sre.template:shared#opaque" }, { hash := PyData.keyHash P (Str.ofString "getcodesize"), key := Value.str (Str.ofString "getcodesize") 255, val := Value.builtin "off-the-table:_sre.getcodesize:shared#opaque" }, { hash := PyData.keyHash P (Str.ofString "ascii_iscased"), key := Value.str (Str.ofString "ascii_iscased") 256, val := Value.builtin "off-the-table:_sre.ascii_iscased:shared#opaque" }, { hash := PyData.keyHash P (Str.ofString "unicode_iscased"), key := Value.str (Str.ofString "unicode_iscased") 257, val := Value.builtin "off-the-table:_sre.unicode_iscased:shared#opaque" }, { hash := PyData.keyHash P (Str.ofString "ascii_tolower"), key := Value.str (Str.ofString "ascii_tolower") 258, val := Value.builtin "off-the-table:_sre.ascii_tolower:shared#opaque" }, { hash := PyData.keyHash P (Str.ofString "unicode_tolower"), key := Value.str (Str.ofString "unicode_tolower") 259, val := Value.builtin "off-the-table:_sre.unicode_tolower:shared#opaque" }, { hash := PyData.keyHash P (Str.ofString "MAGIC"), key := Value.str (Str.ofString "MAGIC") 261, val := Value.int 20230612 260 }, { hash := PyData.keyHash P (Str.ofString "CODESIZE"), key := Value.str (Str.ofString "CODESIZE") 263, val := Value.int 4 262 }, { hash := PyData.keyHash P (Str.ofString "MAXREPEAT"), key := Value.str (Str.ofString "MAXREPEAT") 265, val := Value.int 4294967295 264 }, { hash := PyData.keyHash P (Str.ofString "MAXGROUPS"), key := Value.str (Str.ofString "MAXGROUPS") 267, val := Value.int 1073741823 266 }, { hash := PyData.keyHash P (Str.ofString "copyright"), key := Value.str (Str.ofString "copyright") 269, val := Value.str (({ cps := #[32, 83, 82, 69, 32, 50, 46, 50, 46, 50, 32, 67, 111, 112, 121, 114, 105, 103, 104, 116, 32, 40, 99, 41, 32, 49, 57, 57, 55, 45, 50, 48, 48, 50, 32, 98, 121, 32, 83, 101, 99, 114, 101, 116, 32, 76, 97, 98, 115, 32, 65, 66, 32] } : Str)) 268 }] 17 }
noncomputable def ob12 (P : Params) : Obj := { cls := Value.type "module", dict := some 11 }
noncomputable def ob13 (P : Params) : Obj := { cls := Value.type "dict", data := Data.dict #[{ hash := PyData.keyHash P (Str.ofString "__module__"), key := Value.str (Str.ofString "__module__") 189, val := Value.str (({ cps := #[95, 102, 114, 111, 122, 101, 110, 95, 105, 109, 112, 111, 114, 116, 108, 105, 98] } : Str)) 186 }, { hash := PyData.keyHash P (Str.ofString "__firstlineno__"), key := Value.str (Str.ofString "__firstlineno__") 190, val := Value.int 971 187 }, { hash := PyData.keyHash P (Str.ofString "__doc__"), key := Value.str (Str.ofString "__doc__") 191, val := Value.builtin "_frozen_importlib.BuiltinImporter.__doc__:str#opaque" }, { hash := PyData.keyHash P (Str.ofString "_ORIGIN"), key := Value.str (Str.ofString "_ORIGIN") 192, val := Value.str (Str.ofString "built-in") 188 }, { hash := PyData.keyHash P (Str.ofString "find_spec"), key := Value.str (Str.ofString "find_spec") 193, val := Value.builtin "_frozen_importlib.BuiltinImporter.find_spec#opaque" }, { hash := PyData.keyHash P (Str.ofString "create_module"), key := Value.str (Str.ofString "create_module") 194, val := Value.builtin "_frozen_importlib.BuiltinImporter.create_module#opaque" }, { hash := PyData.keyHash P (Str.ofString "exec_module"), key := Value.str (Str.ofString "exec_module") 195, val := Value.builtin "_frozen_importlib.BuiltinImporter.exec_module#opaque" }, { hash := PyData.keyHash P (Str.ofString "get_code"), key := Value.str (Str.ofString "get_code") 196, val := Value.builtin "_frozen_importlib.BuiltinImporter.get_code#opaque" }, { hash := PyData.keyHash P (Str.ofString "get_source"), key := Value.str (Str.ofString "get_source") 197, val := Value.builtin "_frozen_importlib.BuiltinImporter.get_source#opaque" }, { hash := PyData.keyHash P (Str.ofString "is_package"), key := Value.str (Str.ofString "is_package") 198, val := Value.builtin "_frozen_importlib.BuiltinImporter.is_package#opaque" }, { hash := PyData.keyHash P (Str.ofString "load_module"), key := Value.str (Str.ofString "load_module") 199, val := Value.builtin "_frozen_importlib.BuiltinImporter.load_module#opaque" }, { hash := PyData.keyHash P (Str.ofString "__static_attributes__"), key := Value.str (Str.ofString "__static_attributes__") 200, val := Value.ref 15 }, { hash := PyData.keyHash P (Str.ofString "__dict__"), key := Value.str (Str.ofString "__dict__") 202, val := Value.ref 16 }, { hash := PyData.keyHash P (Str.ofString "__weakref__"), key := Value.str (Str.ofString "__weakref__") 204, val := Value.ref 17 }] 14 }
noncomputable def ob14 (P : Params) : Obj := { cls := Value.type "type", data := Data.cls { name := Str.ofString "BuiltinImporter", bases := [Value.type "object"], mro := [Value.ref 14, Value.type "object"], ns := 13, qualname := Str.ofString "BuiltinImporter" } }
noncomputable def ob15 (P : Params) : Obj := { cls := Value.type "tuple", data := Data.seq #[] }
noncomputable def ob16 (P : Params) : Obj := { cls := Value.type "getset_descriptor", data := Data.fields #[Value.str (Str.ofString "__dict__") 201, Value.ref 14, Value.builtin "function.__dict__", Value.builtin "function.__dict__#set"] }
noncomputable def ob17 (P : Params) : Obj := { cls := Value.type "getset_descriptor", data := Data.fields #[Value.str (Str.ofString "__weakref__") 203, Value.ref 14, Value.builtin "ExceptionGroup.__weakref__", Value.none] }
noncomputable def ob18 (P : Params) : Obj := { cls := Value.none, data := Data.seq #[Value.int 13 0, Value.str (({ cps := #[6, 189, 10, 95, 95, 109, 111, 100, 117, 108, 101, 95, 95, 6, 186, 17, 95, 102, 114, 111, 122, 101, 110, 95, 105, 109, 112, 111, 114, 116, 108, 105, 98, 6, 190, 15, 95, 95, 102, 105, 114, 115, 116, 108, 105, 110, 101, 110, 111, 95, 95, 4, 187, 0, 971, 6, 191, 7, 95, 95, 100, 111, 99, 95, 95, 9, 52, 95, 102, 114, 111, 122, 101, 110, 95, 105, 109, 112, 111, 114, 116, 108, 105, 98, 46, 66, 117, 105, 108, 116, 105, 110, 73, 109, 112, 111, 114, 116, 101, 114, 46, 95, 95, 100, 111, 99, 95, 95, 58, 115, 116, 114, 35, 111, 112, 97, 113, 117, 101, 6, 192, 7, 95, 79, 82, 73, 71, 73, 78, 6, 188, 8, 98, 117, 105, 108, 116, 45, 105, 110, 6, 193, 9, 102, 105, 110, 100, 95, 115, 112, 101, 99, 9, 50, 95, 102, 114, 111, 122, 101, 110, 95, 105, 109, 112, 111, 114, 116, 108, 105, 98, 46, 66, 117, 105, 108, 116, 105, 110, 73, 109, 112, 111, 114, 116, 101, 114, 46, 102, 105, 110, 100, 95, 115, 112, 101, 99, 35, 111, 112, 97, 113, 117, 101, 6, 194, 13, 99, 114, 101, 97, 116, 101, 95, 109, 111, 100, 117, 108, 101, 9, 54, 95, 102, 114, 111, 122, 101, 110, 95, 105, 109, 112, 111, 114, 116, 108, 105, 98, 46, 66, 117, 105, 108, 116, 105, 110, 73, 109, 112, 111, 114, 116, 101, 114, 46, 99, 114, 101, 97, 116, 101, 95, 109, 111, 100, 117, 108, 101, 35, 111, 112, 97, 113, 117, 101, 6, 195, 11, 101, 120, 101, 99, 95, 109, 111, 100, 117, 108, 101, 9, 52, 95, 102, 114, 111, 122, 101, 110, 95, 105, 109, 112, 111, 114, 116, 108, 105, 98, 46, 66, 117, 105, 108, 116, 105, 110, 73, 109, 112, 111, 114, 116, 101, 114, 46, 101, 120, 101, 99, 95, 109, 111, 100, 117, 108, 101, 35, 111, 112, 97, 113, 117, 101, 6, 196, 8, 103, 101, 116, 95, 99, 111, 100, 101, 9, 49, 95, 102, 114, 111, 122, 101, 110, 95, 105, 109, 112, 111, 114, 116, 108, 105, 98, 46, 66, 117, 105, 108, 116, 105, 110, 73, 109, 112, 111, 114, 116, 101, 114, 46, 103, 101, 116, 95, 99, 111, 100, 101, 35, 111, 112, 97, 113, 117, 101, 6, 197, 10, 103, 101, 116, 95, 115, 111, 117, 114, 99, 101, 9, 51, 95, 102, 114, 111, 122, 101, 110, 95, 105, 109, 112, 111, 114, 116, 108, 105, 98, 46, 66, 117, 105, 108, 116, 105, 110, 73, 109, 112, 111, 114, 116, 101, 114, 46, 103, 101, 116, 95, 115, 111, 117, 114, 99, 101, 35, 111, 112, 97, 113, 117, 101, 6, 198, 10, 105, 115, 95, 112, 97, 99, 107, 97, 103, 101, 9, 51, 95, 102, 114, 111, 122, 101, 110, 95, 105, 109, 112, 111, 114, 116, 108, 105, 98, 46, 66, 117, 105, 108, 116, 105, 110, 73, 109, 112, 111, 114, 116, 101, 114, 46, 105, 115, 95, 112, 97, 99, 107, 97, 103, 101, 35, 111, 112, 97, 113, 117, 101, 6, 199, 11, 108, 111, 97, 100, 95, 109, 111, 100, 117, 108, 101, 9, 52, 95, 102, 114, 111, 122, 101, 110, 95, 105, 109, 112, 111, 114, 116, 108, 105, 98, 46, 66, 117, 105, 108, 116, 105, 110, 73, 109, 112, 111, 114, 116, 101, 114, 46, 108, 111, 97, 100, 95, 109, 111, 100, 117, 108, 101, 35, 111, 112, 97, 113, 117, 101, 6, 200, 21, 95, 95, 115, 116, 97, 116, 105, 99, 95, 97, 116, 116, 114, 105, 98, 117, 116, 101, 115, 95, 95, 4, 0, 0, 15, 6, 202, 8, 95, 95, 100, 105, 99, 116, 95, 95, 4, 0, 0, 16, 6, 204, 11, 95, 95, 119, 101, 97, 107, 114, 101, 102, 95, 95, 4, 0, 0, 17] } : Str)) 0, Value.bool true, Value.bool true, Value.str (Str.ofString "") 205, Value.int 21 0, Value.str (({ cps := #[6, 227, 10, 95, 95, 109, 111, 100, 117, 108, 101, 95, 95, 6, 217, 17, 95, 102, 114, 111, 122, 101, 110, 95, 105, 109, 112, 111, 114, 116, 108, 105, 98, 6, 228, 15, 95, 95, 102, 105, 114, 115, 116, 108, 105, 110, 101, 110, 111, 95, 95, 4, 218, 0, 562, 6, 229, 7, 95, 95, 100, 111, 99, 95, 95, 9, 47, 95, 102, 114, 111, 122, 101, 110, 95, 105, 109, 112, 111, 114, 116, 108, 105, 98, 46, 77, 111, 100, 117, 108, 101, 83, 112, 101, 99, 46, 95, 95, 100, 111, 99, 95, 95, 58, 115, 116, 114, 35, 111, 112, 97, 113, 117, 101, 6, 230, 8, 95, 95, 105, 110, 105, 116, 95, 95, 9, 44, 95, 102, 114, 111, 122, 101, 110, 95, 105, 109, 112, 111, 114, 116, 108, 105, 98, 46, 77, 111, 100, 117, 108, 101, 83, 112, 101, 99, 46, 95, 95, 105, 110, 105, 116, 95, 95, 35, 111, 112, 97, 113, 117, 101, 6, 231, 8, 95, 95, 114, 101, 112, 114, 95, 95, 9, 44, 95, 102, 114, 111, 122, 101, 110, 95, 105, 109, 112, 111, 114, 116, 108, 105, 98, 46, 77, 111, 100, 117, 108, 101, 83, 112, 101, 99, 46, 95, 95, 114, 101, 112, 114, 95, 95, 35, 111, 112, 97, 113, 117, 101, 6, 232, 6, 95, 95, 101, 113, 95, 95, 9, 42, 95, 102, 114, 111, 122, 101, 110, 95, 105, 109, 112, 111, 114, 116, 108, 105, 98, 46, 77, 111, 100, 117, 108, 101, 83, 112, 101, 99, 46, 95, 95, 101, 113, 95, 95, 35, 111, 112, 97, 113, 117, 101, 6, 233, 6, 99, 97, 99, 104, 101, 100, 9, 42, 95, 102, 114, 111, 122, 101, 110, 95, 105, 109, 112, 111, 114, 116, 108, 105, 98, 46, 77, 111, 100, 117, 108, 101, 83, 112, 101, 99, 46, 99, 97, 99, 104, 101, 100, 35, 111, 112, 97, 113, 117, 101, 6, 234, 6, 112, 97, 114, 101, 110, 116, 9, 42, 95, 102, 114, 111, 122, 101, 110, 95, 105, 109, 112, 111, 114, 116, 108, 105, 98, 46, 77, 111, 100, 117, 108, 101, 83, 112, 101, 99, 46, 112, 97, 114, 101, 110, 116, 35, 111, 112, 97, 113, 117, 101, 6, 235, 12, 104, 97, 115, 95, 108, 111, 99, 97, 116, 105, 111, 110, 9, 48, 95, 102, 114, 111, 122, 101, 110, 95, 105, 109, 112, 111, 114, 116, 108, 105, 98, 46, 77, 111, 100, 117, 108, 101, 83, 112, 101, 99, 46, 104, 97, 115, 95, 108, 111, 99, 97, 116, 105, 111, 110, 35, 111, 112, 97, 113, 117, 101, 6, 236, 21, 95, 95, 115, 116, 97, 116, 105, 99, 95, 97, 116, 116, 114, 105, 98, 117, 116, 101, 115, 95, 95, 4, 0, 0, 23, 6, 238, 8, 95, 95, 100, 105, 99, 116, 95, 95, 4, 0, 0, 24, 6, 240, 11, 95, 95, 119, 101, 97, 107, 114, 101, 102, 95, 95, 4, 0, 0, 25, 6, 241, 8, 95, 95, 104, 97, 115, 104, 95, 95, 0] } : Str)) 0, Value.bool true, Value.bool true, Value.str (Str.ofString "") 242] 1 }
noncomputable def ob19 (P : Params) : Obj := { cls := Value.type "list", data := Data.seq #[] }
noncomputable def ob20 (P : Params) : Obj := { cls := Value.type "dict", data := Data.dict #[{ hash := PyData.keyHash P (Str.ofString "name"), key := Value.str (Str.ofString "name") 208, val := Value.str (Str.ofString "_sre") 207 }, { hash := PyData.keyHash P (Str.ofString "loader"), key := Value.str (Str.ofString "loader") 209, val := Value.ref 14 }, { hash := PyData.keyHash P (Str.ofString "origin"), key := Value.str (Str.ofString "origin") 210, val := Value.str (Str.ofString "built-in") 184 }, { hash := PyData.keyHash P (Str.ofString "loader_state"), key := Value.str (Str.ofString "loader_state") 211, val := Value.none }, { hash := PyData.keyHash P (({ cps := #[115, 117, 98, 109, 111, 100, 117, 108, 101, 95, 115, 101, 97, 114, 99, 104, 95, 108, 111, 99, 97, 116, 105, 111, 110, 115] } : Str)), key := Value.str (({ cps := #[115, 117, 98, 109, 111, 100, 117, 108, 101, 95, 115, 101, 97, 114, 99, 104, 95, 108, 111, 99, 97, 116, 105, 111, 110, 115] } : Str)) 212, val := Value.none }, { hash := PyData.keyHash P (({ cps := #[95, 117, 110, 105, 110, 105, 116, 105, 97, 108, 105, 122, 101, 100, 95, 115, 117, 98, 109, 111, 100, 117, 108, 101, 115] } : Str)), key := Value.str (({ cps := #[95, 117, 110, 105, 110, 105, 116, 105, 97, 108, 105, 122, 101, 100, 95, 115, 117, 98, 109, 111, 100, 117, 108, 101, 115] } : Str)) 213, val := Value.ref 19 }, { hash := PyData.keyHash P (Str.ofString "_set_fileattr"), key := Value.str (Str.ofString "_set_fileattr") 214, val := Value.bool false }, { hash := PyData.keyHash P (Str.ofString "_cached"), key := Value.str (Str.ofString "_cached") 215, val := Value.none }, { hash := PyData.keyHash P (Str.ofString "_initializing"), key := Value.str (Str.ofString "_initializing") 243, val := Value.bool false }] 9 }
noncomputable def ob21 (P : Params) : Obj := { cls := Value.type "dict", data := Data.dict #[{ hash := PyData.keyHash P (Str.ofString "__module__"), key := Value.str (Str.ofString "__module__") 227, val := Value.str (({ cps := #[95, 102, 114, 111, 122, 101, 110, 95, 105, 109, 112, 111, 114, 116, 108, 105, 98] } : Str)) 217 }, { hash := PyData.keyHash P (Str.ofString "__firstlineno__"), key := Value.str (Str.ofString "__firstlineno__") 228, val := Value.int 562 218 }, { hash := PyData.keyHash P (Str.ofString "__doc__"), key := Value.str (Str.ofString "__doc__") 229, val := Value.builtin "_frozen_importlib.ModuleSpec.__doc__:str#opaque" }, { hash := PyData.keyHash P (Str.ofString "__init__"), key := Value.str (Str.ofString "__init__") 230, val := Value.builtin "_frozen_importlib.ModuleSpec.__init__#opaque" }, { hash := PyData.keyHash P (Str.ofString "__repr__"), key := Value.str (Str.ofString "__repr__") 231, val := Value.builtin "_frozen_importlib.ModuleSpec.__repr__#opaque" }, { hash := PyData.keyHash P (Str.ofString "__eq__"), key := Value.str (Str.ofString "__eq__") 232, val := Value.builtin "_frozen_importlib.ModuleSpec.__eq__#opaque" }, { hash := PyData.keyHash P (Str.ofString "cached"), key := Value.str (Str.ofString "cached") 233, val := Value.builtin "_frozen_importlib.ModuleSpec.cached#opaque" }, { hash := PyData.keyHash P (Str.ofString "parent"), key := Value.str (Str.ofString "parent") 234, val := Value.builtin "_frozen_importlib.ModuleSpec.parent#opaque" }, { hash := PyData.keyHash P (Str.ofString "has_location"), key := Value.str (Str.ofString "has_location") 235, val := Value.builtin "_frozen_importlib.ModuleSpec.has_location#opaque" }, { hash := PyData.keyHash P (Str.ofString "__static_attributes__"), key := Value.str (Str.ofString "__static_attributes__") 236, val := Value.ref 23 }, { hash := PyData.keyHash P (Str.ofString "__dict__"), key := Value.str (Str.ofString "__dict__") 238, val := Value.ref 24 }, { hash := PyData.keyHash P (Str.ofString "__weakref__"), key := Value.str (Str.ofString "__weakref__") 240, val := Value.ref 25 }, { hash := PyData.keyHash P (Str.ofString "__hash__"), key := Value.str (Str.ofString "__hash__") 241, val := Value.none }] 13 }
noncomputable def ob22 (P : Params) : Obj := { cls := Value.type "type", data := Data.cls { name := Str.ofString "ModuleSpec", bases := [Value.type "object"], mro := [Value.ref 22, Value.type "object"], ns := 21, qualname := Str.ofString "ModuleSpec" } }
noncomputable def ob23 (P : Params) : Obj := { cls := Value.type "tuple", data := Data.seq #[Value.str (Str.ofString "_cached") 219, Value.str (Str.ofString "_set_fileattr") 220, Value.str (({ cps := #[95, 117, 110, 105, 110, 105, 116, 105, 97, 108, 105, 122, 101, 100, 95, 115, 117, 98, 109, 111, 100, 117, 108, 101, 115] } : Str)) 221, Value.str (Str.ofString "loader") 222, Value.str (Str.ofString "loader_state") 223, Value.str (Str.ofString "name") 224, Value.str (Str.ofString "origin") 225, Value.str (({ cps := #[115, 117, 98, 109, 111, 100, 117, 108, 101, 95, 115, 101, 97, 114, 99, 104, 95, 108, 111, 99, 97, 116, 105, 111, 110, 115] } : Str)) 226] }
noncomputable def ob24 (P : Params) : Obj := { cls := Value.type "getset_descriptor", data := Data.fields #[Value.str (Str.ofString "__dict__") 237, Value.ref 22, Value.builtin "function.__dict__", Value.builtin "function.__dict__#set"] }
noncomputable def ob25 (P : Params) : Obj := { cls := Value.type "getset_descriptor", data := Data.fields #[Value.str (Str.ofString "__weakref__") 239, Value.ref 22, Value.builtin "ExceptionGroup.__weakref__", Value.none] }
noncomputable def ob26 (P : Params) : Obj := { cls := Value.ref 22, dict := some 20 }
noncomputable def ob27 (P : Params) : Obj := { cls := Value.none, data := Data.seq #[Value.int 11 0, Value.str { cps := #[6, 247, 8, 95, 95, 110, 97, 109, 101, 95, 95, 6, 246, 4, 95, 115, 114, 101, 6, 248, 7, 95, 95, 100, 111, 99, 95, 95, 0, 6, 250, 11, 95, 95, 112, 97, 99, 107, 97, 103, 101, 95, 95, 6, 249, 0, 6, 251, 10, 95, 95, 108, 111, 97, 100, 101, 114, 95, 95, 4, 0, 0, 14, 6, 252, 8, 95, 95, 115, 112, 101, 99, 95, 95, 4, 0, 0, 26, 6, 253, 7, 99, 111, 109, 112, 105, 108, 101, 9, 12, 95, 115, 114, 101, 46, 99, 111, 109, 112, 105, 108, 101, 6, 254, 8, 116, 101, 109, 112, 108, 97, 116, 101, 9, 13, 95, 115, 114, 101, 46, 116, 101, 109, 112, 108, 97, 116, 101, 6, 255, 11, 103, 101, 116, 99, 111, 100, 101, 115, 105, 122, 101, 9, 16, 95, 115, 114, 101, 46, 103, 101, 116, 99, 111, 100, 101, 115, 105, 122, 101, 6, 256, 13, 97, 115, 99, 105, 105, 95, 105, 115, 99, 97, 115, 101, 100, 9, 18, 95, 115, 114, 101, 46, 97, 115, 99, 105, 105, 95, 105, 115, 99, 97, 115, 101, 100, 6, 257, 15, 117, 110, 105, 99, 111, 100, 101, 95, 105, 115, 99, 97, 115, 101, 100, 9, 20, 95, 115, 114, 101, 46, 117, 110, 105, 99, 111, 100, 101, 95, 105, 115, 99, 97, 115, 101, 100, 6, 258, 13, 97, 115, 99, 105, 105, 95, 116, 111, 108, 111, 119, 101, 114, 9, 18, 95, 115, 114, 101, 46, 97, 115, 99, 105, 105, 95, 116, 111, 108, 111, 119, 101, 114, 6, 259, 15, 117, 110, 105, 99, 111, 100, 101, 95, 116, 111, 108, 111, 119, 101, 114, 9, 20, 95, 115, 114, 101, 46, 117, 110, 105, 99, 111, 100, 101, 95, 116, 111, 108, 111, 119, 101, 114, 6, 261, 5, 77, 65, 71, 73, 67, 4, 260, 0, 20230612, 6, 263, 8, 67, 79, 68, 69, 83, 73, 90, 69, 4, 262, 0, 4, 6, 265, 9, 77, 65, 88, 82, 69, 80, 69, 65, 84, 4, 264, 0, 4294967295, 6, 267, 9, 77, 65, 88, 71, 82, 79, 85, 80, 83, 4, 266, 0, 1073741823, 6, 269, 9, 99, 111, 112, 121, 114, 105, 103, 104, 116, 6, 268, 53, 32, 83, 82, 69, 32, 50, 46, 50, 46, 50, 32, 67, 111, 112, 121, 114, 105, 103, 104, 116, 32, 40, 99, 41, 32, 49, 57, 57, 55, 45, 50, 48, 48, 50, 32, 98, 121, 32, 83, 101, 99, 114, 101, 116, 32, 76, 97, 98, 115, 32, 65, 66, 32] } 0, Value.bool true, Value.bool false, Value.str (Str.ofString "_sre") 271] }
noncomputable def ob28 (P : Params) : Obj := { cls := Value.type "tuple", data := Data.seq #[] }
noncomputable def ob29 (P : Params) : Obj := { cls := Value.none, data := Data.fields #[Value.int 4 0, Value.int 0 0, Value.ref 42, Value.int 10 0, Value.int 0 0, Value.ref 54, Value.int 17 0, Value.int 0 0, Value.ref 61, Value.int 79 0, Value.int 0 0, Value.ref 68, Value.int 107 0, Value.int 0 0, Value.ref 75, Value.int 129 0, Value.int 0 0, Value.ref 115, Value.int 147 0, Value.int 0 0, Value.ref 122, Value.int 149 0, Value.int 0 0, Value.ref 129, Value.int 160 0, Value.int 0 0, Value.ref 136, Value.int 179 0, Value.int 0 0, Value.ref 143, Value.int 192 0, Value.int 0 0, Value.ref 150, Value.int 210 0, Value.int 0 0, Value.ref 155, Value.int 216 0, Value.int 0 0, Value.ref 160, Value.int 218 0, Value.int 0 0, Value.ref 165, Value.int 220 0, Value.int 0 0, Value.ref 172, Value.int 227 0, Value.int 0 0, Value.ref 177, Value.int 229 0, Value.int 0 0, Value.ref 184, Value.int 249 0, Value.int 0 0, Value.ref 189, Value.int 251 0, Value.int 0 0, Value.ref 194, Value.int 264 0, Value.int 0 0, Value.ref 199, Value.int 272 0, Value.int 0 0, Value.ref 204, Value.int 284 0, Value.int 0 0, Value.ref 209] }
noncomputable def ob30 (P : Params) : Obj := { cls := Value.type "code", data := Data.fields #[Value.str (Str.ofString "<module>") 277, Value.str (Str.ofString "<module>") 278, Value.str (Str.ofString "/claim/cut.py") 279, Value.int 1 0, Value.int 0 0, Value.int 0 0, Value.int 0 0, Value.int 0 0, Value.ref 28, Value.bool false, Value.int 276 0, Value.ref 29, Value.none, Value.none, Value.none, Value.none, Value.int 280 0, Value.int 1 0, Value.str (Str.ofString "/claim/cut.py") 281] }
noncomputable def ob31 (P : Params) : Obj := { cls := Value.type "frame", slots := #[some (Value.ref 30), some (Value.ref 3), some (Value.ref 3), none, some (Value.str (Str.ofString "__main__") 164), none, some (Value.ref 0)] }
noncomputable def ob32 (P : Params) : Obj := { cls := Value.type "list", data := Data.seq #[Value.int 14 287, Value.int 14 288, Value.int 4 289, Value.int 1 290, Value.int 1 291, Value.int 9 292, Value.int 0 293, Value.int 64 294, Value.int 0 295, Value.int 1342177280 296, Value.int 0 297, Value.int 0 298, Value.int 0 299, Value.int 0 300, Value.int 0 301, Value.int 17 302, Value.int 0 303, Value.int 13 304, Value.int 11 305, Value.int 9 306, Value.int 0 307, Value.int 64 308, Value.int 0 309, Value.int 1342177280 310, Value.int 0 311, Value.int 0 312, Value.int 0 313, Value.int 0 314, Value.int 0 315, Value.int 17 316, Value.int 1 317, Value.int 1 318] }
noncomputable def ob33 (P : Params) : Obj := { cls := Value.type "dict", data := Data.dict #[] }
noncomputable def ob34 (P : Params) : Obj := { cls := Value.type "tuple", data := Data.seq #[Value.none, Value.none] }
noncomputable def ob35 (P : Params) : Obj := { cls := Value.type "tuple", data := Data.seq #[Value.int 14 0, Value.int 14 0, Value.int 4 0, Value.int 1 0, Value.int 1 0, Value.int 9 0, Value.int 0 0, Value.int 64 0, Value.int 0 0, Value.int 1342177280 0, Value.int 0 0, Value.int 0 0, Value.int 0 0, Value.int 0 0, Value.int 0 0, Value.int 17 0, Value.int 0 0, Value.int 13 0, Value.int 11 0, Value.int 9 0, Value.int 0 0, Value.int 64 0, Value.int 0 0, Value.int 1342177280 0, Value.int 0 0, Value.int 0 0, Value.int 0 0, Value.int 0 0, Value.int 0 0, Value.int 17 0, Value.int 1 0, Value.int 1 0] }
noncomputable def ob36 (P : Params) : Obj := { cls := Value.type "re.Pattern", data := Data.fields #[Value.str (Str.ofString "([&~|])") 285, Value.int 32 320, Value.int 1 0, Value.none, Value.none, Value.ref 35, Value.int 0 0] }
noncomputable def ob37 (P : Params) : Obj := { cls := Value.type "tuple", data := Data.seq #[] }
noncomputable def ob38 (P : Params) : Obj := { cls := Value.none, data := Data.fields #[] }
noncomputable def ob39 (P : Params) : Obj := { cls := Value.type "tuple", data := Data.seq #[Value.str (Str.ofString "pat") 325, Value.str (Str.ofString "STAR") 326, Value.str (Str.ofString "parts") 327] }
noncomputable def ob40 (P : Params) : Obj := { cls := Value.type "tuple", data := Data.seq #[] }
noncomputable def ob41 (P : Params) : Obj := { cls := Value.none, data := Data.func { name := Str.ofString "translate", qualname := Str.ofString "translate", params := fdA 3, body := FuncBody.stmts (fdB 3), scope := fdS 3, globals := 0, closure := [], defaults := Value.none, kwdefaults := Value.none } }
noncomputable def ob42 (P : Params) : Obj := { cls := Value.type "code", data := Data.fields #[Value.str (Str.ofString "translate") 322, Value.str (Str.ofString "translate") 323, Value.str (Str.ofString "/claim/cut.py") 324, Value.int 4 0, Value.int 1 0, Value.int 0 0, Value.int 0 0, Value.int 3 0, Value.ref 37, Value.bool true, Value.int 276 0, Value.ref 38, Value.none, Value.ref 39, Value.ref 40, Value.ref 41, Value.int 328 0, Value.int 4 0, Value.str (Str.ofString "/claim/cut.py") 329] }
noncomputable def ob43 (P : Params) : Obj := { cls := Value.type "function", data := Data.func { name := Str.ofString "translate", qualname := Str.ofString "translate", params := fdA 3, body := FuncBody.stmts (fdB 3), scope := fdS 3, globals := 3, closure := [], defaults := Value.none, kwdefaults := Value.none, pyModule := Value.str (Str.ofString "cpy313.fnmatch") 282, code := Value.ref 42 } }
noncomputable def ob44 (P : Params) : Obj := { cls := Value.type "bytes_iterator", data := Data.fields #[Value.none, Value.int 24 0] }
noncomputable def ob45 (P : Params) : Obj := { cls := Value.type "dict", data := Data.dict #[{ hash := 40, key := Value.int 40 334, val := Value.str (Str.ofString "\\(") 338 }, { hash := 41, key := Value.int 41 340, val := Value.str (Str.ofString "\\)") 344 }, { hash := 91, key := Value.int 91 346, val := Value.str (Str.ofString "\\[") 350 }, { hash := 93, key := Value.int 93 352, val := Value.str (Str.ofString "\\]") 356 }, { hash := 123, key := Value.int 123 358, val := Value.str (Str.ofString "\\{") 362 }, { hash := 125, key := Value.int 125 364, val := Value.str (Str.ofString "\\}") 368 }, { hash := 63, key := Value.int 63 370, val := Value.str (Str.ofString "\\?") 374 }, { hash := 42, key := Value.int 42 376, val := Value.str (Str.ofString "\\*") 380 }, { hash := 43, key := Value.int 43 382, val := Value.str (Str.ofString "\\+") 386 }, { hash := 45, key := Value.int 45 388, val := Value.str (Str.ofString "\\-") 392 }, { hash := 124, key := Value.int 124 394, val := Value.str (Str.ofString "\\|") 398 }, { hash := 94, key := Value.int 94 400, val := Value.str (Str.ofString "\\^") 404 }, { hash := 36, key := Value.int 36 406, val := Value.str (Str.ofString "\\$") 410 }, { hash := 92, key := Value.int 92 412, val := Value.str (Str.ofString "\\\\") 416 }, { hash := 46, key := Value.int 46 418, val := Value.str (Str.ofString "\\.") 422 }, { hash := 38, key := Value.int 38 424, val := Value.str (Str.ofString "\\&") 428 }, { hash := 126, key := Value.int 126 430, val := Value.str (Str.ofString "\\~") 434 }, { hash := 35, key := Value.int 35 436, val := Value.str (Str.ofString "\\#") 440 }, { hash := 32, key := Value.int 32 442, val := Value.str (Str.ofString "\\ ") 446 }, { hash := 9, key := Value.int 9 448, val := Value.str (({ cps := #[92, 9] } : Str)) 452 }, { hash := 10, key := Value.int 10 454, val := Value.str (({ cps := #[92, 10] } : Str)) 458 }, { hash := 13, key := Value.int 13 460, val := Value.str (({ cps := #[92, 13] } : Str)) 464 }, { hash := 11, key := Value.int 11 466, val := Value.str (({ cps := #[92, 11] } : Str)) 470 }, { hash := 12, key := Value.int 12 472, val := Value.str (({ cps := #[92, 12] } : Str)) 476 }] 24 }
noncomputable def ob46 (P : Params) : Obj := { cls := Value.type "dict", data := Data.dict #[] 2 }
noncomputable def ob47 (P : Params) : Obj := { cls := Value.type "tuple", data := Data.seq #[] }
noncomputable def ob48 (P : Params) : Obj := { cls := Value.type "StopIteration", data := Data.fields #[Value.ref 47, Value.none, Value.none, Value.none, Value.bool false, Value.none] }
noncomputable def ob49 (P : Params) : Obj := { cls := Value.type "tuple", data := Data.seq #[] }
noncomputable def ob50 (P : Params) : Obj := { cls := Value.none, data := Data.fields #[] }
noncomputable def ob51 (P : Params) : Obj := { cls := Value.type "tuple", data := Data.seq #[Value.str (Str.ofString "pattern") 482] }
noncomputable def ob52 (P : Params) : Obj := { cls := Value.type "tuple", data := Data.seq #[] }
noncomputable def ob53 (P : Params) : Obj := { cls := Value.none, data := Data.func { name := Str.ofString "escape", qualname := Str.ofString "escape", params := fdA 6, body := FuncBody.stmts (fdB 6), scope := fdS 6, globals := 0, closure := [], defaults := Value.none, kwdefaults := Value.none } }
noncomputable def ob54 (P : Params) : Obj := { cls := Value.type "code", data := Data.fields #[Value.str (Str.ofString "escape") 479, Value.str (Str.ofString "escape") 480, Value.str (Str.ofString "/claim/cut.py") 481, Value.int 10 0, Value.int 1 0, Value.int 0 0, Value.int 0 0, Value.int 3 0, Value.ref 49, Value.bool true, Value.int 276 0, Value.ref 50, Value.none, Value.ref 51, Value.ref 52, Value.ref 53, Value.int 483 0, Value.int 10 0, Value.str (Str.ofString "/claim/cut.py") 484] }
noncomputable def ob55 (P : Params) : Obj := { cls := Value.type "function", data := Data.func { name := Str.ofString "escape", qualname := Str.ofString "escape", params := fdA 6, body := FuncBody.stmts (fdB 6), scope := fdS 6, globals := 3, closure := [], defaults := Value.none, kwdefaults := Value.none, pyModule := Value.str (Str.ofString "re") 331, code := Value.ref 54 } }
noncomputable def ob56 (P : Params) : Obj := { cls := Value.type "tuple", data := Data.seq #[] }
noncomputable def ob57 (P : Params) : Obj := { cls := Value.none, data := Data.fields #[] }
noncomputable def ob58 (P : Params) : Obj := { cls := Value.type "tuple", data := Data.seq #[Value.str (Str.ofString "pat") 491, Value.str (Str.ofString "STAR") 492, Value.str (Str.ofString "QUESTION_MARK") 493, Value.str (Str.ofString "res") 494, Value.str (Str.ofString "add") 495, Value.str (Str.ofString "i") 496, Value.str (Str.ofString "n") 497, Value.str (Str.ofString "c") 498, Value.str (Str.ofString "j") 499, Value.str (Str.ofString "stuff") 500, Value.str (Str.ofString "chunks") 501, Value.str (Str.ofString "k") 502, Value.str (Str.ofString "chunk") 503] }
noncomputable def ob59 (P : Params) : Obj := { cls := Value.type "tuple", data := Data.seq #[] }
noncomputable def ob60 (P : Params) : Obj := { cls := Value.none, data := Data.func { name := Str.ofString "_translate", qualname := Str.ofString "_translate", params := fdA 8, body := FuncBody.stmts (fdB 8), scope := fdS 8, globals := 0, closure := [], defaults := Value.none, kwdefaults := Value.none } }
noncomputable def ob61 (P : Params) : Obj := { cls := Value.type "code", data := Data.fields #[Value.str (Str.ofString "_translate") 488, Value.str (Str.ofString "_translate") 489, Value.str (Str.ofString "/claim/cut.py") 490, Value.int 17 0, Value.int 3 0, Value.int 0 0, Value.int 0 0, Value.int 3 0, Value.ref 56, Value.bool true, Value.int 276 0, Value.ref 57, Value.none, Value.ref 58, Value.ref 59, Value.ref 60, Value.int 504 0, Value.int 17 0, Value.str (Str.ofString "/claim/cut.py") 505] }
noncomputable def ob62 (P : Params) : Obj := { cls := Value.type "function", data := Data.func { name := Str.ofString "_translate", qualname := Str.ofString "_translate", params := fdA 8, body := FuncBody.stmts (fdB 8), scope := fdS 8, globals := 3, closure := [], defaults := Value.none, kwdefaults := Value.none, pyModule := Value.str (Str.ofString "cpy313.fnmatch") 486, code := Value.ref 61 } }
noncomputable def ob63 (P : Params) : Obj := { cls := Value.type "tuple", data := Data.seq #[] }
noncomputable def ob64 (P : Params) : Obj := { cls := Value.none, data := Data.fields #[] }
noncomputable def ob65 (P : Params) : Obj := { cls := Value.type "tuple", data := Data.seq #[Value.str (Str.ofString "inp") 510, Value.str (Str.ofString "STAR") 511, Value.str (Str.ofString "res") 512, Value.str (Str.ofString "add") 513, Value.str (Str.ofString "i") 514, Value.str (Str.ofString "n") 515, Value.str (Str.ofString "fixed") 516] }
noncomputable def ob66 (P : Params) : Obj := { cls := Value.type "tuple", data := Data.seq #[] }
noncomputable def ob67 (P : Params) : Obj := { cls := Value.none, data := Data.func { name := Str.ofString "_join_translated_parts", qualname := Str.ofString "_join_translated_parts", params := fdA 9, body := FuncBody.stmts (fdB 9), scope := fdS 9, globals := 0, closure := [], defaults := Value.none, kwdefaults := Value.none } }
noncomputable def ob68 (P : Params) : Obj := { cls := Value.type "code", data := Data.fields #[Value.str (Str.ofString "_join_translated_parts") 507, Value.str (Str.ofString "_join_translated_parts") 508, Value.str (Str.ofString "/claim/cut.py") 509, Value.int 79 0, Value.int 2 0, Value.int 0 0, Value.int 0 0, Value.int 3 0, Value.ref 63, Value.bool true, Value.int 276 0, Value.ref 64, Value.none, Value.ref 65, Value.ref 66, Value.ref 67, Value.int 517 0, Value.int 79 0, Value.str (Str.ofString "/claim/cut.py") 518] }
noncomputable def ob69 (P : Params) : Obj := { cls := Value.type "function", data := Data.func { name := Str.ofString "_join_translated_parts", qualname := Str.ofString "_join_translated_parts", params := fdA 9, body := FuncBody.stmts (fdB 9), scope := fdS 9, globals := 3, closure := [], defaults := Value.none, kwdefaults := Value.none, pyModule := Value.str (Str.ofString "cpy313.fnmatch") 486, code := Value.ref 68 } }
noncomputable def ob70 (P : Params) : Obj := { cls := Value.type "tuple", data := Data.seq #[] }
noncomputable def ob71 (P : Params) : Obj := { cls := Value.none, data := Data.fields #[] }
noncomputable def ob72 (P : Params) : Obj := { cls := Value.type "tuple", data := Data.seq #[Value.str (Str.ofString "mode") 525] }
noncomputable def ob73 (P : Params) : Obj := { cls := Value.type "tuple", data := Data.seq #[] }
noncomputable def ob74 (P : Params) : Obj := { cls := Value.none, data := Data.func { name := Str.ofString "S_IFMT", qualname := Str.ofString "S_IFMT", params := fdA 11, body := FuncBody.stmts (fdB 11), scope := fdS 11, globals := 0, closure := [], defaults := Value.none, kwdefaults := Value.none } }
noncomputable def ob75 (P : Params) : Obj := { cls := Value.type "code", data := Data.fields #[Value.str (Str.ofString "S_IFMT") 522, Value.str (Str.ofString "S_IFMT") 523, Value.str (Str.ofString "/claim/cut.py") 524, Value.int 107 0, Value.int 1 0, Value.int 0 0, Value.int 0 0, Value.int 3 0, Value.ref 70, Value.bool true, Value.int 276 0, Value.ref 71, Value.none, Value.ref 72, Value.ref 73, Value.ref 74, Value.int 526 0, Value.int 107 0, Value.str (Str.ofString "/claim/cut.py") 527] }
noncomputable def ob76 (P : Params) : Obj := { cls := Value.type "function", data := Data.func { name := Str.ofString "S_IFMT", qualname := Str.ofString "S_IFMT", params := fdA 11, body := FuncBody.stmts (fdB 11), scope := fdS 11, globals := 3, closure := [], defaults := Value.none, kwdefaults := Value.none, pyModule := Value.str (Str.ofString "cpy313.stat") 520, code := Value.ref 75 } }
noncomputable def ob77 (P : Params) : Obj := { cls := Value.type "tuple", data := Data.seq #[Value.int 40960 539, Value.str (Str.ofString "l") 567] }
noncomputable def ob78 (P : Params) : Obj := { cls := Value.type "tuple", data := Data.seq #[Value.int 49152 541, Value.str (Str.ofString "s") 568] }
noncomputable def ob79 (P : Params) : Obj := { cls := Value.type "tuple", data := Data.seq #[Value.int 32768 535, Value.str (Str.ofString "-") 569] }
noncomputable def ob80 (P : Params) : Obj := { cls := Value.type "tuple", data := Data.seq #[Value.int 24576 533, Value.str (Str.ofString "b") 570] }
noncomputable def ob81 (P : Params) : Obj := { cls := Value.type "tuple", data := Data.seq #[Value.int 16384 529, Value.str (Str.ofString "d") 571] }
noncomputable def ob82 (P : Params) : Obj := { cls := Value.type "tuple", data := Data.seq #[Value.int 8192 531, Value.str (Str.ofString "c") 572] }
noncomputable def ob83 (P : Params) : Obj := { cls := Value.type "tuple", data := Data.seq #[Value.int 4096 537, Value.str (Str.ofString "p") 573] }
noncomputable def ob84 (P : Params) : Obj := { cls := Value.type "tuple", data := Data.seq #[Value.ref 77, Value.ref 78, Value.ref 79, Value.ref 80, Value.ref 81, Value.ref 82, Value.ref 83] }
noncomputable def ob85 (P : Params) : Obj := { cls := Value.type "tuple", data := Data.seq #[Value.int 256 549, Value.str (Str.ofString "r") 574] }
noncomputable def ob86 (P : Params) : Obj := { cls := Value.type "tuple", data := Data.seq #[Value.ref 85] }
noncomputable def ob87 (P : Params) : Obj := { cls := Value.type "tuple", data := Data.seq #[Value.int 128 551, Value.str (Str.ofString "w") 575] }
noncomputable def ob88 (P : Params) : Obj := { cls := Value.type "tuple", data := Data.seq #[Value.ref 87] }
noncomputable def ob89 (P : Params) : Obj := { cls := Value.type "tuple", data := Data.seq #[Value.int 2112 576, Value.str (Str.ofString "s") 577] }
noncomputable def ob90 (P : Params) : Obj := { cls := Value.type "tuple", data := Data.seq #[Value.int 2048 543, Value.str (Str.ofString "S") 578] }
noncomputable def ob91 (P : Params) : Obj := { cls := Value.type "tuple", data := Data.seq #[Value.int 64 553, Value.str (Str.ofString "x") 579] }
noncomputable def ob92 (P : Params) : Obj := { cls := Value.type "tuple", data := Data.seq #[Value.ref 89, Value.ref 90, Value.ref 91] }
noncomputable def ob93 (P : Params) : Obj := { cls := Value.type "tuple", data := Data.seq #[Value.int 32 555, Value.str (Str.ofString "r") 580] }
noncomputable def ob94 (P : Params) : Obj := { cls := Value.type "tuple", data := Data.seq #[Value.ref 93] }
noncomputable def ob95 (P : Params) : Obj := { cls := Value.type "tuple", data := Data.seq #[Value.int 16 557, Value.str (Str.ofString "w") 581] }
noncomputable def ob96 (P : Params) : Obj := { cls := Value.type "tuple", data := Data.seq #[Value.ref 95] }
noncomputable def ob97 (P : Params) : Obj := { cls := Value.type "tuple", data := Data.seq #[Value.int 1032 582, Value.str (Str.ofString "s") 583] }
noncomputable def ob98 (P : Params) : Obj := { cls := Value.type "tuple", data := Data.seq #[Value.int 1024 545, Value.str (Str.ofString "S") 584] }
noncomputable def ob99 (P : Params) : Obj := { cls := Value.type "tuple", data := Data.seq #[Value.int 8 559, Value.str (Str.ofString "x") 585] }
noncomputable def ob100 (P : Params) : Obj := { cls := Value.type "tuple", data := Data.seq #[Value.ref 97, Value.ref 98, Value.ref 99] }
noncomputable def ob101 (P : Params) : Obj := { cls := Value.type "tuple", data := Data.seq #[Value.int 4 561, Value.str (Str.ofString "r") 586] }
noncomputable def ob102 (P : Params) : Obj := { cls := Value.type "tuple", data := Data.seq #[Value.ref 101] }
noncomputable def ob103 (P : Params) : Obj := { cls := Value.type "tuple", data := Data.seq #[Value.int 2 563, Value.str (Str.ofString "w") 587] }
noncomputable def ob104 (P : Params) : Obj := { cls := Value.type "tuple", data := Data.seq #[Value.ref 103] }
noncomputable def ob105 (P : Params) : Obj := { cls := Value.type "tuple", data := Data.seq #[Value.int 513 588, Value.str (Str.ofString "t") 589] }
noncomputable def ob106 (P : Params) : Obj := { cls := Value.type "tuple", data := Data.seq #[Value.int 512 547, Value.str (Str.ofString "T") 590] }
noncomputable def ob107 (P : Params) : Obj := { cls := Value.type "tuple", data := Data.seq #[Value.int 1 565, Value.str (Str.ofString "x") 591] }
noncomputable def ob108 (P : Params) : Obj := { cls := Value.type "tuple", data := Data.seq #[Value.ref 105, Value.ref 106, Value.ref 107] }
noncomputable def ob109 (P : Params) : Obj := { cls := Value.type "tuple", data := Data.seq #[Value.ref 84, Value.ref 86, Value.ref 88, Value.ref 92, Value.ref 94, Value.ref 96, Value.ref 100, Value.ref 102, Value.ref 104, Value.ref 108] }
noncomputable def ob110 (P : Params) : Obj := { cls := Value.type "tuple", data := Data.seq #[] }
noncomputable def ob111 (P : Params) : Obj := { cls := Value.none, data := Data.fields #[] }
noncomputable def ob112 (P : Params) : Obj := { cls := Value.type "tuple", data := Data.seq #[Value.str (Str.ofString "mode") 596, Value.str (Str.ofString "perm") 597, Value.str (Str.ofString "index") 598, Value.str (Str.ofString "table") 599, Value.str (Str.ofString "bit") 600, Value.str (Str.ofString "char") 601] }
noncomputable def ob113 (P : Params) : Obj := { cls := Value.type "tuple", data := Data.seq #[] }
noncomputable def ob114 (P : Params) : Obj := { cls := Value.none, data := Data.func { name := Str.ofString "filemode", qualname := Str.ofString "filemode", params := fdA 32, body := FuncBody.stmts (fdB 32), scope := fdS 32, globals := 0, closure := [], defaults := Value.none, kwdefaults := Value.none } }
noncomputable def ob115 (P : Params) : Obj := { cls := Value.type "code", data := Data.fields #[Value.str (Str.ofString "filemode") 593, Value.str (Str.ofString "filemode") 594, Value.str (Str.ofString "/claim/cut.py") 595, Value.int 129 0, Value.int 1 0, Value.int 0 0, Value.int 0 0, Value.int 3 0, Value.ref 110, Value.bool true, Value.int 276 0, Value.ref 111, Value.none, Value.ref 112, Value.ref 113, Value.ref 114, Value.int 602 0, Value.int 129 0, Value.str (Str.ofString "/claim/cut.py") 603] }
noncomputable def ob116 (P : Params) : Obj := { cls := Value.type "function", data := Data.func { name := Str.ofString "filemode", qualname := Str.ofString "filemode", params := fdA 32, body := FuncBody.stmts (fdB 32), scope := fdS 32, globals := 3, closure := [], defaults := Value.none, kwdefaults := Value.none, pyModule := Value.str (Str.ofString "cpy313.stat") 520, code := Value.ref 115 } }
noncomputable def ob117 (P : Params) : Obj := { cls := Value.type "tuple", data := Data.seq #[] }
noncomputable def ob118 (P : Params) : Obj := { cls := Value.none, data := Data.fields #[] }
noncomputable def ob119 (P : Params) : Obj := { cls := Value.type "tuple", data := Data.seq #[Value.str (Str.ofString "text") 610] }
noncomputable def ob120 (P : Params) : Obj := { cls := Value.type "tuple", data := Data.seq #[] }
noncomputable def ob121 (P : Params) : Obj := { cls := Value.none, data := Data.func { name := ({ cps := #[95, 114, 97, 105, 115, 101, 95, 115, 101, 114, 105, 97, 108, 105, 122, 97, 116, 105, 111, 110, 95, 101, 114, 114, 111, 114] } : Str), qualname := ({ cps := #[95, 114, 97, 105, 115, 101, 95, 115, 101, 114, 105, 97, 108, 105, 122, 97, 116, 105, 111, 110, 95, 101, 114, 114, 111, 114] } : Str), params := fdA 34, body := FuncBody.stmts (fdB 34), scope := fdS 34, globals := 0, closure := [], defaults := Value.none, kwdefaults := Value.none } }
noncomputable def ob122 (P : Params) : Obj := { cls := Value.type "code", data := Data.fields #[Value.str (({ cps := #[95, 114, 97, 105, 115, 101, 95, 115, 101, 114, 105, 97, 108, 105, 122, 97, 116, 105, 111, 110, 95, 101, 114, 114, 111, 114] } : Str)) 607, Value.str (({ cps := #[95, 114, 97, 105, 115, 101, 95, 115, 101, 114, 105, 97, 108, 105, 122, 97, 116, 105, 111, 110, 95, 101, 114, 114, 111, 114] } : Str)) 608, Value.str (Str.ofString "/claim/cut.py") 609, Value.int 147 0, Value.int 1 0, Value.int 0 0, Value.int 0 0, Value.int 3 0, Value.ref 117, Value.bool true, Value.int 276 0, Value.ref 118, Value.none, Value.ref 119, Value.ref 120, Value.ref 121, Value.int 611 0, Value.int 147 0, Value.str (Str.ofString "/claim/cut.py") 612] }
noncomputable def ob123 (P : Params) : Obj := { cls := Value.type "function", data := Data.func { name := ({ cps := #[95, 114, 97, 105, 115, 101, 95, 115, 101, 114, 105, 97, 108, 105, 122, 97, 116, 105, 111, 110, 95, 101, 114, 114, 111, 114] } : Str), qualname := ({ cps := #[95, 114, 97, 105, 115, 101, 95, 115, 101, 114, 105, 97, 108, 105, 122, 97, 116, 105, 111, 110, 95, 101, 114, 114, 111, 114] } : Str), params := fdA 34, body := FuncBody.stmts (fdB 34), scope := fdS 34, globals := 3, closure := [], defaults := Value.none, kwdefaults := Value.none, pyModule := Value.str (({ cps := #[99, 112, 121, 51, 49, 51, 46, 120, 109, 108, 46, 101, 116, 114, 101, 101, 46, 69, 108, 101, 109, 101, 110, 116, 84, 114, 101, 101] } : Str)) 605, code := Value.ref 122 } }
noncomputable def ob124 (P : Params) : Obj := { cls := Value.type "tuple", data := Data.seq #[] }
noncomputable def ob125 (P : Params) : Obj := { cls := Value.none, data := Data.fields #[] }
noncomputable def ob126 (P : Params) : Obj := { cls := Value.type "tuple", data := Data.seq #[Value.str (Str.ofString "text") 617] }
noncomputable def ob127 (P : Params) : Obj := { cls := Value.type "tuple", data := Data.seq #[] }
noncomputable def ob128 (P : Params) : Obj := { cls := Value.none, data := Data.func { name := Str.ofString "_escape_cdata", qualname := Str.ofString "_escape_cdata", params := fdA 35, body := FuncBody.stmts (fdB 35), scope := fdS 35, globals := 0, closure := [], defaults := Value.none, kwdefaults := Value.none } }
noncomputable def ob129 (P : Params) : Obj := { cls := Value.type "code", data := Data.fields #[Value.str (Str.ofString "_escape_cdata") 614, Value.str (Str.ofString "_escape_cdata") 615, Value.str (Str.ofString "/claim/cut.py") 616, Value.int 149 0, Value.int 1 0, Value.int 0 0, Value.int 0 0, Value.int 3 0, Value.ref 124, Value.bool true, Value.int 276 0, Value.ref 125, Value.none, Value.ref 126, Value.ref 127, Value.ref 128, Value.int 618 0, Value.int 149 0, Value.str (Str.ofString "/claim/cut.py") 619] }
noncomputable def ob130 (P : Params) : Obj := { cls := Value.type "function", data := Data.func { name := Str.ofString "_escape_cdata", qualname := Str.ofString "_escape_cdata", params := fdA 35, body := FuncBody.stmts (fdB 35), scope := fdS 35, globals := 3, closure := [], defaults := Value.none, kwdefaults := Value.none, pyModule := Value.str (({ cps := #[99, 112, 121, 51, 49, 51, 46, 120, 109, 108, 46, 101, 116, 114, 101, 101, 46, 69, 108, 101, 109, 101, 110, 116, 84, 114, 101, 101] } : Str)) 605, code := Value.ref 129 } }
noncomputable def ob131 (P : Params) : Obj := { cls := Value.type "tuple", data := Data.seq #[] }
noncomputable def ob132 (P : Params) : Obj := { cls := Value.none, data := Data.fields #[] }
noncomputable def ob133 (P : Params) : Obj := { cls := Value.type "tuple", data := Data.seq #[Value.str (Str.ofString "text") 624] }
noncomputable def ob134 (P : Params) : Obj := { cls := Value.type "tuple", data := Data.seq #[] }
noncomputable def ob135 (P : Params) : Obj := { cls := Value.none, data := Data.func { name := Str.ofString "_escape_attrib", qualname := Str.ofString "_escape_attrib", params := fdA 36, body := FuncBody.stmts (fdB 36), scope := fdS 36, globals := 0, closure := [], defaults := Value.none, kwdefaults := Value.none } }
noncomputable def ob136 (P : Params) : Obj := { cls := Value.type "code", data := Data.fields #[Value.str (Str.ofString "_escape_attrib") 621, Value.str (Str.ofString "_escape_attrib") 622, Value.str (Str.ofString "/claim/cut.py") 623, Value.int 160 0, Value.int 1 0, Value.int 0 0, Value.int 0 0, Value.int 3 0, Value.ref 131, Value.bool true, Value.int 276 0, Value.ref 132, Value.none, Value.ref 133, Value.ref 134, Value.ref 135, Value.int 625 0, Value.int 160 0, Value.str (Str.ofString "/claim/cut.py") 626] }
noncomputable def ob137 (P : Params) : Obj := { cls := Value.type "function", data := Data.func { name := Str.ofString "_escape_attrib", qualname := Str.ofString "_escape_attrib", params := fdA 36, body := FuncBody.stmts (fdB 36), scope := fdS 36, globals := 3, closure := [], defaults := Value.none, kwdefaults := Value.none, pyModule := Value.str (({ cps := #[99, 112, 121, 51, 49, 51, 46, 120, 109, 108, 46, 101, 116, 114, 101, 101, 46, 69, 108, 101, 109, 101, 110, 116, 84, 114, 101, 101] } : Str)) 605, code := Value.ref 136 } }
noncomputable def ob138 (P : Params) : Obj := { cls := Value.type "tuple", data := Data.seq #[] }
noncomputable def ob139 (P : Params) : Obj := { cls := Value.none, data := Data.fields #[] }
noncomputable def ob140 (P : Params) : Obj := { cls := Value.type "tuple", data := Data.seq #[Value.str (Str.ofString "text") 631] }
noncomputable def ob141 (P : Params) : Obj := { cls := Value.type "tuple", data := Data.seq #[] }
noncomputable def ob142 (P : Params) : Obj := { cls := Value.none, data := Data.func { name := Str.ofString "_escape_cdata_c14n", qualname := Str.ofString "_escape_cdata_c14n", params := fdA 37, body := FuncBody.stmts (fdB 37), scope := fdS 37, globals := 0, closure := [], defaults := Value.none, kwdefaults := Value.none } }
noncomputable def ob143 (P : Params) : Obj := { cls := Value.type "code", data := Data.fields #[Value.str (Str.ofString "_escape_cdata_c14n") 628, Value.str (Str.ofString "_escape_cdata_c14n") 629, Value.str (Str.ofString "/claim/cut.py") 630, Value.int 179 0, Value.int 1 0, Value.int 0 0, Value.int 0 0, Value.int 3 0, Value.ref 138, Value.bool true, Value.int 276 0, Value.ref 139, Value.none, Value.ref 140, Value.ref 141, Value.ref 142, Value.int 632 0, Value.int 179 0, Value.str (Str.ofString "/claim/cut.py") 633] }
noncomputable def ob144 (P : Params) : Obj := { cls := Value.type "function", data := Data.func { name := Str.ofString "_escape_cdata_c14n", qualname := Str.ofString "_escape_cdata_c14n", params := fdA 37, body := FuncBody.stmts (fdB 37), scope := fdS 37, globals := 3, closure := [], defaults := Value.none, kwdefaults := Value.none, pyModule := Value.str (({ cps := #[99, 112, 121, 51, 49, 51, 46, 120, 109, 108, 46, 101, 116, 114, 101, 101, 46, 69, 108, 101, 109, 101, 110, 116, 84, 114, 101, 101] } : Str)) 605, code := Value.ref 143 } }
noncomputable def ob145 (P : Params) : Obj := { cls := Value.type "tuple", data := Data.seq #[] }
noncomputable def ob146 (P : Params) : Obj := { cls := Value.none, data := Data.fields #[] }
noncomputable def ob147 (P : Params) : Obj := { cls := Value.type "tuple", data := Data.seq #[Value.str (Str.ofString "text") 638] }
noncomputable def ob148 (P : Params) : Obj := { cls := Value.type "tuple", data := Data.seq #[] }
noncomputable def ob149 (P : Params) : Obj := { cls := Value.none, data := Data.func { name := Str.ofString "_escape_attrib_c14n", qualname := Str.ofString "_escape_attrib_c14n", params := fdA 38, body := FuncBody.stmts (fdB 38), scope := fdS 38, globals := 0, closure := [], defaults := Value.none, kwdefaults := Value.none } }
noncomputable def ob150 (P : Params) : Obj := { cls := Value.type "code", data := Data.fields #[Value.str (Str.ofString "_escape_attrib_c14n") 635, Value.str (Str.ofString "_escape_attrib_c14n") 636, Value.str (Str.ofString "/claim/cut.py") 637, Value.int 192 0, Value.int 1 0, Value.int 0 0, Value.int 0 0, Value.int 3 0, Value.ref 145, Value.bool true, Value.int 276 0, Value.ref 146, Value.none, Value.ref 147, Value.ref 148, Value.ref 149, Value.int 639 0, Value.int 192 0, Value.str (Str.ofString "/claim/cut.py") 640] }
noncomputable def ob151 (P : Params) : Obj := { cls := Value.type "function", data := Data.func { name := Str.ofString "_escape_attrib_c14n", qualname := Str.ofString "_escape_attrib_c14n", params := fdA 38, body := FuncBody.stmts (fdB 38), scope := fdS 38, globals := 3, closure := [], defaults := Value.none, kwdefaults := Value.none, pyModule := Value.str (({ cps := #[99, 112, 121, 51, 49, 51, 46, 120, 109, 108, 46, 101, 116, 114, 101, 101, 46, 69, 108, 101, 109, 101, 110, 116, 84, 114, 101, 101] } : Str)) 605, code := Value.ref 150 } }
noncomputable def ob152 (P : Params) : Obj := { cls := Value.type "tuple", data := Data.seq #[] }
noncomputable def ob153 (P : Params) : Obj := { cls := Value.none, data := Data.fields #[] }
noncomputable def ob154 (P : Params) : Obj := { cls := Value.none, data := Data.func { name := Str.ofString "_law_mode", qualname := Str.ofString "_law_mode", params := fdA 40, body := FuncBody.stmts (fdB 40), scope := fdS 40, globals := 0, closure := [], defaults := Value.none, kwdefaults := Value.none } }
noncomputable def ob155 (P : Params) : Obj := { cls := Value.type "code", data := Data.fields #[Value.str (Str.ofString "_law_mode") 644, Value.str (Str.ofString "_law_mode") 645, Value.str (Str.ofString "/claim/cut.py") 646, Value.int 210 0, Value.int 1 0, Value.int 0 0, Value.int 0 0, Value.int 3 0, Value.ref 152, Value.bool true, Value.int 276 0, Value.ref 153, Value.none, Value.none, Value.none, Value.ref 154, Value.int 647 0, Value.int 210 0, Value.str (Str.ofString "/claim/cut.py") 648] }
noncomputable def ob156 (P : Params) : Obj := { cls := Value.type "function", data := Data.func { name := Str.ofString "_law_mode", qualname := Str.ofString "_law_mode", params := fdA 40, body := FuncBody.stmts (fdB 40), scope := fdS 40, globals := 3, closure := [], defaults := Value.none, kwdefaults := Value.none, pyModule := Value.str (Str.ofString "law_rx0131_01") 642, code := Value.ref 155 } }
noncomputable def ob157 (P : Params) : Obj := { cls := Value.type "tuple", data := Data.seq #[] }
noncomputable def ob158 (P : Params) : Obj := { cls := Value.none, data := Data.fields #[] }
noncomputable def ob159 (P : Params) : Obj := { cls := Value.none, data := Data.func { name := Str.ofString "_law_row", qualname := Str.ofString "_law_row", params := fdA 41, body := FuncBody.stmts (fdB 41), scope := fdS 41, globals := 0, closure := [], defaults := Value.none, kwdefaults := Value.none } }
noncomputable def ob160 (P : Params) : Obj := { cls := Value.type "code", data := Data.fields #[Value.str (Str.ofString "_law_row") 650, Value.str (Str.ofString "_law_row") 651, Value.str (Str.ofString "/claim/cut.py") 652, Value.int 216 0, Value.int 1 0, Value.int 0 0, Value.int 0 0, Value.int 3 0, Value.ref 157, Value.bool true, Value.int 276 0, Value.ref 158, Value.none, Value.none, Value.none, Value.ref 159, Value.int 653 0, Value.int 216 0, Value.str (Str.ofString "/claim/cut.py") 654] }
noncomputable def ob161 (P : Params) : Obj := { cls := Value.type "function", data := Data.func { name := Str.ofString "_law_row", qualname := Str.ofString "_law_row", params := fdA 41, body := FuncBody.stmts (fdB 41), scope := fdS 41, globals := 3, closure := [], defaults := Value.none, kwdefaults := Value.none, pyModule := Value.str (Str.ofString "law_rx0131_01") 642, code := Value.ref 160 } }
noncomputable def ob162 (P : Params) : Obj := { cls := Value.type "tuple", data := Data.seq #[] }
noncomputable def ob163 (P : Params) : Obj := { cls := Value.none, data := Data.fields #[] }
noncomputable def ob164 (P : Params) : Obj := { cls := Value.none, data := Data.func { name := Str.ofString "_law_pattern", qualname := Str.ofString "_law_pattern", params := fdA 42, body := FuncBody.stmts (fdB 42), scope := fdS 42, globals := 0, closure := [], defaults := Value.none, kwdefaults := Value.none } }
noncomputable def ob165 (P : Params) : Obj := { cls := Value.type "code", data := Data.fields #[Value.str (Str.ofString "_law_pattern") 656, Value.str (Str.ofString "_law_pattern") 657, Value.str (Str.ofString "/claim/cut.py") 658, Value.int 218 0, Value.int 1 0, Value.int 0 0, Value.int 0 0, Value.int 3 0, Value.ref 162, Value.bool true, Value.int 276 0, Value.ref 163, Value.none, Value.none, Value.none, Value.ref 164, Value.int 659 0, Value.int 218 0, Value.str (Str.ofString "/claim/cut.py") 660] }
noncomputable def ob166 (P : Params) : Obj := { cls := Value.type "function", data := Data.func { name := Str.ofString "_law_pattern", qualname := Str.ofString "_law_pattern", params := fdA 42, body := FuncBody.stmts (fdB 42), scope := fdS 42, globals := 3, closure := [], defaults := Value.none, kwdefaults := Value.none, pyModule := Value.str (Str.ofString "law_rx0131_01") 642, code := Value.ref 165 } }
noncomputable def ob167 (P : Params) : Obj := { cls := Value.type "tuple", data := Data.seq #[] }
noncomputable def ob168 (P : Params) : Obj := { cls := Value.none, data := Data.fields #[] }
noncomputable def ob169 (P : Params) : Obj := { cls := Value.type "tuple", data := Data.seq #[Value.str (Str.ofString "odd") 665, Value.str (Str.ofString "tables") 666] }
noncomputable def ob170 (P : Params) : Obj := { cls := Value.type "tuple", data := Data.seq #[] }
noncomputable def ob171 (P : Params) : Obj := { cls := Value.none, data := Data.func { name := Str.ofString "_law_tables", qualname := Str.ofString "_law_tables", params := fdA 43, body := FuncBody.stmts (fdB 43), scope := fdS 43, globals := 0, closure := [], defaults := Value.none, kwdefaults := Value.none } }
noncomputable def ob172 (P : Params) : Obj := { cls := Value.type "code", data := Data.fields #[Value.str (Str.ofString "_law_tables") 662, Value.str (Str.ofString "_law_tables") 663, Value.str (Str.ofString "/claim/cut.py") 664, Value.int 220 0, Value.int 1 0, Value.int 0 0, Value.int 0 0, Value.int 3 0, Value.ref 167, Value.bool true, Value.int 276 0, Value.ref 168, Value.none, Value.ref 169, Value.ref 170, Value.ref 171, Value.int 667 0, Value.int 220 0, Value.str (Str.ofString "/claim/cut.py") 668] }
noncomputable def ob173 (P : Params) : Obj := { cls := Value.type "function", data := Data.func { name := Str.ofString "_law_tables", qualname := Str.ofString "_law_tables", params := fdA 43, body := FuncBody.stmts (fdB 43), scope := fdS 43, globals := 3, closure := [], defaults := Value.none, kwdefaults := Value.none, pyModule := Value.str (Str.ofString "law_rx0131_01") 642, code := Value.ref 172 } }
noncomputable def ob174 (P : Params) : Obj := { cls := Value.type "tuple", data := Data.seq #[] }
noncomputable def ob175 (P : Params) : Obj := { cls := Value.none, data := Data.fields #[] }
noncomputable def ob176 (P : Params) : Obj := { cls := Value.none, data := Data.func { name := Str.ofString "_law_written", qualname := Str.ofString "_law_written", params := fdA 44, body := FuncBody.stmts (fdB 44), scope := fdS 44, globals := 0, closure := [], defaults := Value.none, kwdefaults := Value.none } }
noncomputable def ob177 (P : Params) : Obj := { cls := Value.type "code", data := Data.fields #[Value.str (Str.ofString "_law_written") 670, Value.str (Str.ofString "_law_written") 671, Value.str (Str.ofString "/claim/cut.py") 672, Value.int 227 0, Value.int 2 0, Value.int 0 0, Value.int 0 0, Value.int 3 0, Value.ref 174, Value.bool true, Value.int 276 0, Value.ref 175, Value.none, Value.none, Value.none, Value.ref 176, Value.int 673 0, Value.int 227 0, Value.str (Str.ofString "/claim/cut.py") 674] }
noncomputable def ob178 (P : Params) : Obj := { cls := Value.type "function", data := Data.func { name := Str.ofString "_law_written", qualname := Str.ofString "_law_written", params := fdA 44, body := FuncBody.stmts (fdB 44), scope := fdS 44, globals := 3, closure := [], defaults := Value.none, kwdefaults := Value.none, pyModule := Value.str (Str.ofString "law_rx0131_01") 642, code := Value.ref 177 } }
noncomputable def ob179 (P : Params) : Obj := { cls := Value.type "tuple", data := Data.seq #[] }
noncomputable def ob180 (P : Params) : Obj := { cls := Value.none, data := Data.fields #[] }
noncomputable def ob181 (P : Params) : Obj := { cls := Value.type "tuple", data := Data.seq #[Value.str (Str.ofString "text") 679, Value.str (Str.ofString "inner") 680, Value.str (Str.ofString "runs") 681, Value.str (Str.ofString "k") 682, Value.str (Str.ofString "state") 683, Value.str (Str.ofString "sign") 684, Value.str (Str.ofString "behind") 685] }
noncomputable def ob182 (P : Params) : Obj := { cls := Value.type "tuple", data := Data.seq #[] }
noncomputable def ob183 (P : Params) : Obj := { cls := Value.none, data := Data.func { name := Str.ofString "_law_runs", qualname := Str.ofString "_law_runs", params := fdA 45, body := FuncBody.stmts (fdB 45), scope := fdS 45, globals := 0, closure := [], defaults := Value.none, kwdefaults := Value.none } }
noncomputable def ob184 (P : Params) : Obj := { cls := Value.type "code", data := Data.fields #[Value.str (Str.ofString "_law_runs") 676, Value.str (Str.ofString "_law_runs") 677, Value.str (Str.ofString "/claim/cut.py") 678, Value.int 229 0, Value.int 1 0, Value.int 0 0, Value.int 0 0, Value.int 3 0, Value.ref 179, Value.bool true, Value.int 276 0, Value.ref 180, Value.none, Value.ref 181, Value.ref 182, Value.ref 183, Value.int 686 0, Value.int 229 0, Value.str (Str.ofString "/claim/cut.py") 687] }
noncomputable def ob185 (P : Params) : Obj := { cls := Value.type "function", data := Data.func { name := Str.ofString "_law_runs", qualname := Str.ofString "_law_runs", params := fdA 45, body := FuncBody.stmts (fdB 45), scope := fdS 45, globals := 3, closure := [], defaults := Value.none, kwdefaults := Value.none, pyModule := Value.str (Str.ofString "law_rx0131_01") 642, code := Value.ref 184 } }
noncomputable def ob186 (P : Params) : Obj := { cls := Value.type "tuple", data := Data.seq #[] }
noncomputable def ob187 (P : Params) : Obj := { cls := Value.none, data := Data.fields #[] }
noncomputable def ob188 (P : Params) : Obj := { cls := Value.none, data := Data.func { name := Str.ofString "_law_stands", qualname := Str.ofString "_law_stands", params := fdA 46, body := FuncBody.stmts (fdB 46), scope := fdS 46, globals := 0, closure := [], defaults := Value.none, kwdefaults := Value.none } }
noncomputable def ob189 (P : Params) : Obj := { cls := Value.type "code", data := Data.fields #[Value.str (Str.ofString "_law_stands") 689, Value.str (Str.ofString "_law_stands") 690, Value.str (Str.ofString "/claim/cut.py") 691, Value.int 249 0, Value.int 3 0, Value.int 0 0, Value.int 0 0, Value.int 3 0, Value.ref 186, Value.bool true, Value.int 276 0, Value.ref 187, Value.none, Value.none, Value.none, Value.ref 188, Value.int 692 0, Value.int 249 0, Value.str (Str.ofString "/claim/cut.py") 693] }
noncomputable def ob190 (P : Params) : Obj := { cls := Value.type "function", data := Data.func { name := Str.ofString "_law_stands", qualname := Str.ofString "_law_stands", params := fdA 46, body := FuncBody.stmts (fdB 46), scope := fdS 46, globals := 3, closure := [], defaults := Value.none, kwdefaults := Value.none, pyModule := Value.str (Str.ofString "law_rx0131_01") 642, code := Value.ref 189 } }
noncomputable def ob191 (P : Params) : Obj := { cls := Value.type "tuple", data := Data.seq #[] }
noncomputable def ob192 (P : Params) : Obj := { cls := Value.none, data := Data.fields #[] }
noncomputable def ob193 (P : Params) : Obj := { cls := Value.none, data := Data.func { name := Str.ofString "_law_takes", qualname := Str.ofString "_law_takes", params := fdA 47, body := FuncBody.stmts (fdB 47), scope := fdS 47, globals := 0, closure := [], defaults := Value.none, kwdefaults := Value.none } }
noncomputable def ob194 (P : Params) : Obj := { cls := Value.type "code", data := Data.fields #[Value.str (Str.ofString "_law_takes") 695, Value.str (Str.ofString "_law_takes") 696, Value.str (Str.ofString "/claim/cut.py") 697, Value.int 251 0, Value.int 2 0, Value.int 0 0, Value.int 0 0, Value.int 3 0, Value.ref 191, Value.bool true, Value.int 276 0, Value.ref 192, Value.none, Value.none, Value.none, Value.ref 193, Value.int 698 0, Value.int 251 0, Value.str (Str.ofString "/claim/cut.py") 699] }
noncomputable def ob195 (P : Params) : Obj := { cls := Value.type "function", data := Data.func { name := Str.ofString "_law_takes", qualname := Str.ofString "_law_takes", params := fdA 47, body := FuncBody.stmts (fdB 47), scope := fdS 47, globals := 3, closure := [], defaults := Value.none, kwdefaults := Value.none, pyModule := Value.str (Str.ofString "law_rx0131_01") 642, code := Value.ref 194 } }
noncomputable def ob196 (P : Params) : Obj := { cls := Value.type "tuple", data := Data.seq #[] }
noncomputable def ob197 (P : Params) : Obj := { cls := Value.none, data := Data.fields #[] }
noncomputable def ob198 (P : Params) : Obj := { cls := Value.none, data := Data.func { name := Str.ofString "_law_fits", qualname := Str.ofString "_law_fits", params := fdA 48, body := FuncBody.stmts (fdB 48), scope := fdS 48, globals := 0, closure := [], defaults := Value.none, kwdefaults := Value.none } }
noncomputable def ob199 (P : Params) : Obj := { cls := Value.type "code", data := Data.fields #[Value.str (Str.ofString "_law_fits") 701, Value.str (Str.ofString "_law_fits") 702, Value.str (Str.ofString "/claim/cut.py") 703, Value.int 264 0, Value.int 2 0, Value.int 0 0, Value.int 0 0, Value.int 3 0, Value.ref 196, Value.bool true, Value.int 276 0, Value.ref 197, Value.none, Value.none, Value.none, Value.ref 198, Value.int 704 0, Value.int 264 0, Value.str (Str.ofString "/claim/cut.py") 705] }
noncomputable def ob200 (P : Params) : Obj := { cls := Value.type "function", data := Data.func { name := Str.ofString "_law_fits", qualname := Str.ofString "_law_fits", params := fdA 48, body := FuncBody.stmts (fdB 48), scope := fdS 48, globals := 3, closure := [], defaults := Value.none, kwdefaults := Value.none, pyModule := Value.str (Str.ofString "law_rx0131_01") 642, code := Value.ref 199 } }
noncomputable def ob201 (P : Params) : Obj := { cls := Value.type "tuple", data := Data.seq #[] }
noncomputable def ob202 (P : Params) : Obj := { cls := Value.none, data := Data.fields #[] }
noncomputable def ob203 (P : Params) : Obj := { cls := Value.none, data := Data.func { name := Str.ofString "_law_right", qualname := Str.ofString "_law_right", params := fdA 49, body := FuncBody.stmts (fdB 49), scope := fdS 49, globals := 0, closure := [], defaults := Value.none, kwdefaults := Value.none } }
noncomputable def ob204 (P : Params) : Obj := { cls := Value.type "code", data := Data.fields #[Value.str (Str.ofString "_law_right") 707, Value.str (Str.ofString "_law_right") 708, Value.str (Str.ofString "/claim/cut.py") 709, Value.int 272 0, Value.int 4 0, Value.int 0 0, Value.int 0 0, Value.int 3 0, Value.ref 201, Value.bool true, Value.int 276 0, Value.ref 202, Value.none, Value.none, Value.none, Value.ref 203, Value.int 710 0, Value.int 272 0, Value.str (Str.ofString "/claim/cut.py") 711] }
noncomputable def ob205 (P : Params) : Obj := { cls := Value.type "function", data := Data.func { name := Str.ofString "_law_right", qualname := Str.ofString "_law_right", params := fdA 49, body := FuncBody.stmts (fdB 49), scope := fdS 49, globals := 3, closure := [], defaults := Value.none, kwdefaults := Value.none, pyModule := Value.str (Str.ofString "law_rx0131_01") 642, code := Value.ref 204 } }
noncomputable def ob206 (P : Params) : Obj := { cls := Value.type "tuple", data := Data.seq #[] }
noncomputable def ob207 (P : Params) : Obj := { cls := Value.none, data := Data.fields #[] }
noncomputable def ob208 (P : Params) : Obj := { cls := Value.none, data := Data.func { name := Str.ofString "law", qualname := Str.ofString "law", params := fdA 50, body := FuncBody.stmts (fdB 50), scope := fdS 50, globals := 0, closure := [], defaults := Value.none, kwdefaults := Value.none } }
noncomputable def ob209 (P : Params) : Obj := { cls := Value.type "code", data := Data.fields #[Value.str (Str.ofString "law") 713, Value.str (Str.ofString "law") 714, Value.str (Str.ofString "/claim/cut.py") 715, Value.int 284 0, Value.int 1 0, Value.int 0 0, Value.int 0 0, Value.int 3 0, Value.ref 206, Value.bool true, Value.int 276 0, Value.ref 207, Value.none, Value.none, Value.none, Value.ref 208, Value.int 716 0, Value.int 284 0, Value.str (Str.ofString "/claim/cut.py") 717] }
noncomputable def ob210 (P : Params) : Obj := { cls := Value.type "function", data := Data.func { name := Str.ofString "law", qualname := Str.ofString "law", params := fdA 50, body := FuncBody.stmts (fdB 50), scope := fdS 50, globals := 3, closure := [], defaults := Value.none, kwdefaults := Value.none, pyModule := Value.str (Str.ofString "law_rx0131_01") 642, code := Value.ref 209 } }
noncomputable def oc3 (P : Params) : Obj := { cls := Value.type "dict", data := Data.dict #[{ hash := PyData.keyHash P (Str.ofString "__name__"), key := Value.str (Str.ofString "__name__") 165, val := Value.str (Str.ofString "__main__") 164 }, { hash := PyData.keyHash P (Str.ofString "__doc__"), key := Value.str (Str.ofString "__doc__") 166, val := Value.none }, { hash := PyData.keyHash P (Str.ofString "__package__"), key := Value.str (Str.ofString "__package__") 167, val := Value.none }, { hash := PyData.keyHash P (Str.ofString "__loader__"), key := Value.str (Str.ofString "__loader__") 168, val := Value.builtin "__main__.__loader__#opaque" }, { hash := PyData.keyHash P (Str.ofString "__spec__"), key := Value.str (Str.ofString "__spec__") 169, val := Value.none }, { hash := PyData.keyHash P (Str.ofString "__annotations__"), key := Value.str (Str.ofString "__annotations__") 170, val := Value.ref 6 }, { hash := PyData.keyHash P (Str.ofString "__builtins__"), key := Value.str (Str.ofString "__builtins__") 171, val := Value.ref 4 }, { hash := PyData.keyHash P (Str.ofString "__file__"), key := Value.str (Str.ofString "__file__") 173, val := Value.str (Str.ofString "/claim/cut.py") 172 }, { hash := PyData.keyHash P (Str.ofString "__cached__"), key := Value.str (Str.ofString "__cached__") 174, val := Value.none }, { hash := PyData.keyHash P (Str.ofString "_sre"), key := Value.str (Str.ofString "_sre") 275, val := Value.ref 12 }] 10 }
noncomputable def heapA (P : Params) : Heap := { objs := ⟨[ob0 P, ob1 P, ob2 P, oc3 P, ob4 P, ob5 P, ob6 P, ob7 P, ob8 P, ob9 P, ob10 P, ob11 P, ob12 P, ob13 P, ob14 P, ob15 P, ob16 P, ob17 P, ob18 P, ob19 P, ob20 P, ob21 P, ob22 P, ob23 P, ob24 P, ob25 P, ob26 P, ob27 P]⟩ }
noncomputable def heapZ (P : Params) : Heap := { objs := ⟨[ob0 P, ob1 P, ob2 P, ob3 P, ob4 P, ob5 P, ob6 P, ob7 P, ob8 P, ob9 P, ob10 P, ob11 P, ob12 P, ob13 P, ob14 P, ob15 P, ob16 P, ob17 P, ob18 P, ob19 P, ob20 P, ob21 P, ob22 P, ob23 P, ob24 P, ob25 P, ob26 P, ob27 P, ob28 P, ob29 P, ob30 P, ob31 P, ob32 P, ob33 P, ob34 P, ob35 P, ob36 P, ob37 P, ob38 P, ob39 P, ob40 P, ob41 P, ob42 P, ob43 P, ob44 P, ob45 P, ob46 P, ob47 P, ob48 P, ob49 P, ob50 P, ob51 P, ob52 P, ob53 P, ob54 P, ob55 P, ob56 P, ob57 P, ob58 P, ob59 P, ob60 P, ob61 P, ob62 P, ob63 P, ob64 P, ob65 P, ob66 P, ob67 P, ob68 P, ob69 P, ob70 P, ob71 P, ob72 P, ob73 P, ob74 P, ob75 P, ob76 P, ob77 P, ob78 P, ob79 P, ob80 P, ob81 P, ob82 P, ob83 P, ob84 P, ob85 P, ob86 P, ob87 P, ob88 P, ob89 P, ob90 P, ob91 P, ob92 P, ob93 P, ob94 P, ob95 P, ob96 P, ob97 P, ob98 P, ob99 P, ob100 P, ob101 P, ob102 P, ob103 P, ob104 P, ob105 P, ob106 P, ob107 P, ob108 P, ob109 P, ob110 P, ob111 P, ob112 P, ob113 P, ob114 P, ob115 P, ob116 P, ob117 P, ob118 P, ob119 P, ob120 P, ob121 P, ob122 P, ob123 P, ob124 P, ob125 P, ob126 P, ob127 P, ob128 P, ob129 P, ob130 P, ob131 P, ob132 P, ob133 P, ob134 P, ob135 P, ob136 P, ob137 P, ob138 P, ob139 P, ob140 P, ob141 P, ob142 P, ob143 P, ob144 P, ob145 P, ob146 P, ob147 P, ob148 P, ob149 P, ob150 P, ob151 P, ob152 P, ob153 P, ob154 P, ob155 P, ob156 P, ob157 P, ob158 P, ob159 P, ob160 P, ob161 P, ob162 P, ob163 P, ob164 P, ob165 P, ob166 P, ob167 P, ob168 P, ob169 P, ob170 P, ob171 P, ob172 P, ob173 P, ob174 P, ob175 P, ob176 P, ob177 P, ob178 P, ob179 P, ob180 P, ob181 P, ob182 P, ob183 P, ob184 P, ob185 P, ob186 P, ob187 P, ob188 P, ob189 P, ob190 P, ob191 P, ob192 P, ob193 P, ob194 P, ob195 P, ob196 P, ob197 P, ob198 P, ob199 P, ob200 P, ob201 P, ob202 P, ob203 P, ob204 P, ob205 P, ob206 P, ob207 P, ob208 P, ob209 P, ob210 P]⟩ }
/-- the opening, by the functions given -/
noncomputable def OpenQ (imp : (String → Option Builtin) → Program → World → Nat → Shared → Thread → Option Shared) (fen : Program → Shared → Option Shared) (st : Program → Shared × Thread) (tb : String → Option Builtin) (w : World) : Prop :=
  ((imp tb (opening pw) w 4850 (st (opening pw)).1 (st (opening pw)).2).bind (fen pw)).map (fun s => (s.heap, s.gens, s.drawn, s.toks)) = some (heapA w.params, #[], {}, 276)
theorem open_q (w : World) : OpenQ PySem.W.Fast.tw10274390034422433532 PySem.W.Fast.tw14289696077712309145 PySem.W.Fast.tw1435165496053646825 PySem.W.Fast.tw14364793385576792824 w := by
  unfold OpenQ
  kernel_rfl
theorem open_all (w : World) : (fencedOpening treeTable pw w 4850).map (fun s => (s.heap, s.gens, s.drawn, s.toks)) = some (heapA w.params, #[], {}, 276) := by
  have h := open_q w
  rw [← PySem.W.Fast.te10274390034422433532, ← PySem.W.Fast.te14289696077712309145, ← PySem.W.Fast.te1435165496053646825, ← PySem.W.Fast.te14364793385576792824] at h
  exact h
theorem size_all (w : World) : ((heapA w.params).isNs mainGlobals && (#[] : Array GenState).size == 0, (heapA w.params).objs.size, (heapA w.params).nsMap mainGlobals "__annotations__") = (true, 28, some (.ref 6)) := by kernel_rfl
/-- the top -/
noncomputable def TopQ (run : (String → Option Builtin) → Program → World → Nat → Option Value → Nat → Shared → Thread → Option Shared) (tb : String → Option Builtin) (w : World) : Prop :=
  ∀ os : OsState, run tb pw w 28 (some (.ref 6)) 2400 ⟨heapA w.params, #[], {}, 276, os⟩ (topStub pw) = some ⟨heapZ w.params, #[], {}, 719, os⟩
abbrev TopF (w : World) : Prop := TopQ PySem.W.Fast.tw14082659384304107361 PySem.W.Fast.tw14364793385576792824 w
theorem top_ff (w : World) : TopF ((w.withFollow "comprehension-iter-twice" false).withFollow "special-get-raises" false) := fun os => by kernel_rfl
theorem top_ft (w : World) : TopF ((w.withFollow "comprehension-iter-twice" false).withFollow "special-get-raises" true) := fun os => by kernel_rfl
theorem top_tf (w : World) : TopF ((w.withFollow "comprehension-iter-twice" true).withFollow "special-get-raises" false) := fun os => by kernel_rfl
theorem top_tt (w : World) : TopF ((w.withFollow "comprehension-iter-twice" true).withFollow "special-get-raises" true) := fun os => by kernel_rfl
theorem top_f (w : World) : TopF w :=
  byRow2 "special-get-raises" (P := TopF) (fun w => byRow2 "comprehension-iter-twice" (P := fun w => TopF (w.withFollow "special-get-raises" false)) top_ff top_tf w)
    (fun w => byRow2 "comprehension-iter-twice" (P := fun w => TopF (w.withFollow "special-get-raises" true)) top_ft top_tt w) w
theorem top_all (w : World) (os : OsState) : topRun treeTable pw w 28 (some (.ref 6)) 2400 ⟨heapA w.params, #[], {}, 276, os⟩ (topStub pw) = some ⟨heapZ w.params, #[], {}, 719, os⟩ := by
  have h : TopQ PySem.W.Fast.tw14082659384304107361 PySem.W.Fast.tw14364793385576792824 w := top_f w
  rw [← PySem.W.Fast.te14082659384304107361, ← PySem.W.Fast.te14364793385576792824] at h
  exact h os
/-- what is looked at behind the top -/
theorem looks_1 (w : World) (os : OsState) : (staticsOk (importedModules pw.main.body) (heapA w.params) (heapZ w.params) && namesBound pw (heapZ w.params) && gensDone ⟨heapZ w.params, #[], {}, 719, os⟩ && laidKept (heapA w.params) (heapZ w.params)) = true := by kernel_rfl
theorem looks_2 (w : World) (os : OsState) : PySem.W.Fast.tw4187177175401517315 viewQ looseQ (importedModules pw.main.body) XtQ true ⟨heapZ w.params, #[], {}, 719, os⟩ = openGood viewQ looseQ := by kernel_rfl
theorem looks_3 (w : World) (os : OsState) : openSeen viewQ looseQ (importedModules pw.main.body) XtQ true ⟨heapZ w.params, #[], {}, 719, os⟩ = openGood viewQ looseQ := by
  rw [PySem.W.Fast.te4187177175401517315]
  exact looks_2 w os
theorem left_all : LeftO pw viewQ looseQ XtQ (fun _ => ()) (fun _ => ()) 4850 :=
  LeftO.of_pieces (H₀ := heapA) (H₁ := heapZ) (gs₀ := #[]) (gs₁ := #[]) (d₀ := {}) (d₁ := {}) (k₀ := 276) (k₁ := 719) (m₀ := 28) (ann := some (.ref 6)) (M := 2400) open_all size_all top_all (by decide +kernel)
    fun w => funext fun os => by
      show ((_, _, _) : Bool × _ × Unit) = _
      rw [looks_1 w os, looks_3 w os]
end
section
/-- every object of the first heap stands in the second -/
abbrev Sub (h h' : Heap) : Prop := ∀ b o, h.get? b = some o → h'.get? b = some o
theorem Sub.refl {h : Heap} : Sub h h := fun _ _ e => e
theorem Sub.trans {a b c : Heap} (x : Sub a b) (y : Sub b c) : Sub a c := fun k o e => y k o (x k o e)

theorem sx_of (x : Str) : Sx x.cps.toList = x := by cases x; rfl
theorem sx_cat (a b : List Nat) : Sx a ++ Sx b = Sx (a ++ b) := by show Str.mk (a.toArray ++ b.toArray) = _; simp
theorem sx_len (a : List Nat) : (Sx a).length = a.length := by simp [Str.length]
theorem sx_inj {a b : List Nat} (h : Sx a = Sx b) : a = b := by simpa using h
theorem sx_beq (a b : List Nat) : (Sx a == Sx b) = (a == b) := by
  rw [Bool.eq_iff_iff, beq_iff_eq, beq_iff_eq]; exact ⟨sx_inj, fun e => by rw [e]⟩

theorem sx_bne (a b : List Nat) : (Sx a != Sx b) = (a != b) := congrArg not (sx_beq a b)
structure Cx where
  prog : Program
  w : World
  W : Heap
  mg : Str → Option Value
  mb : Str → Option Value

inductive D where
  | none
  | bool (b : Bool)
  | int (i : Int)
  | str (x : List Nat)
  | list (l : List D)
  | tup (l : List D)
  | dict (kv : List (List Nat × List Nat))
  | val (v : Value)
  | rng (a b : Int)
  | meth (a : Addr)

/-- a list's own append, bound -/
noncomputable def bound (a : Addr) : Obj := { cls := .type "builtin_function_or_method", data := .fields #[.builtin "list.append", .ref a] }

abbrev XS := Addr → Prop

mutual
noncomputable def Rd (P : Cx) (X : XS) (h : Heap) : D → Value → Prop
  | .none, v => v = .none
  | .bool b, v => v = .bool b
  | .int i, v => ∃ t, v = .int i t
  | .str x, v => ∃ t, v = .str (Sx x) t
  | .list l, v => ∃ a vs, v = .ref a ∧ ¬ X a ∧ h.IsList a vs ∧ Rds P X h l vs.toList
  | .tup l, v => ∃ a vs, v = .ref a ∧ ¬ X a ∧ IsTup h a vs ∧ Rds P X h l vs.toList
  | .dict kv, v => ∃ a m, v = .ref a ∧ ¬ X a ∧ (a == sysModules) = false ∧ h.MapOf (strKind P.prog P.w) a m ∧ ∀ k, (kv.lookup k = .none → m (Sx k) = .none) ∧ ∀ x, kv.lookup k = some x → ∃ t, m (Sx k) = some (.str (Sx x) t)
  | .val u, v => v = u
  | .rng a b, v => ∃ r t u w, v = .ref r ∧ ¬ X r ∧ IsRange h r a b 1 t u w
  | .meth a, v => ∃ r, v = .ref r ∧ ¬ X r ∧ h.get? r = some (bound a)
noncomputable def Rds (P : Cx) (X : XS) (h : Heap) : List D → List Value → Prop
  | [], vs => vs = []
  | d :: ds, vs => ∃ v r, vs = v :: r ∧ Rd P X h d v ∧ Rds P X h ds r
end

theorem isList_at {h h' : Heap} {a : Addr} {items : Array Value} (x : h.IsList a items) (e : ∀ o, h.get? a = some o → h'.get? a = some o) : h'.IsList a items := let ⟨o, ho, r⟩ := x; ⟨o, e _ ho, r⟩
theorem isTup_at {h h' : Heap} {a : Addr} {items : Array Value} (x : IsTup h a items) (e : ∀ o, h.get? a = some o → h'.get? a = some o) : IsTup h' a items := let ⟨o, ho, r⟩ := x; ⟨o, e _ ho, r⟩
theorem mapOf_at {P : Cx} {h h' : Heap} {a : Addr} {m} (x : h.MapOf (strKind P.prog P.w) a m) (e : ∀ o, h.get? a = some o → h'.get? a = some o) : h'.MapOf (strKind P.prog P.w) a m := let ⟨o, es, ep, ho, r⟩ := x; ⟨o, es, ep, e _ ho, r⟩
theorem isList_got {h : Heap} {a : Addr} {items : Array Value} (x : h.IsList a items) : ∃ o, h.get? a = some o := let ⟨o, ho, _⟩ := x; ⟨o, ho⟩
theorem isTup_got {h : Heap} {a : Addr} {items : Array Value} (x : IsTup h a items) : ∃ o, h.get? a = some o := let ⟨o, ho, _⟩ := x; ⟨o, ho⟩
theorem mapOf_got {P : Cx} {h : Heap} {a : Addr} {m} (x : h.MapOf (strKind P.prog P.w) a m) : ∃ o, h.get? a = some o := let ⟨o, _, _, ho, _⟩ := x; ⟨o, ho⟩

mutual
theorem Rd.mono {P : Cx} {X X' : XS} {h h' : Heap} (k : ∀ a o, ¬ X a → h.get? a = some o → ¬ X' a ∧ h'.get? a = some o) : ∀ {d : D} {v : Value}, Rd P X h d v → Rd P X' h' d v
  | .none, v, r => r
  | .bool b, v, r => r
  | .int i, v, r => r
  | .str x, v, r => r
  | .list l, v, r => by
    obtain ⟨a, vs, e, nx, hl, hr⟩ := r
    obtain ⟨o, ho⟩ := isList_got hl
    exact ⟨a, vs, e, (k a o nx ho).1, isList_at hl (fun o e => (k a o nx e).2), Rds.mono k hr⟩
  | .tup l, v, r => by
    obtain ⟨a, vs, e, nx, hl, hr⟩ := r
    obtain ⟨o, ho⟩ := isTup_got hl
    exact ⟨a, vs, e, (k a o nx ho).1, isTup_at hl (fun o e => (k a o nx e).2), Rds.mono k hr⟩
  | .dict kv, v, r => by
    obtain ⟨a, m, e, nx, hs, hl, hr⟩ := r
    obtain ⟨o, ho⟩ := mapOf_got hl
    exact ⟨a, m, e, (k a o nx ho).1, hs, mapOf_at hl (fun o e => (k a o nx e).2), hr⟩
  | .val u, v, r => r
  | .rng a b, v, r => by
    obtain ⟨c, t, u, w, e, nx, hr⟩ := r
    exact ⟨c, t, u, w, e, (k c _ nx hr).1, (k c _ nx hr).2⟩
  | .meth a, v, r => by
    obtain ⟨c, e, nx, hr⟩ := r
    exact ⟨c, e, (k c _ nx hr).1, (k c _ nx hr).2⟩
theorem Rds.mono {P : Cx} {X X' : XS} {h h' : Heap} (k : ∀ a o, ¬ X a → h.get? a = some o → ¬ X' a ∧ h'.get? a = some o) : ∀ {ds : List D} {vs : List Value}, Rds P X h ds vs → Rds P X' h' ds vs
  | [], vs, r => r
  | d :: ds, vs, r => by
    obtain ⟨v, s, e, h1, h2⟩ := r
    exact ⟨v, s, e, Rd.mono k h1, Rds.mono k h2⟩
end

section
variable {P : Cx} {X X' : XS} {h h' : Heap}
theorem Rd.sub {d : D} {v : Value} (r : Rd P X h d v) (k : Sub h h') : Rd P X h' d v := r.mono fun a o nx e => ⟨nx, k a o e⟩
theorem Rds.sub {d : List D} {v : List Value} (r : Rds P X h d v) (k : Sub h h') : Rds P X h' d v := r.mono fun a o nx e => ⟨nx, k a o e⟩
theorem Rd.weak {d : D} {v : Value} (r : Rd P X h d v) (k : ∀ a, X' a → X a) : Rd P X' h d v := r.mono fun a o nx e => ⟨fun y => nx (k a y), e⟩
theorem Rds.weak {d : List D} {v : List Value} (r : Rds P X h d v) (k : ∀ a, X' a → X a) : Rds P X' h d v := r.mono fun a o nx e => ⟨fun y => nx (k a y), e⟩

theorem Rds.length : ∀ {ds : List D} {vs : List Value}, Rds P X h ds vs → vs.length = ds.length
  | [], vs, r => by rw [show vs = [] from r]; rfl
  | d :: ds, vs, r => by
    obtain ⟨v, s, e, h1, h2⟩ := r
    rw [e, List.length_cons, List.length_cons, Rds.length h2]
theorem Rds.get : ∀ {ds : List D} {vs : List Value} {i : Nat} {d : D}, Rds P X h ds vs → ds[i]? = some d → ∃ v, vs[i]? = some v ∧ Rd P X h d v
  | [], vs, i, d, r, e => by simp at e
  | d₀ :: ds, vs, i, d, r, e => by
    obtain ⟨v, s, e', h1, h2⟩ := r
    subst e'
    cases i with
    | zero => simp at e; subst e; exact ⟨v, rfl, h1⟩
    | succ i => simpa using Rds.get (i := i) h2 (by simpa using e)
theorem Rds.append : ∀ {ds ds' : List D} {vs vs' : List Value}, Rds P X h ds vs → Rds P X h ds' vs' → Rds P X h (ds ++ ds') (vs ++ vs')
  | [], ds', vs, vs', r, r' => by rw [show vs = [] from r]; exact r'
  | d :: ds, ds', vs, vs', r, r' => by
    obtain ⟨v, s, e, h1, h2⟩ := r
    subst e
    exact ⟨v, s ++ vs', rfl, h1, Rds.append h2 r'⟩
theorem Rds.take : ∀ {ds : List D} {vs : List Value} (n : Nat), Rds P X h ds vs → Rds P X h (ds.take n) (vs.take n)
  | [], vs, n, r => by rw [show vs = [] from r]; simp [Rds]
  | d :: ds, vs, 0, r => by simp [Rds]
  | d :: ds, vs, n + 1, r => by
    obtain ⟨v, s, e, h1, h2⟩ := r
    subst e
    exact ⟨v, s.take n, rfl, h1, Rds.take n h2⟩
theorem Rds.drop : ∀ {ds : List D} {vs : List Value} (n : Nat), Rds P X h ds vs → Rds P X h (ds.drop n) (vs.drop n)
  | [], vs, n, r => by rw [show vs = [] from r]; simp [Rds]
  | d :: ds, vs, 0, r => r
  | d :: ds, vs, n + 1, r => by
    obtain ⟨v, s, e, h1, h2⟩ := r
    subst e
    exact Rds.drop n h2
end

/-- room above: frames and C units -/
noncomputable def Room (n : Nat) (A : Around) : Prop := A.handled = none ∧ A.depth + n < 900 ∧ A.units + 20 * n < 9000
theorem Room.le {n m : Nat} {A : Around} (r : Room n A) (h : m ≤ n) : Room m A := ⟨r.1, by have := r.2.1; omega, by have := r.2.2; omega⟩
theorem Room.deeper {n : Nat} {A : Around} {env : Env} (r : Room (n + 1) A) : Room n (A.deeper env) :=
  ⟨r.1, by show A.depth + 1 + n < 900; have := r.2.1; omega, by show A.units + 3 + 20 * n < 9000; have := r.2.2; omega⟩
theorem Room.depth {n : Nat} {A : Around} (r : Room n A) : A.depth < recursionLimit := by have := r.2.1; show _ < 1000; omega
theorem Room.units {n : Nat} {A : Around} (r : Room n A) : A.units + 100 < cLine := by have := r.2.2; rw [cLine_is]; omega

/-- where a run stands: all of h is there, what may be written too, and a token was dealt -/
structure At (X : XS) (h : Heap) (s : Shared) : Prop where
  sub : Sub h s.heap
  xo : ∀ a, X a → ∃ o, s.heap.get? a = some o
  tp : 0 ≤ s.toks
theorem At.new {X : XS} {h : Heap} {s : Shared} (x : At X h s) : ¬ X s.heap.objs.size := fun y => by
  obtain ⟨o, ho⟩ := x.xo _ y
  exact absurd (Heap.lt_size ho) (Nat.lt_irrefl _)
theorem At.step {X : XS} {h h' : Heap} {s : Shared} {tk : Nat} (x : At X h s) (k : Sub s.heap h') (t : s.toks ≤ tk) : At X h { s with heap := h', toks := tk } :=
  ⟨x.sub.trans k, fun a y => let ⟨o, ho⟩ := x.xo a y; ⟨o, k _ _ ho⟩, Nat.zero_le _⟩
theorem At.low {X : XS} {h h' : Heap} {s : Shared} (x : At X h s) (k : Sub h' h) : At X h' s := ⟨k.trans x.sub, x.xo, x.tp⟩
theorem Sub.push {h : Heap} (o : Obj) : Sub h (h.push o) := fun _ _ e => Heap.get?_push_of_some _ e

/-- what is handed on: a value that reads as d, all else as it was -/
abbrev Ret (P : Cx) (X : XS) (s : Shared) (d : D) (Q : Value → Shared → Prop) : Prop :=
  ∀ v h' tk, Sub s.heap h' → Rd P X h' d v → Q v { s with heap := h', toks := tk }

/-- a tree that yields d -/
noncomputable def Tv (P : Cx) (n : Nat) (X : XS) (h : Heap) (t : Sem Value) (d : D) : Prop :=
  ∀ (A : Around) (s : Shared) (Q E : Value → Shared → Prop), Room n A → At X h s → Ret P X s d Q → wpAny (model P.prog P.w) A t Q E s
abbrev Ev (P : Cx) (n : Nat) (X : XS) (env : Env) (h : Heap) (e : Expr) (d : D) : Prop := Tv P n X h (eval e env) d

theorem Tv.sub {P : Cx} {n : Nat} {X : XS} {h h' : Heap} {t : Sem Value} {d : D} (x : Tv P n X h t d) (k : Sub h h') : Tv P n X h' t d :=
  fun A s Q E r a ret => x A s Q E r (a.low k) ret
theorem Tv.le {P : Cx} {n m : Nat} {X : XS} {h : Heap} {t : Sem Value} {d : D} (x : Tv P n X h t d) (k : n ≤ m) : Tv P m X h t d :=
  fun A s Q E r a ret => x A s Q E (r.le k) a ret

/-- a step upon values that stand already -/
noncomputable def Op (P : Cx) (n : Nat) (X : XS) (s : Shared) (A : Around) (t : Sem Value) (d : D) : Prop :=
  ∀ (Q E : Value → Shared → Prop), Ret P X s d Q → wpAny (model P.prog P.w) A t Q E s

section
variable {P : Cx} {n : Nat} {X : XS} {env : Env} {h : Heap}

/-- run a tree, then go on -/
theorem Tv.run {t : Sem Value} {d : D} {A : Around} {s : Shared} {Q E : Value → Shared → Prop} (x : Tv P n X h t d) (rm : Room n A) (a : At X h s)
    (ret : ∀ v h' tk, Sub s.heap h' → At X h { s with heap := h', toks := tk } → Rd P X h' d v → Q v { s with heap := h', toks := tk }) :
    wpAny (model P.prog P.w) A t Q E s :=
  wpAny_with_toks (Nat.le_refl _) (x A s _ _ rm a fun v h' tk k r t => ret v h' tk k (a.step k t) r)

theorem Ret.trans {s : Shared} {d : D} {Q : Value → Shared → Prop} {h' : Heap} {tk : Nat} (ret : Ret P X s d Q) (k : Sub s.heap h') : Ret P X { s with heap := h', toks := tk } d Q :=
  fun v h'' tk' k' r => ret v h'' tk' (k.trans k') r
theorem Ret.here {s : Shared} {d : D} {Q : Value → Shared → Prop} {v : Value} {tk : Nat} (ret : Ret P X s d Q) (r : Rd P X s.heap d v) : Q v { s with toks := tk } := ret v s.heap tk Sub.refl r

theorem ev_int {i : Int} {k : Nat} {pos : Pos} : Ev P n X env h (.Constant (.int i) k pos) (.int i) :=
  fun _ _ _ _ _ _ ret => wpAny_Constant_int (ret.here ⟨_, rfl⟩)
theorem ev_str {x : Str} {k : Nat} {pos : Pos} : Ev P n X env h (.Constant (.str x) k pos) (.str x.cps.toList) :=
  fun _ _ _ _ _ _ ret => Constant_str (ret.here ⟨_, rfl⟩)
theorem ev_strL (l : List Nat) {x : Str} {k : Nat} {pos : Pos} (e : x = Sx l) : Ev P n X env h (.Constant (.str x) k pos) (.str l) :=
  fun _ _ _ _ _ _ ret => Constant_str (ret.here ⟨_, by rw [e]⟩)
theorem ev_bool {b : Bool} {k : Nat} {pos : Pos} : Ev P n X env h (.Constant (.bool b) k pos) (.bool b) :=
  fun _ s _ _ _ _ ret => wpAny_pure (ret (.bool b) s.heap s.toks Sub.refl rfl)
theorem ev_none {k : Nat} {pos : Pos} : Ev P n X env h (.Constant .none k pos) .none :=
  fun _ s _ _ _ _ ret => wpAny_pure (ret .none s.heap s.toks Sub.refl rfl)

theorem ev_binop {l r : Expr} {op : Operator} {pos : Pos} {d₁ d₂ d : D} (hl : Ev P n X env h l d₁) (hr : Ev P n X env h r d₂)
    (ho : ∀ A s v₁ v₂, Room n A → At X h s → Rd P X s.heap d₁ v₁ → Rd P X s.heap d₂ v₂ → Op P n X s A (binaryOp op v₁ v₂) d) : Ev P n X env h (.BinOp l op r pos) d :=
  fun A s Q E rm a ret => wpAny_BinOp (hl.run rm a fun v₁ h₁ tk₁ k₁ a₁ r₁ => hr.run rm a₁ fun v₂ h₂ tk₂ k₂ a₂ r₂ =>
    ho A _ v₁ v₂ rm a₂ (r₁.sub k₂) r₂ Q E (ret.trans (k₁.trans k₂)))

theorem ev_compare {l r : Expr} {op : CmpOp} {pos : Pos} {d₁ d₂ d : D} (hl : Ev P n X env h l d₁) (hr : Ev P n X env h r d₂)
    (ho : ∀ A s v₁ v₂, Room n A → At X h s → Rd P X s.heap d₁ v₁ → Rd P X s.heap d₂ v₂ → Op P n X s A (compareOp op v₁ v₂) d)
    (hm : behindInMarks op r = false := by kernel_rfl) : Ev P n X env h (.Compare l [op] [r] pos) d :=
  fun A s Q E rm a ret => wpAny_Compare1 (hl.run rm a fun v₁ h₁ tk₁ k₁ a₁ r₁ => hr.run rm a₁ fun v₂ h₂ tk₂ k₂ a₂ r₂ =>
    ho A _ v₁ v₂ rm a₂ (r₁.sub k₂) r₂ Q E (ret.trans (k₁.trans k₂))) hm

theorem ev_unary {x : Expr} {op : UnaryOp} {pos : Pos} {d₁ d : D} (hx : Ev P n X env h x d₁)
    (ho : ∀ A s v₁, Room n A → At X h s → Rd P X s.heap d₁ v₁ → Op P n X s A (unaryOp op v₁) d) : Ev P n X env h (.UnaryOp op x pos) d :=
  fun A s Q E rm a ret => wpAny_UnaryOp (hx.run rm a fun v₁ h₁ tk₁ k₁ a₁ r₁ => ho A _ v₁ rm a₁ r₁ Q E (ret.trans k₁))
end
end
section
structure Cx.Good (P : Cx) : Prop where
  g : P.W.Ns mainGlobals P.mg
  b : P.W.Ns builtinsNs P.mb
  nolimit : P.W.NoLimit

/-- an environment of a def's, or of a comprehension's in one -/
structure Fe (env : Env) : Prop where
  hk : env.scope.kind = .function
  hg : env.globals = mainGlobals
  hb : env.builtins = builtinsNs

/-- the name holds v -/
noncomputable def Hn (env : Env) (h : Heap) (x : Str) (v : Value) : Prop :=
  (env.kindOf x = some .local ∧ ∃ m, h.Ns env.locals m ∧ m x = some v) ∨ (env.kindOf x = some .cell ∧ ∃ c, env.cells.lookup x = some c ∧ h.IsCell c (some v))
/-- the name holds something that reads as d -/
noncomputable def Vr (P : Cx) (X : XS) (env : Env) (h : Heap) (x : Str) (d : D) : Prop := ∃ v, Hn env h x v ∧ Rd P X h d v

theorem Hn.sub {env : Env} {h h' : Heap} {x : Str} {v : Value} (a : Hn env h x v) (k : Sub h h') : Hn env h' x v := by
  rcases a with ⟨h1, m, h2, h3⟩ | ⟨h1, c, h2, h3⟩
  · exact .inl ⟨h1, m, h2.keeps k, h3⟩
  · exact .inr ⟨h1, c, h2, h3.keeps k⟩
theorem Vr.sub {P : Cx} {X : XS} {env : Env} {h h' : Heap} {x : Str} {d : D} (a : Vr P X env h x d) (k : Sub h h') : Vr P X env h' x d := let ⟨v, h1, h2⟩ := a; ⟨v, h1.sub k, h2.sub k⟩

section
variable {P : Cx} {n : Nat} {X : XS} {env : Env} {h : Heap}

theorem load_of {x : Str} {v : Value} {A : Around} {M : Model} {s : Shared} {Q E : Value → Shared → Prop} (F : Fe env) (a : Hn env s.heap x v) (hQ : Q v s) : wpAny M A (loadName env x) Q E s := by
  rcases a with ⟨h1, m, h2, h3⟩ | ⟨h1, c, h2, h3⟩
  · exact wpAny_loadName_local F.hk h1 h2 h3 hQ
  · exact wpAny_loadName_cell F.hk h1 h2 h3 hQ

theorem ev_name {x : Str} {pos : Pos} {d : D} (F : Fe env) (a : Vr P X env h x d) (hd : (x == ("__debug__" : Str)) = false := by decide +kernel) : Ev P n X env h (.Name x pos) d :=
  fun A s Q E rm k ret => by
    obtain ⟨v, h1, h2⟩ := a.sub k.sub
    exact wpAny_Name (load_of F h1 (ret v s.heap s.toks Sub.refl h2)) hd

theorem ev_glob {x : Str} {pos : Pos} {v : Value} (G : P.Good) (F : Fe env) (kW : Sub P.W h) (hx : env.kindOf x = some .globalImplicit) (hv : P.mg x = some v)
    (hd : (x == ("__debug__" : Str)) = false := by decide +kernel) : Ev P n X env h (.Name x pos) (.val v) :=
  fun A s Q E rm k ret => Name_function_global F.hk hx (loadGlobal_global (by rw [F.hg]; exact G.g.keeps (kW.trans k.sub)) hv (ret v s.heap s.toks Sub.refl rfl)) hd
theorem ev_blt {x : Str} {pos : Pos} {v : Value} (G : P.Good) (F : Fe env) (kW : Sub P.W h) (hx : env.kindOf x = some .globalImplicit) (hn : P.mg x = none) (hv : P.mb x = some v)
    (hd : (x == ("__debug__" : Str)) = false := by decide +kernel) : Ev P n X env h (.Name x pos) (.val v) :=
  fun A s Q E rm k ret => Name_function_global F.hk hx (loadGlobal_builtin (by rw [F.hg]; exact G.g.keeps (kW.trans k.sub)) hn (by rw [F.hb]; exact G.b.keeps (kW.trans k.sub)) hv (ret v s.heap s.toks Sub.refl rfl)) hd
end

/-! ints -/
section
variable {P : Cx} {n : Nat} {X : XS} {env : Env} {h : Heap} {l r : Expr} {pos : Pos} {a b : Int} {x y : List Nat}

theorem ev_add (hl : Ev P n X env h l (.int a)) (hr : Ev P n X env h r (.int b)) : Ev P n X env h (.BinOp l .Add r pos) (.int (a + b)) :=
  ev_binop hl hr fun A s v₁ v₂ rm k r₁ r₂ Q E ret => by obtain ⟨t, rfl⟩ := r₁; obtain ⟨u, rfl⟩ := r₂; exact add_int (ret.here ⟨_, rfl⟩)
theorem ev_sub (hl : Ev P n X env h l (.int a)) (hr : Ev P n X env h r (.int b)) : Ev P n X env h (.BinOp l .Sub r pos) (.int (a - b)) :=
  ev_binop hl hr fun A s v₁ v₂ rm k r₁ r₂ Q E ret => by obtain ⟨t, rfl⟩ := r₁; obtain ⟨u, rfl⟩ := r₂; exact sub_int (ret.here ⟨_, rfl⟩)
theorem ev_mul (hl : Ev P n X env h l (.int a)) (hr : Ev P n X env h r (.int b)) (hm : IntMulOk a b) : Ev P n X env h (.BinOp l .Mult r pos) (.int (a * b)) :=
  ev_binop hl hr fun A s v₁ v₂ rm k r₁ r₂ Q E ret => by obtain ⟨t, rfl⟩ := r₁; obtain ⟨u, rfl⟩ := r₂; exact mul_int (ret.here ⟨_, rfl⟩) hm
theorem ev_fdiv (hl : Ev P n X env h l (.int a)) (hr : Ev P n X env h r (.int b)) (hb : 0 < b) (hs : b < 2 ^ 20) : Ev P n X env h (.BinOp l .FloorDiv r pos) (.int (a / b)) :=
  ev_binop hl hr fun A s v₁ v₂ rm k r₁ r₂ Q E ret => by
    obtain ⟨t, rfl⟩ := r₁; obtain ⟨u, rfl⟩ := r₂
    refine floordiv_int (by omega) (ret.here ⟨_, by rw [Int.fdiv_eq_ediv_of_nonneg _ (by omega)]⟩) (Or.inl (PyProof.noPylong_small (by omega)))
theorem ev_mod (hl : Ev P n X env h l (.int a)) (hr : Ev P n X env h r (.int b)) (hb : 0 < b) : Ev P n X env h (.BinOp l .Mod r pos) (.int (a % b)) :=
  ev_binop hl hr fun A s v₁ v₂ rm k r₁ r₂ Q E ret => by
    obtain ⟨t, rfl⟩ := r₁; obtain ⟨u, rfl⟩ := r₂
    exact mod_int' (by omega) (ret.here ⟨_, by rw [Int.fmod_eq_emod_of_nonneg _ (by omega)]⟩)
theorem ev_pow (hl : Ev P n X env h l (.int a)) (hr : Ev P n X env h r (.int b)) (hb : 0 ≤ b) (hs : (Builtin.Int.intBits a : Int) * b ≤ 2 ^ 27) : Ev P n X env h (.BinOp l .Pow r pos) (.int (a ^ b.toNat)) :=
  ev_binop hl hr fun A s v₁ v₂ rm k r₁ r₂ Q E ret => by obtain ⟨t, rfl⟩ := r₁; obtain ⟨u, rfl⟩ := r₂; exact pow_int hb hs (ret.here ⟨_, rfl⟩)
theorem ev_band (hl : Ev P n X env h l (.int a)) (hr : Ev P n X env h r (.int b)) : Ev P n X env h (.BinOp l .BitAnd r pos) (.int (Builtin.bitAnd a b)) :=
  ev_binop hl hr fun A s v₁ v₂ rm k r₁ r₂ Q E ret => by obtain ⟨t, rfl⟩ := r₁; obtain ⟨u, rfl⟩ := r₂; exact and_int (ret.here ⟨_, rfl⟩)
theorem ev_cat (hl : Ev P n X env h l (.str x)) (hr : Ev P n X env h r (.str y)) (hs : x.length + y.length ≤ 1000000) : Ev P n X env h (.BinOp l .Add r pos) (.str (x ++ y)) :=
  ev_binop hl hr fun A s v₁ v₂ rm k r₁ r₂ Q E ret => by obtain ⟨t, rfl⟩ := r₁; obtain ⟨u, rfl⟩ := r₂; exact PyProof.Rows.add_str (fun t' tk => ret.here ⟨_, by rw [sx_cat]⟩) (by rw [sx_len, sx_len, sizeLine_eq]; omega)
theorem ev_rep {k : Int} (hl : Ev P n X env h l (.str x)) (hr : Ev P n X env h r (.int k)) (hok : MulOk (Sx x) k) : Ev P n X env h (.BinOp l .Mult r pos) (.str (Txt.mul (Sx x) k).cps.toList) :=
  ev_binop hl hr fun A s v₁ v₂ rm k r₁ r₂ Q E ret => by obtain ⟨t, rfl⟩ := r₁; obtain ⟨u, rfl⟩ := r₂; exact SB.mul hok (fun t' tk => ret.here ⟨_, rfl⟩)

theorem ev_uneg (hl : Ev P n X env h l (.int a)) : Ev P n X env h (.UnaryOp .USub l pos) (.int (-a)) :=
  ev_unary hl fun A s v₁ rm k r₁ Q E ret => by obtain ⟨t, rfl⟩ := r₁; exact neg_int (ret.here ⟨_, rfl⟩)

end

/-! comparisons -/
/-- both sides, then the comparison: b -/
noncomputable def Cm (P : Cx) (n : Nat) (X : XS) (env : Env) (h : Heap) (l : Expr) (op : CmpOp) (r : Expr) (b : Bool) : Prop :=
  behindInMarks op r = false ∧ ∀ (A : Around) (s : Shared) (Q E : Value → Shared → Prop), Room n A → At X h s → Ret P X s (.bool b) Q →
    wpAny (model P.prog P.w) A (eval l env) (fun a s₁ => wpAny (model P.prog P.w) A (eval r env) (fun b s₂ => wpAny (model P.prog P.w) A (compareOp op a b) Q E s₂) E s₁) E s

/-- a test: b -/
noncomputable def Tt (P : Cx) (n : Nat) (X : XS) (env : Env) (h : Heap) (e : Expr) (b : Bool) : Prop :=
  ∀ (A : Around) (s : Shared) (Q : Bool → Shared → Prop) (E : Value → Shared → Prop), Room n A → At X h s →
    (∀ h' tk, Sub s.heap h' → Q b { s with heap := h', toks := tk }) → wpAny (model P.prog P.w) A (isTrue e env (eval e env)) Q E s

theorem Tt.run {P : Cx} {n : Nat} {X : XS} {env : Env} {h : Heap} {e : Expr} {b : Bool} (x : Tt P n X env h e b) {A : Around} {s : Shared} {Q : Bool → Shared → Prop} {E : Value → Shared → Prop} (rm : Room n A) (a : At X h s)
    (ret : ∀ h' tk, Sub s.heap h' → At X h { s with heap := h', toks := tk } → Q b { s with heap := h', toks := tk }) : wpAny (model P.prog P.w) A (isTrue e env (eval e env)) Q E s :=
  wpAny_with_toks (Nat.le_refl _) (x A s _ _ rm a fun h' tk k t => ret h' tk k (a.step k t))

section
variable {P : Cx} {n : Nat} {X : XS} {env : Env} {h : Heap} {l r e : Expr} {pos : Pos} {a b : Int} {x y : List Nat}
theorem cm_of {op : CmpOp} {d₁ d₂ : D} {c : Bool} (hl : Ev P n X env h l d₁) (hr : Ev P n X env h r d₂)
    (ho : ∀ A s v₁ v₂, Room n A → At X h s → Rd P X s.heap d₁ v₁ → Rd P X s.heap d₂ v₂ → Op P n X s A (compareOp op v₁ v₂) (.bool c))
    (hm : behindInMarks op r = false := by kernel_rfl) : Cm P n X env h l op r c :=
  ⟨hm, fun A s Q E rm a ret => hl.run rm a fun v₁ h₁ tk₁ k₁ a₁ r₁ => hr.run rm a₁ fun v₂ h₂ tk₂ k₂ a₂ r₂ =>
    ho A _ v₁ v₂ rm a₂ (r₁.sub k₂) r₂ Q E (ret.trans (k₁.trans k₂))⟩
theorem ev_cm {op : CmpOp} {c : Bool} (x : Cm P n X env h l op r c) : Ev P n X env h (.Compare l [op] [r] pos) (.bool c) :=
  fun A s Q E rm k ret => wpAny_Compare1 (x.2 A s Q E rm k ret) x.1
theorem tt_cm {op : CmpOp} {c : Bool} (x : Cm P n X env h l op r c) : Tt P n X env h (.Compare l [op] [r] pos) c :=
  fun A s Q E rm k ret => wpAny_isTrue_Compare1 (x.2 A s _ E rm k fun v h' tk k' e => by rw [show v = .bool c from e]; exact wpAny_truthy_bool (ret h' tk k')) x.1

theorem cm_ieq (hl : Ev P n X env h l (.int a)) (hr : Ev P n X env h r (.int b)) (hm : behindInMarks .Eq r = false := by kernel_rfl) : Cm P n X env h l .Eq r (a == b) :=
  cm_of hl hr (fun A s v₁ v₂ rm k r₁ r₂ Q E ret => by obtain ⟨t, rfl⟩ := r₁; obtain ⟨u, rfl⟩ := r₂; exact eq_int (ret.here rfl)) hm
theorem cm_ine (hl : Ev P n X env h l (.int a)) (hr : Ev P n X env h r (.int b)) (hm : behindInMarks .NotEq r = false := by kernel_rfl) : Cm P n X env h l .NotEq r (a != b) :=
  cm_of hl hr (fun A s v₁ v₂ rm k r₁ r₂ Q E ret => by obtain ⟨t, rfl⟩ := r₁; obtain ⟨u, rfl⟩ := r₂; exact ne_int (ret.here rfl)) hm
theorem cm_ilt (hl : Ev P n X env h l (.int a)) (hr : Ev P n X env h r (.int b)) (hm : behindInMarks .Lt r = false := by kernel_rfl) : Cm P n X env h l .Lt r (decide (a < b)) :=
  cm_of hl hr (fun A s v₁ v₂ rm k r₁ r₂ Q E ret => by obtain ⟨t, rfl⟩ := r₁; obtain ⟨u, rfl⟩ := r₂; exact lt_int (ret.here rfl)) hm
theorem cm_ile (hl : Ev P n X env h l (.int a)) (hr : Ev P n X env h r (.int b)) (hm : behindInMarks .LtE r = false := by kernel_rfl) : Cm P n X env h l .LtE r (decide (a ≤ b)) :=
  cm_of hl hr (fun A s v₁ v₂ rm k r₁ r₂ Q E ret => by obtain ⟨t, rfl⟩ := r₁; obtain ⟨u, rfl⟩ := r₂; exact le_int (ret.here rfl)) hm
theorem cm_seq (hl : Ev P n X env h l (.str x)) (hr : Ev P n X env h r (.str y)) (hm : behindInMarks .Eq r = false := by kernel_rfl) : Cm P n X env h l .Eq r (x == y) :=
  cm_of hl hr (fun A s v₁ v₂ rm k r₁ r₂ Q E ret => by obtain ⟨t, rfl⟩ := r₁; obtain ⟨u, rfl⟩ := r₂; exact PyProof.Rows.eq_str (ret.here (congrArg Value.bool (sx_beq _ _)))) hm
theorem cm_sne (hl : Ev P n X env h l (.str x)) (hr : Ev P n X env h r (.str y)) (hm : behindInMarks .NotEq r = false := by kernel_rfl) : Cm P n X env h l .NotEq r (x != y) :=
  cm_of hl hr (fun A s v₁ v₂ rm k r₁ r₂ Q E ret => by obtain ⟨t, rfl⟩ := r₁; obtain ⟨u, rfl⟩ := r₂; exact PyProof.Rows.ne_str (ret.here (congrArg Value.bool (sx_bne _ _)))) hm
theorem cm_sin (hl : Ev P n X env h l (.str y)) (hr : Ev P n X env h r (.str x)) (hm : behindInMarks .In r = false := by kernel_rfl) : Cm P n X env h l .In r (Txt.contains (Sx x) (Sx y)) :=
  cm_of hl hr (fun A s v₁ v₂ rm k r₁ r₂ Q E ret => by obtain ⟨t, rfl⟩ := r₁; obtain ⟨u, rfl⟩ := r₂; exact SB.contains (ret.here rfl)) hm

theorem ints_of : ∀ {ns : List Int} {vs : List Value} {h : Heap}, Rds P X h (ns.map D.int) vs → IntsAre vs ns
  | [], vs, h, r => by rw [show vs = [] from r]; exact .nil
  | n :: ns, vs, h, r => by obtain ⟨v, s, e, ⟨t, ht⟩, h2⟩ := r; subst e; subst ht; exact .cons _ _ (ints_of h2)
theorem strs_of : ∀ {ns : List (List Nat)} {vs : List Value} {h : Heap}, Rds P X h (ns.map D.str) vs → StrsAre vs (ns.map Sx)
  | [], vs, h, r => by rw [show vs = [] from r]; exact .nil
  | n :: ns, vs, h, r => by obtain ⟨v, s, e, ⟨t, ht⟩, h2⟩ := r; subst e; subst ht; exact .cons _ _ (strs_of h2)
theorem of_ints : ∀ {ns : List Int} {vs : List Value} {h : Heap}, IntsAre vs ns → Rds P X h (ns.map D.int) vs
  | _, _, _, .nil => rfl
  | _, _, _, .cons n t r => ⟨_, _, rfl, ⟨t, rfl⟩, of_ints r⟩
theorem of_strs : ∀ (ns : List (List Nat)) {vs : List Value} {h : Heap}, StrsAre vs (ns.map Sx) → Rds P X h (ns.map D.str) vs := by
  intro ns
  induction ns with
  | nil => intro vs h r; rw [List.map_nil] at r; cases r; rfl
  | cons n ns ih =>
    intro vs h r
    rw [List.map_cons] at r
    generalize hq : ns.map Sx = q at r
    generalize hz : Sx n = z at r
    cases r with
    | cons y t r' => subst hq; subst hz; exact ⟨_, _, rfl, ⟨t, rfl⟩, ih r'⟩
theorem any_sx (x : List Nat) (ss : List (List Nat)) : (ss.map Sx).any (· == Sx x) = ss.any (· == x) := by
  rw [List.any_map]; exact congrArg (List.any ss) (funext fun y => sx_beq y x)

theorem cm_sinl {ss : List (List Nat)} {ds : List D} (hl : Ev P n X env h l (.str x)) (hr : Ev P n X env h r (.list ds)) (he : ds = ss.map D.str := by rfl) (hm : behindInMarks .In r = false := by kernel_rfl) :
    Cm P n X env h l .In r (ss.any (· == x)) :=
  cm_of hl hr (fun A s v₁ v₂ rm k r₁ r₂ Q E ret => by
    obtain ⟨t, rfl⟩ := r₁; obtain ⟨a, vs, rfl, nx, hL, hR⟩ := r₂; subst he
    exact in_list_strs (vs := vs.toList) hL (strs_of hR) (ret.here (by rw [any_sx]; rfl))) hm
theorem cm_sninl {ss : List (List Nat)} {ds : List D} (hl : Ev P n X env h l (.str x)) (hr : Ev P n X env h r (.list ds)) (he : ds = ss.map D.str := by rfl) (hm : behindInMarks .NotIn r = false := by kernel_rfl) :
    Cm P n X env h l .NotIn r (!(ss.any (· == x))) :=
  cm_of hl hr (fun A s v₁ v₂ rm k r₁ r₂ Q E ret => by
    obtain ⟨t, rfl⟩ := r₁; obtain ⟨a, vs, rfl, nx, hL, hR⟩ := r₂; subst he
    exact notin_list_strs (vs := vs.toList) hL (strs_of hR) (ret.here (by rw [any_sx]; rfl))) hm
theorem cm_iinl {ns : List Int} (hl : Ev P n X env h l (.int a)) (hr : Ev P n X env h r (.list (ns.map D.int))) (hm : behindInMarks .In r = false := by kernel_rfl) :
    Cm P n X env h l .In r (ns.any (· == a)) :=
  cm_of hl hr (fun A s v₁ v₂ rm k r₁ r₂ Q E ret => by
    obtain ⟨t, rfl⟩ := r₁; obtain ⟨a, vs, rfl, nx, hL, hR⟩ := r₂
    exact in_list_ints (vs := vs.toList) hL (ints_of hR) (ret.here rfl)) hm

theorem eqAt_ints {A : Around} {s : Shared} {ns ms : List Int} {vs ws : List Value} (h1 : IntsAre vs ns) (h2 : IntsAre ws ms) :
    ∀ j (h1 : j < vs.toArray.size) (h2 : j < ws.toArray.size), SeqAt.EqAt A s vs.toArray[j] ws.toArray[j] (ns[j]? == ms[j]?) := by
  induction h1 generalizing ws ms with
  | nil => intro j q; simp at q
  | cons k t r ih =>
    cases h2 with
    | nil => intro j q q2; simp at q2
    | cons k' t' r' =>
      intro j q q2
      cases j with
      | zero => simpa using SeqAt.EqAt.int_int k t k' t'
      | succ j =>
        have w := ih r' j (by simpa using q) (by simpa using q2)
        simp only [List.getElem_toArray, List.getElem_cons_succ, List.getElem?_cons_succ] at w ⊢
        exact w
theorem eqAt_strs {A : Around} {s : Shared} {ns ms : List Str} {vs ws : List Value} (h1 : StrsAre vs ns) (h2 : StrsAre ws ms) :
    ∀ j (h1 : j < vs.toArray.size) (h2 : j < ws.toArray.size), SeqAt.EqAt A s vs.toArray[j] ws.toArray[j] (ns[j]? == ms[j]?) := by
  induction h1 generalizing ws ms with
  | nil => intro j q; simp at q
  | cons k t r ih =>
    cases h2 with
    | nil => intro j q q2; simp at q2
    | cons k' t' r' =>
      intro j q q2
      cases j with
      | zero => simpa using SeqAt.EqAt.str_str k t k' t'
      | succ j =>
        have w := ih r' j (by simpa using q) (by simpa using q2)
        simp only [List.getElem_toArray, List.getElem_cons_succ, List.getElem?_cons_succ] at w ⊢
        exact w
theorem all_eq {α : Type} [BEq α] [LawfulBEq α] {ns ms : List α} (hl : ns.length = ms.length) : (List.range ns.length).all (fun j => ns[j]? == ms[j]?) = (ns == ms) := by
  rw [Bool.eq_iff_iff, List.all_eq_true, beq_iff_eq]
  constructor
  · intro H
    refine List.ext_getElem? fun j => ?_
    by_cases q : j < ns.length
    · exact eq_of_beq (H j (List.mem_range.mpr q))
    · rw [List.getElem?_eq_none (by omega), List.getElem?_eq_none (by omega)]
  · intro H j _; rw [H]; exact beq_self_eq_true _

theorem len_ints {ns : List Int} {vs : List Value} (h : IntsAre vs ns) : vs.toArray.size = ns.length := by simp [h.length]
theorem len_strs {ns : List Str} {vs : List Value} (h : StrsAre vs ns) : vs.toArray.size = ns.length := by simp [h.length]

theorem cm_Leq {ns ms : List Int} {ds es : List D} (hl : Ev P n X env h l (.list ds)) (hr : Ev P n X env h r (.list es)) (hd : ds = ns.map D.int := by rfl) (he : es = ms.map D.int := by rfl) (hm : behindInMarks .Eq r = false := by kernel_rfl) :
    Cm P n X env h l .Eq r (ns == ms) :=
  cm_of hl hr (fun A s v₁ v₂ rm k r₁ r₂ Q E ret => by
    subst hd; subst he
    obtain ⟨a, vs, rfl, nx, hL, hR⟩ := r₁; obtain ⟨b, ws, rfl, ny, hM, hS⟩ := r₂
    have i1 := ints_of hR; have i2 := ints_of hS
    have l1 := len_ints i1; have l2 := len_ints i2
    have u := rm.units
    by_cases hz : ns.length = ms.length
    · refine SeqAt.eq_listAt (e := fun j => ns[j]? == ms[j]?) hL hM (by simp at l1 l2; omega) (by omega) (eqAt_ints i1 i2) (ret.here ?_)
      have : vs.size = ns.length := by simpa using l1
      rw [this, all_eq hz]; rfl
    · refine SeqAt.eq_list_lengthsAt hL hM (by simp at l1 l2; simp; omega) (by omega) (ret.here ?_)
      have : (ns == ms) = false := by rw [beq_eq_false_iff_ne]; intro e; exact hz (by rw [e])
      rw [this]; rfl) hm
theorem cm_Lne {ns ms : List Int} {ds es : List D} (hl : Ev P n X env h l (.list ds)) (hr : Ev P n X env h r (.list es)) (hd : ds = ns.map D.int := by rfl) (he : es = ms.map D.int := by rfl) (hm : behindInMarks .NotEq r = false := by kernel_rfl) :
    Cm P n X env h l .NotEq r (ns != ms) :=
  cm_of hl hr (fun A s v₁ v₂ rm k r₁ r₂ Q E ret => by
    subst hd; subst he
    obtain ⟨a, vs, rfl, nx, hL, hR⟩ := r₁; obtain ⟨b, ws, rfl, ny, hM, hS⟩ := r₂
    have i1 := ints_of hR; have i2 := ints_of hS
    have l1 := len_ints i1; have l2 := len_ints i2
    have u := rm.units
    by_cases hz : ns.length = ms.length
    · refine SeqAt.RcNeAt.lists (e := fun j => ns[j]? == ms[j]?) hL hM (by simp at l1 l2; omega) (by omega) (eqAt_ints i1 i2) P.prog P.w E Q (ret.here ?_)
      have : vs.size = ns.length := by simpa using l1
      rw [this, all_eq hz]; rfl
    · refine SeqAt.RcNeAt.lists_lengths hL hM (by simp at l1 l2; simp; omega) (by omega) P.prog P.w E Q (ret.here ?_)
      have : (ns != ms) = true := by rw [bne_iff_ne]; intro e; exact hz (by rw [e])
      rw [this]; rfl) hm
theorem map_sx_beq (ns ms : List (List Nat)) : (ns.map Sx == ms.map Sx) = (ns == ms) := by
  rw [Bool.eq_iff_iff, beq_iff_eq, beq_iff_eq]
  refine ⟨fun e => ?_, fun e => by rw [e]⟩
  have := congrArg (List.map fun x : Str => x.cps.toList) e
  simpa [List.map_map, Function.comp_def] using this
theorem cm_Sne {ns ms : List (List Nat)} {ds es : List D} (hl : Ev P n X env h l (.list ds)) (hr : Ev P n X env h r (.list es)) (hd : ds = ns.map D.str := by rfl) (he : es = ms.map D.str := by rfl) (hm : behindInMarks .NotEq r = false := by kernel_rfl) :
    Cm P n X env h l .NotEq r (ns != ms) :=
  cm_of hl hr (fun A s v₁ v₂ rm k r₁ r₂ Q E ret => by
    subst hd; subst he
    obtain ⟨a, vs, rfl, nx, hL, hR⟩ := r₁; obtain ⟨b, ws, rfl, ny, hM, hS⟩ := r₂
    have i1 := strs_of hR; have i2 := strs_of hS
    have l1 := len_strs i1; have l2 := len_strs i2
    have u := rm.units
    have m := map_sx_beq ns ms
    by_cases hz : (ns.map Sx).length = (ms.map Sx).length
    · refine SeqAt.RcNeAt.lists (e := fun j => (ns.map Sx)[j]? == (ms.map Sx)[j]?) hL hM (by simp at l1 l2 hz; omega) (by omega) (eqAt_strs i1 i2) P.prog P.w E Q (ret.here ?_)
      have : vs.size = (ns.map Sx).length := by simpa using l1
      rw [this, all_eq hz, m]; rfl
    · refine SeqAt.RcNeAt.lists_lengths hL hM (by simp at l1 l2 hz; simp; omega) (by omega) P.prog P.w E Q (ret.here ?_)
      have : (ns != ms) = true := by rw [bne_iff_ne]; intro e; exact hz (by rw [e])
      rw [this]; rfl) hm

theorem cm_in_dict {kv : List (List Nat × List Nat)} (hl : Ev P n X env h l (.str x)) (hr : Ev P n X env h r (.dict kv)) (hm : behindInMarks .In r = false := by kernel_rfl) :
    Cm P n X env h l .In r (kv.lookup x).isSome :=
  cm_of hl hr (fun A s v₁ v₂ rm k r₁ r₂ Q E ret => by
    obtain ⟨t, rfl⟩ := r₁; obtain ⟨a, m, rfl, nx, hs, hM, hK⟩ := r₂
    refine wpAny_in_of (strKind_is P.prog P.w (Sx x) t) hs hM (ret.here ?_)
    cases e : kv.lookup x with
    | none => rw [(hK x).1 e]; rfl
    | some y => obtain ⟨t', e'⟩ := (hK x).2 y e; rw [e']; rfl) hm

/-- «is None» -/
theorem cm_is_none {d : D} (hl : Ev P n X env h l d) (hr : Ev P n X env h r .none) (hd : d ≠ .none) (hv : ∀ v, d ≠ .val v) (hm : behindInMarks .Is r = false := by kernel_rfl) : Cm P n X env h l .Is r false :=
  cm_of hl hr (fun A s v₁ v₂ rm k r₁ r₂ Q E ret => by
    rw [show v₂ = .none from r₂]
    cases d with
    | none => exact absurd rfl hd
    | val v => exact absurd rfl (hv v)
    | bool b => rw [show v₁ = .bool b from r₁]; exact wpAny_is_other rfl (by intro e; cases e) (ret.here rfl)
    | int i => obtain ⟨t, rfl⟩ := r₁; exact wpAny_is_other rfl (by intro e; cases e) (ret.here rfl)
    | str i => obtain ⟨t, rfl⟩ := r₁; exact wpAny_is_other rfl (by intro e; cases e) (ret.here rfl)
    | list l => obtain ⟨a, vs, rfl, _⟩ := r₁; exact wpAny_is_other rfl (by intro e; cases e) (ret.here rfl)
    | tup l => obtain ⟨a, vs, rfl, _⟩ := r₁; exact wpAny_is_other rfl (by intro e; cases e) (ret.here rfl)
    | rng a b => obtain ⟨a, t, u, w, rfl, _⟩ := r₁; exact wpAny_is_other rfl (by intro e; cases e) (ret.here rfl)
    | meth l => obtain ⟨a, rfl, _⟩ := r₁; exact wpAny_is_other rfl (by intro e; cases e) (ret.here rfl)
    | dict l => obtain ⟨a, vs, rfl, _⟩ := r₁; exact wpAny_is_other rfl (by intro e; cases e) (ret.here rfl)) hm
theorem cm_none_is (hl : Ev P n X env h l .none) (hr : Ev P n X env h r .none) (hm : behindInMarks .Is r = false := by kernel_rfl) : Cm P n X env h l .Is r true :=
  cm_of hl hr (fun A s v₁ v₂ rm k r₁ r₂ Q E ret => by rw [show v₂ = .none from r₂, show v₁ = .none from r₁]; exact wpAny_is_self rfl (ret.here rfl)) hm
theorem cm_isnot_str {a : Addr} (hl : Ev P n X env h l (.str x)) (hr : Ev P n X env h r (.val (.ref a))) (hm : behindInMarks .IsNot r = false := by kernel_rfl) : Cm P n X env h l .IsNot r true :=
  cm_of hl hr (fun A s v₁ v₂ rm k r₁ r₂ Q E ret => by rw [show v₂ = .ref a from r₂]; obtain ⟨t, rfl⟩ := r₁; exact wpAny_isNot_other rfl (by intro e; cases e) (ret.here rfl)) hm
theorem cm_isnot_self {a : Addr} (hl : Ev P n X env h l (.val (.ref a))) (hr : Ev P n X env h r (.val (.ref a))) (hm : behindInMarks .IsNot r = false := by kernel_rfl) : Cm P n X env h l .IsNot r false :=
  cm_of hl hr (fun A s v₁ v₂ rm k r₁ r₂ Q E ret => by rw [show v₂ = .ref a from r₂, show v₁ = .ref a from r₁]; exact wpAny_isNot_ref_self (ret.here rfl)) hm
theorem cm_is_self {a : Addr} (hl : Ev P n X env h l (.val (.ref a))) (hr : Ev P n X env h r (.val (.ref a))) (hm : behindInMarks .Is r = false := by kernel_rfl) : Cm P n X env h l .Is r true :=
  cm_of hl hr (fun A s v₁ v₂ rm k r₁ r₂ Q E ret => by rw [show v₂ = .ref a from r₂, show v₁ = .ref a from r₁]; exact wpAny_is_ref_self (ret.here rfl)) hm

/-! tests -/
theorem tt_not {c : Bool} (x : Tt P n X env h e c) : Tt P n X env h (.UnaryOp .Not e pos) (!c) :=
  fun A s Q E rm k ret => wpAny_isTrue_Not (x A s _ E rm k ret)
theorem tt_and_nil : Tt P n X env h (.BoolOp .And [] pos) true := fun A s Q E rm k ret => isTrue_and_nil (ret s.heap s.toks Sub.refl)
theorem tt_or_nil : Tt P n X env h (.BoolOp .Or [] pos) false := fun A s Q E rm k ret => isTrue_or_nil (ret s.heap s.toks Sub.refl)
theorem tt_and {rest : List Expr} {c d : Bool} (x : Tt P n X env h e c) (y : c = true → Tt P n X env h (.BoolOp .And rest pos) d) : Tt P n X env h (.BoolOp .And (e :: rest) pos) (c && d) :=
  fun A s Q E rm k ret => isTrue_and (x.run rm k fun h' tk k' a' => by
    cases c with
    | false => exact ret h' tk k'
    | true => exact (y rfl).run rm a' fun h'' tk' k'' _ => ret h'' tk' (k'.trans k''))
theorem tt_or {rest : List Expr} {c d : Bool} (x : Tt P n X env h e c) (y : c = false → Tt P n X env h (.BoolOp .Or rest pos) d) : Tt P n X env h (.BoolOp .Or (e :: rest) pos) (c || d) :=
  fun A s Q E rm k ret => isTrue_or (x.run rm k fun h' tk k' a' => by
    cases c with
    | true => exact ret h' tk k'
    | false => exact (y rfl).run rm a' fun h'' tk' k'' _ => ret h'' tk' (k'.trans k''))
theorem tt_bool {c : Bool} (x : Ev P n X env h e (.bool c)) (he : ∀ whole, isTrue e env whole = (do let v ← whole; standAt e.pos; holding [v] (truthy v)) := by intro _; kernel_rfl) : Tt P n X env h e c :=
  fun A s Q E rm k ret => isTrue_plain (x.run rm k fun v h' tk k' _ r => by rw [show v = .bool c from r]; exact wpAny_truthy_bool (ret h' tk k')) (he _)

theorem ev_if {t f : Expr} {c : Bool} {d : D} (x : Tt P n X env h e c) (y : c = true → Ev P n X env h t d) (z : c = false → Ev P n X env h f d) : Ev P n X env h (.IfExp e t f pos) d :=
  fun A s Q E rm k ret => wpAny_IfExp (x.run rm k fun h' tk k' a' => by
    cases c with
    | true => exact (y rfl).run rm a' fun v h'' tk' k'' _ r => ret v h'' tk' (k'.trans k'') r
    | false => exact (z rfl).run rm a' fun v h'' tk' k'' _ r => ret v h'' tk' (k'.trans k'') r)
theorem ev_and2 {c d : Bool} (x : Ev P n X env h l (.bool c)) (y : c = true → Ev P n X env h r (.bool d)) : Ev P n X env h (.BoolOp .And [l, r] pos) (.bool (c && d)) :=
  fun A s Q E rm k ret => wpAny_And2 (x.run rm k fun v h' tk k' a' e => by
    rw [show v = .bool c from e]
    refine wpAny_truthy_bool ?_
    cases c with
    | false => exact ret _ h' tk k' rfl
    | true => exact (y rfl).run rm a' fun v h'' tk' k'' _ r => ret v h'' tk' (k'.trans k'') r)
end
end
section
section
variable {P : Cx} {n : Nat} {X : XS} {env : Env} {h : Heap} {l r e : Expr} {pos : Pos}

/-- several, one behind the other -/
inductive Evs (P : Cx) (n : Nat) (X : XS) (env : Env) (h : Heap) : List Expr → List D → Prop
  | nil : Evs P n X env h [] []
  | cons {e : Expr} {es : List Expr} {d : D} {ds : List D} : Ev P n X env h e d → Evs P n X env h es ds → Evs P n X env h (e :: es) (d :: ds)

theorem Evs.run {es : List Expr} {ds : List D} (x : Evs P n X env h es ds) : ∀ {A : Around} {s : Shared} {Q : List Value → Shared → Prop} {E : Value → Shared → Prop}, Room n A → At X h s →
    (∀ vs h' tk, Sub s.heap h' → At X h { s with heap := h', toks := tk } → Rds P X h' ds vs → Q vs { s with heap := h', toks := tk }) →
    wpAny (model P.prog P.w) A (spliced (es.map fun e => (false, eval e env))) Q E s := by
  induction x with
  | nil => intro A s Q E rm a ret; exact spliced_nil (ret [] s.heap s.toks Sub.refl a rfl)
  | cons x xs ih =>
    intro A s Q E rm a ret
    refine spliced_cons (x.run rm a fun v h' tk k a' r => ih rm a' fun vs h'' tk' k' a'' r' => ?_)
    exact ret (v :: vs) h'' tk' (k.trans k') a'' ⟨v, vs, rfl, r.sub k', r'⟩

theorem ev_list {es : List Expr} {ds : List D} (x : Evs P n X env h es ds) (hs : backTo pos (starEach es env) = es.map fun e => (false, eval e env) := by kernel_rfl) (hz : ds.length ≤ 1000000 := by exact Nat.le_of_ble_eq_true (by kernel_rfl)) :
    Ev P n X env h (.List es pos) (.list ds) := fun A s Q E rm a ret => by
  refine List_ ?_
  rw [hs]
  refine x.run rm a fun vs h' tk k a' r => ?_
  refine wpAny_newObj_type ?_ (by show vs.toArray.size ≤ sizeLine; rw [List.size_toArray, r.length, sizeLine_eq]; omega)
  exact ret _ _ _ (k.trans (Sub.push _)) ⟨_, vs.toArray, rfl, a'.new, ⟨_, Heap.get?_push_size _ rfl, rfl, _, rfl⟩, r.sub (Sub.push _)⟩
theorem ev_tup {es : List Expr} {ds : List D} {k : Nat} (x : Evs P n X env h es ds) (hs : backTo pos (starEach es env) = es.map fun e => (false, eval e env) := by kernel_rfl) (hz : ds.length ≤ 1000000 := by exact Nat.le_of_ble_eq_true (by kernel_rfl)) :
    Ev P n X env h (.Tuple es k pos) (.tup ds) := fun A s Q E rm a ret => by
  refine Tuple_ ?_
  rw [hs]
  refine x.run rm a fun vs h' tk k a' r => ?_
  refine wpAny_newObj_type ?_ (by show vs.toArray.size ≤ sizeLine; rw [List.size_toArray, r.length, sizeLine_eq]; omega)
  exact ret _ _ _ (k.trans (Sub.push _)) ⟨_, vs.toArray, rfl, a'.new, ⟨_, Heap.get?_push_size _ rfl, rfl, _, rfl⟩, r.sub (Sub.push _)⟩

/-! items -/
theorem charAt_sx {x : List Nat} {i : Int} {j : Nat} {c : Nat} (hi : i = j) (hc : x[j]? = some c) : (seqIndex? i (Sx x).length).bind ((Sx x).cps[·]?) = some c := by
  have hj : j < x.length := by
    rcases Nat.lt_or_ge j x.length with q | q
    · exact q
    · rw [List.getElem?_eq_none q] at hc; cases hc
  have : seqIndex? i (Sx x).length = some j := by
    unfold seqIndex?
    rw [sx_len, hi]
    have h0 : ¬ ((j : Int) < 0) := by omega
    rw [if_neg h0, if_pos (by simp; omega)]
    simp
  rw [this]
  simpa using hc

theorem ev_chr {x : List Nat} {i : Int} {c : Nat} (hl : Ev P n X env h l (.str x)) (hr : Ev P n X env h r (.int i)) (h0 : 0 ≤ i) (hc : x[i.toNat]? = some c) (hx : x.length ≤ 1000000)
    (hs : ∀ o i, subscripted r false o i = operate [o, i] (getItem o i) := by intro _ _; kernel_rfl) : Ev P n X env h (.Subscript l r pos) (.str [c]) := fun A s Q E rm a ret => by
  refine Subscript_ (hl.run rm a fun v h' tk k a' r₁ => hr.run rm a' fun w h'' tk' k' a'' r₂ => ?_)
  obtain ⟨t, rfl⟩ := r₁
  obtain ⟨u, rfl⟩ := r₂
  have hj : i.toNat < x.length := by
    rcases Nat.lt_or_ge i.toNat x.length with q | q
    · exact q
    · rw [List.getElem?_eq_none q] at hc; cases hc
  exact tail_any (typeIs_str _ _ _) slot_str_getitem.lookup (PyProof.Rows.getItem_str (by simp; omega) (charAt_sx (j := i.toNat) (by omega) hc) (ret _ _ _ (k.trans k') ⟨_, rfl⟩)) (hs _ _)

theorem ev_item {ds : List D} {i : Int} {d : D} (hl : Ev P n X env h l (.list ds)) (hr : Ev P n X env h r (.int i)) (h0 : 0 ≤ i) (hc : ds[i.toNat]? = some d) (hx : ds.length ≤ 1000000)
    (hs : ∀ o i, subscripted r false o i = operate [o, i] (getItem o i) := by intro _ _; kernel_rfl) : Ev P n X env h (.Subscript l r pos) d := fun A s Q E rm a ret => by
  refine Subscript_ (hl.run rm a fun v h' tk k a' r₁ => hr.run rm a' fun w h'' tk' k' a'' r₂ => ?_)
  obtain ⟨b, vs, rfl, nx, hL, hR⟩ := r₁
  obtain ⟨u, rfl⟩ := r₂
  obtain ⟨v, hv, hd⟩ := hR.get hc
  have hj : i.toNat < ds.length := by
    rcases Nat.lt_or_ge i.toNat ds.length with q | q
    · exact q
    · rw [List.getElem?_eq_none q] at hc; cases hc
  have hL' := isList_at hL (fun o e => k' _ _ e)
  exact tail_any hL'.typeIs slot_list_getitem.lookup (wpAny_getItem_list hL' h0 (by omega) (by simpa using hv) (ret _ _ _ (k.trans k') (hd.sub k'))) (hs _ _)

theorem seqIdx_neg {i : Int} {k : Nat} (h1 : i < 0) (h0 : 0 ≤ i + k) : seqIndex? i k = some (i + k).toNat := by
  unfold seqIndex?
  rw [if_pos h1, if_pos (by simp; omega)]

/-- slices of a text -/
theorem slice_sx (x : List Nat) {a b : Nat} (hab : a ≤ b) : Txt.slice (Sx x) (some (a : Int)) (some (b : Int)) = Sx ((x.drop a).take (b - a)) := by
  have key : Builtin.Str.strSliceIndices (some (a : Int)) (some (b : Int)) 1 (Sx x).length = Builtin.Str.strSliceIndices (some ((min a x.length : Nat) : Int)) (some ((min b x.length : Nat) : Int)) 1 (Sx x).length := by
    have h1 : ¬ ((a : Int) < 0) := by omega
    have h2 : ¬ ((b : Int) < 0) := by omega
    have h3 : ¬ (((min a x.length : Nat) : Int) < 0) := by omega
    have h4 : ¬ (((min b x.length : Nat) : Int) < 0) := by omega
    have e1 : max (0 : Int) (min (a : Int) (x.length : Int)) = max (0 : Int) (min ((min a x.length : Nat) : Int) (x.length : Int)) := by omega
    have e2 : max (0 : Int) (min (b : Int) (x.length : Int)) = max (0 : Int) (min ((min b x.length : Nat) : Int) (x.length : Int)) := by omega
    simp only [Builtin.Str.strSliceIndices, sx_len, h1, h2, h3, h4, if_false, show ((1 : Int) > 0) = True from by simp, if_true]
    rw [e1, e2]
  have hle : min a x.length ≤ min b x.length := by omega
  have pick := StrLaws.sliced_plain (Sx x) hle (by rw [sx_len]; omega)
  have plain := StrLaws.strSliceIndices_plain (len := (Sx x).length) hle (by rw [sx_len]; omega)
  have eq : (x.drop (min a x.length)).take (min b x.length - min a x.length) = (x.drop a).take (b - a) := by
    rcases Nat.lt_or_ge a x.length with q | q
    · rw [show min a x.length = a by omega]
      rcases Nat.lt_or_ge b x.length with q' | q'
      · rw [show min b x.length = b by omega]
      · rw [show min b x.length = x.length by omega, List.take_of_length_le (by simp), List.take_of_length_le (by simp; omega)]
    · rw [List.drop_eq_nil_of_le (show x.length ≤ min a x.length by omega), List.drop_eq_nil_of_le q]
      simp
  unfold Txt.slice
  rw [key]
  by_cases hc : ((1 : Int) == 1 && (Builtin.Str.strSliceIndices (some ((min a x.length : Nat) : Int)) (some ((min b x.length : Nat) : Int)) 1 (Sx x).length).length == (Sx x).length) = true
  · rw [if_pos hc]
    rw [plain] at hc
    simp only [sx_len, List.length_map, List.length_range, beq_self_eq_true, Bool.true_and, beq_iff_eq] at hc
    rw [← eq]
    have h0 : min a x.length = 0 := by omega
    rw [h0, List.drop_zero, List.take_of_length_le (by omega)]
  · rw [if_neg hc, pick]
    show Sx _ = _
    rw [← eq]

theorem slice_neg_sx (x : List Nat) {a c : Nat} (hc : 0 < c) (hac : a + c ≤ x.length) : Txt.slice (Sx x) (some (a : Int)) (some (-(c : Int))) = Sx ((x.drop a).take (x.length - c - a)) := by
  have := slice_sx x (a := a) (b := x.length - c) (by omega)
  rw [← this]
  unfold Txt.slice
  rw [StrLaws.sliceIdx_neg_hi _ _ (by omega) (by rw [sx_len]; omega), sx_len, show (-(c : Int) + (x.length : Int)) = ((x.length - c : Nat) : Int) by omega]

theorem ev_slice {x y : List Nat} {i j : Int} {lo hi : Expr} {p : Pos} (hl : Ev P n X env h l (.str x)) (h1 : Ev P n X env h lo (.int i)) (h2 : Ev P n X env h hi (.int j)) (hx : x.length ≤ 1000000)
    (hy : Txt.slice (Sx x) (some i) (some j) = Sx y) : Ev P n X env h (.Subscript l (.Slice (some lo) (some hi) none p) pos) (.str y) := fun A s Q E rm a ret => by
  refine Subscript_ (hl.run rm a fun v h' tk k a' r₁ => wpAny_Slice (h1.run rm a' fun w h'' tk' k' a'' r₂ => h2.run rm a'' fun w' h3 tk3 k3 a3 r₃ => wpAny_pure ?_))
  obtain ⟨t, rfl⟩ := r₁
  obtain ⟨ui, rfl⟩ := r₂
  obtain ⟨uj, rfl⟩ := r₃
  refine tail_any (typeIs_str _ _ _) slot_str_getitem.lookup (wpAny_getItem_str_slice (l := some (i, ui)) (u := some (j, uj)) (st := none) ⟨_, Heap.get?_push_size _ rfl, rfl, rfl⟩ rfl
    (post_val_or_str ⟨Nat.le_trans (Txt.slice_le (Sx x) _ _) (by rw [sx_len, sizeLine_eq]; omega), fun t' k9 => ?_⟩)) (ops := [_, _]) rfl
  exact ret _ _ _ (k.trans (k'.trans (k3.trans (Sub.push _)))) ⟨t', congrArg (fun z => Value.str z t') hy⟩
end
end
section
/-- what a call of the def at a yields -/
noncomputable def Con (P : Cx) (n : Nat) (a : Addr) (ds : List D) (d : D) : Prop :=
  (∃ o fd, P.W.get? a = some o ∧ o.data = .func fd) ∧ ∀ (X : XS) (A : Around) (s : Shared) (vs : List Value) (Q E : Value → Shared → Prop),
    Room n A → At X P.W s → Rds P X s.heap ds vs → Ret P X s d Q → wpAny (model P.prog P.w) A (call (.ref a) vs) Q E s

section
variable {P : Cx} {n : Nat} {X : XS} {env : Env} {h : Heap} {l r e : Expr} {pos np : Pos} {f : Str} {d : D}

theorem ev_call {a : Addr} {es : List Expr} {ds : List D} (hf : Ev P n X env h (.Name f np) (.val (.ref a))) (hx : Evs P n X env h (e :: es) ds) (hc : Con P n a ds d) (kW : Sub P.W h)
    (hs : backTo pos (starEach (e :: es) env) = (e :: es).map fun e => (false, eval e env) := by kernel_rfl) : Ev P n X env h (.Call (.Name f np) (e :: es) [] pos) d := fun A s Q E rm a ret => by
  refine wpAny_Call_NameR (hf.run rm a fun v h' tk k a' r => ?_)
  rw [show v = .ref _ from r, hs]
  obtain ⟨⟨o, fd, ho, hd⟩, hc⟩ := hc
  refine callWith_function (evalArgs_plain (hx.run rm a' fun vs h'' tk' k' a'' r' => ⟨⟨a''.sub _ _ (kW _ _ ho), hd⟩, ?_⟩))
  exact hc X A _ vs Q E rm (a''.low kW) r' (ret.trans (k.trans k'))

theorem ev_callb {id : String} {es : List Expr} {ds : List D} (hf : Ev P n X env h (.Name f np) (.val (.builtin id))) (hx : Evs P n X env h (e :: es) ds)
    (hc : ∀ A s vs, Room n A → At X h s → Rds P X s.heap ds vs → Op P n X s A (call (.builtin id) vs) d)
    (hs : backTo pos (starEach (e :: es) env) = (e :: es).map fun e => (false, eval e env) := by kernel_rfl) (hp : ((e :: es).map fun e => (false, eval e env)).any (·.1) = false := by kernel_rfl) :
    Ev P n X env h (.Call (.Name f np) (e :: es) [] pos) d := fun A s Q E rm a ret => by
  refine wpAny_Call_NameR (hf.run rm a fun v h' tk k a' r => ?_)
  rw [show v = .builtin id from r, hs]
  refine callWith_builtin hp (evalArgs_plain (hx.run rm a' fun vs h'' tk' k' a'' r' => ?_))
  exact hc A _ vs rm a'' r' Q E (ret.trans (k.trans k'))
theorem ev_callt {T : String} {es : List Expr} {ds : List D} (hf : Ev P n X env h (.Name f np) (.val (.type T))) (hx : Evs P n X env h (e :: es) ds)
    (hc : ∀ A s vs, Room n A → At X h s → Rds P X s.heap ds vs → Op P n X s A (call (.type T) vs) d)
    (hs : backTo pos (starEach (e :: es) env) = (e :: es).map fun e => (false, eval e env) := by kernel_rfl) (hp : ((e :: es).map fun e => (false, eval e env)).any (·.1) = false := by kernel_rfl) :
    Ev P n X env h (.Call (.Name f np) (e :: es) [] pos) d := fun A s Q E rm a ret => by
  refine wpAny_Call_NameR (hf.run rm a fun v h' tk k a' r => ?_)
  rw [show v = .type T from r, hs]
  refine PySem.callWith_type hp (evalArgs_plain (hx.run rm a' fun vs h'' tk' k' a'' r' => ?_))
  exact hc A _ vs rm a'' r' Q E (ret.trans (k.trans k'))

theorem Rds.one {h : Heap} {d : D} {vs : List Value} (r : Rds P X h [d] vs) : ∃ v, vs = [v] ∧ Rd P X h d v := by
  obtain ⟨v, s, e, h1, h2⟩ := r; exact ⟨v, by rw [e, show s = [] from h2], h1⟩
theorem Rds.two {h : Heap} {d d' : D} {vs : List Value} (r : Rds P X h [d, d'] vs) : ∃ v w, vs = [v, w] ∧ Rd P X h d v ∧ Rd P X h d' w := by
  obtain ⟨v, s, e, h1, h2⟩ := r; obtain ⟨w, e2, h3⟩ := h2.one; exact ⟨v, w, by rw [e, e2], h1, h3⟩

theorem ev_len_str {x : List Nat} (hf : Ev P n X env h (.Name f np) (.val (.builtin "len"))) (hx : Ev P n X env h e (.str x)) (hl : x.length ≤ 1000000) (hs : backTo pos (starEach [e] env) = [e].map fun e => (false, eval e env) := by kernel_rfl) :
    Ev P n X env h (.Call (.Name f np) [e] [] pos) (.int x.length) :=
  ev_callb hf (.cons hx .nil) (fun A s vs rm a r Q E ret => by
    obtain ⟨v, rfl, t, rfl⟩ := r.one
    exact len_str (by rw [sx_len]; omega) (ret.here ⟨_, by rw [sx_len]⟩)) hs
theorem ev_len_list {ds : List D} (hf : Ev P n X env h (.Name f np) (.val (.builtin "len"))) (hx : Ev P n X env h e (.list ds)) (hl : ds.length ≤ 1000000) (hs : backTo pos (starEach [e] env) = [e].map fun e => (false, eval e env) := by kernel_rfl) :
    Ev P n X env h (.Call (.Name f np) [e] [] pos) (.int ds.length) :=
  ev_callb hf (.cons hx .nil) (fun A s vs rm a r Q E ret => by
    obtain ⟨v, rfl, b, ws, rfl, nx, hL, hR⟩ := r.one
    have hz : ws.size = ds.length := by simpa using hR.length
    exact call_len_list hL (by omega) (ret.here ⟨_, by rw [hz]⟩)) hs
theorem ev_sum {ns : List Int} (hf : Ev P n X env h (.Name f np) (.val (.builtin "sum"))) (hx : Ev P n X env h e (.list (ns.map D.int))) (hs : backTo pos (starEach [e] env) = [e].map fun e => (false, eval e env) := by kernel_rfl) :
    Ev P n X env h (.Call (.Name f np) [e] [] pos) (.int ns.sum) :=
  ev_callb hf (.cons hx .nil) (fun A s vs rm a r Q E ret => by
    obtain ⟨v, rfl, b, ws, rfl, nx, hL, hR⟩ := r.one
    have hI := ints_of hR
    obtain ⟨xs, hxs⟩ := (hI.allInts).items
    have hL' : s.heap.IsList b (intItems xs) := by rw [← hxs]; exact hL
    refine sum_intListG rm.1 hL' fun h' tk t' k => ret _ h' tk k ⟨t', ?_⟩
    rw [preSum_eq, List.take_of_length_le (by simp), ← nums_intItems, ← hxs]
    show Value.int (PySem.numsOf ws.toList).sum t' = _
    rw [hI.numsOf]) hs
theorem ev_range1 {k : Int} (hf : Ev P n X env h (.Name f np) (.val (.type "range"))) (hx : Ev P n X env h e (.int k)) (hs : backTo pos (starEach [e] env) = [e].map fun e => (false, eval e env) := by kernel_rfl) :
    Ev P n X env h (.Call (.Name f np) [e] [] pos) (.rng 0 k) :=
  ev_callt hf (.cons hx .nil) (fun A s vs rm a r Q E ret => by
    obtain ⟨v, rfl, t, rfl⟩ := r.one
    exact call_range_1 (ret _ _ _ (Sub.push _) ⟨_, _, _, _, rfl, a.new, IsRange.new ..⟩)) hs
theorem ev_range2 {e' : Expr} {j k : Int} (hf : Ev P n X env h (.Name f np) (.val (.type "range"))) (hx : Ev P n X env h e (.int j)) (hy : Ev P n X env h e' (.int k)) (hs : backTo pos (starEach [e, e'] env) = [e, e'].map fun e => (false, eval e env) := by kernel_rfl) :
    Ev P n X env h (.Call (.Name f np) [e, e'] [] pos) (.rng j k) :=
  ev_callt hf (.cons hx (.cons hy .nil)) (fun A s vs rm a r Q E ret => by
    obtain ⟨v, w, rfl, ⟨t, rfl⟩, ⟨u, rfl⟩⟩ := r.two
    exact call_range_2 (ret _ _ _ (Sub.push _) ⟨_, _, _, _, rfl, a.new, IsRange.new ..⟩)) hs

theorem rangeSize_nat {j k : Int} (h : j ≤ k) : Builtin.Range.rangeSize j k 1 = ((k - j).toNat : Int) := by rw [rangeSize_one]; split <;> omega
/-- the ints from j, n of them -/
noncomputable def ups (j : Int) (n : Nat) : List Int := (List.range n).map fun (i : Nat) => j + (i : Int)
theorem ups_get {j : Int} {n i : Nat} (hi : i < n) : (ups j n)[i]? = some (j + (i : Int)) := by unfold ups; simp [hi]
theorem ups_length (j : Int) (n : Nat) : (ups j n).length = n := by unfold ups; simp
theorem rds_of_items {h : Heap} : ∀ {ds : List D} {vs : List Value}, vs.length = ds.length → (∀ (j : Nat) (v : Value) (d : D), vs[j]? = some v → ds[j]? = some d → Rd P X h d v) → Rds P X h ds vs
  | [], [], _, _ => rfl
  | d :: ds, v :: vs, hl, H => ⟨v, vs, rfl, H 0 v d rfl rfl, rds_of_items (by simpa using hl) fun j w e h1 h2 => H (j + 1) w e (by simpa using h1) (by simpa using h2)⟩

theorem ev_list_range {j k : Int} (hf : Ev P n X env h (.Name f np) (.val (.type "list"))) (hx : Ev P n X env h e (.rng j k)) (hjk : j ≤ k) (hj : -1000000 ≤ j) (hk : k ≤ 1000000)
    (hs : backTo pos (starEach [e] env) = [e].map fun e => (false, eval e env) := by kernel_rfl) :
    Ev P n X env h (.Call (.Name f np) [e] [] pos) (.list ((ups j (k - j).toNat).map D.int)) :=
  ev_callt hf (.cons hx .nil) (fun A s vs rm a r Q E ret => by
    obtain ⟨v, rfl, b, t, u, w, rfl, nx, hR⟩ := r.one
    refine call_list_range rm.1 hR (small_one (by omega) (by omega) (by omega) (by omega)) (rangeSize_nat hjk) (by omega) fun h' tk acc c' kk hS hI => ?_
    refine ret _ h' tk kk ⟨_, acc, rfl, a.new, ⟨_, hS, rfl, _, rfl⟩, rds_of_items ?_ fun i v d hv hd => ?_⟩
    · simp [hI.1, ups_length]
    · obtain ⟨t', rfl⟩ := hI.2 i v (by simpa using hv)
      rw [List.getElem?_map] at hd
      have hi : i < (k - j).toNat := by
        have : i < acc.toList.length := by
          rcases Nat.lt_or_ge i acc.toList.length with q | q
          · exact q
          · rw [List.getElem?_eq_none q] at hv; cases hv
        simpa [hI.1] using this
      rw [ups_get hi] at hd
      cases hd
      exact ⟨t', by simp⟩) hs

/-! methods of a text -/
theorem join_flat (ls : List (List Nat)) : Txt.join (Sx []) (ls.map Sx) = Sx ls.flatten := by
  unfold Txt.join
  rw [StrLaws.glued_eq_join]
  induction ls with
  | nil => rfl
  | cons a r ih =>
    cases r with
    | nil => simp [Str.join]
    | cons b r =>
      rw [List.map_cons, List.map_cons, Str.join, ← List.map_cons, ih]
      · show Sx a ++ Sx [] ++ Sx _ = _
        rw [sx_cat, sx_cat]; simp
      · intro e; cases e

/-- a method of a text -/
theorem ev_smeth {id : String} {name : Str} {es : List Expr} {ds : List D} {x : List Nat} {apos : Pos} (slot : Slot "str" name id) (ty : typeOf (.builtin id) = pure (.type "method_descriptor"))
    (ho : Ev P n X env h l (.str x)) (hx : Evs P n X env h (e :: es) ds)
    (hc : ∀ A s t vs, Room n A → At X h s → Rds P X s.heap ds vs → Op P n X s A (call (.builtin id) (.str (Sx x) t :: vs)) d)
    (hbase : attributeBase l name env (eval l env) = eval l env) (hs : backTo pos (starEach (e :: es) env) = (e :: es).map fun e => (false, eval e env)) (hline : (apos.endLine == pos.line) = true)
    (hp : ((e :: es).map fun e => (false, eval e env)).any (·.1) = false) (hl : es.length < 20) :
    Ev P n X env h (.Call (.Attribute l name apos) (e :: es) [] pos) d := fun A s Q E rm a ret => by
  refine wpAny_Call_method_lateS hbase ?_ hline (ho.run rm a fun v h' tk k a' r => ?_)
  · rw [hs]
    simp only [Bool.and_eq_true, decide_eq_true_eq]
    refine ⟨⟨?_, rfl⟩, by simp; omega⟩
    rw [List.all_map]
    exact List.all_eq_true.mpr fun _ _ => rfl
  · obtain ⟨t, rfl⟩ := r
    refine ⟨"str", id, PySem.F.plainAttrs_str, slot, ty, typeIs_str _ _ _, (fun _ e => nomatch e), ?_⟩
    rw [hs]
    refine callWith_builtin hp (evalArgs_plain (hx.run rm a' fun vs h'' tk' k' a'' r' => ?_))
    exact hc A _ t vs rm a'' r' Q E (ret.trans (k.trans k'))

theorem ev_join {ls : List (List Nat)} {ds : List D} {apos : Pos} (ho : Ev P n X env h l (.str [])) (hx : Ev P n X env h e (.list ds)) (hd : ds = ls.map D.str) (hw : ls.flatten.length + ls.length ≤ 100000)
    (hbase : attributeBase l "join" env (eval l env) = eval l env := by kernel_rfl) (hs : backTo pos (starEach [e] env) = [e].map fun e => (false, eval e env) := by kernel_rfl) (hline : (apos.endLine == pos.line) = true := by kernel_rfl) :
    Ev P n X env h (.Call (.Attribute l "join" apos) [e] [] pos) (.str ls.flatten) :=
  ev_smeth PySem.F.slot_str_join PySem.F.type_str_join ho (.cons hx .nil) (fun A s t vs rm a r Q E ret => by
    obtain ⟨v, rfl, b, ws, rfl, nx, hL, hR⟩ := r.one
    subst hd
    have hS := strs_of hR
    refine join_listW hL hS (by simp [Str.length]) ?_ fun t' k => ret.here ⟨t', by rw [join_flat]⟩
    have : ((ls.map Sx).map (·.length)).sum = ls.flatten.length := by
      rw [List.map_map, List.length_flatten]
      congr 1
    rw [this, List.length_map]; omega) hbase hs hline rfl (by decide)

/-- a method of a text without arguments -/
theorem ev_isalnum {x : List Nat} {apos : Pos} (ho : Ev P n X env h l (.str x))
    (hbase : attributeBase l "isalnum" env (eval l env) = eval l env := by kernel_rfl) (hline : (apos.endLine == pos.line) = true := by kernel_rfl) :
    Ev P n X env h (.Call (.Attribute l "isalnum" apos) [] [] pos) (.bool (Txt.isalnum (Sx x))) := fun A s Q E rm a ret => by
  refine Call_method0 hbase hline (ho.run rm a fun v h' tk k a' r => ?_)
  obtain ⟨t, rfl⟩ := r
  exact SB.isalnum (ret _ _ _ k rfl)

/-- .replace by two written texts, once a token was dealt -/
theorem replace_run {x y : List Nat} {o w : Str} {k1 k2 : Nat} {p1 p2 apos : Pos} {A : Around} {s : Shared} {Q E : Value → Shared → Prop} (rm : Room n A) (a : At X h s) (tp : 0 < s.toks) (ho : Ev P n X env h l (.str x)) (hy : Txt.replace (Sx x) o w = Sx y) (how : (o == w) = false) (hx : x.length ≤ 100000) (hw : w.length ≤ 14)
    (ret : Ret P X s (.str y) Q)
    (hbase : attributeBase l "replace" env (eval l env) = eval l env := by kernel_rfl) (hline : (apos.endLine == pos.line) = true := by kernel_rfl) :
    wpAny (model P.prog P.w) A (eval (.Call (.Attribute l "replace" apos) [.Constant (.str o) k1 p1, .Constant (.str w) k2 p2] [] pos) env) Q E s := by
  refine Call_method2 hbase rfl hline (wpAny_with_toks (Nat.le_refl _) (ho A s _ _ rm a fun v h' tk k r tt => ?_))
  have tp' : 0 < tk := Nat.lt_of_lt_of_le tp tt
  obtain ⟨t, rfl⟩ := r
  refine ⟨"str", "str.replace", PySem.F.plainAttrs_str, PySem.F.slot_str_replace, PySem.F.type_str_replace, typeIs_str _ _ _, (fun _ e => nomatch e), ?_⟩
  refine callWith_builtin rfl (evalArgs_plain (spliced_cons (Constant_str (spliced_cons (Constant_str (spliced_nil ?_))))))
  exact SC.replaceW (Nat.ne_of_gt tp') (Nat.ne_of_gt (Nat.succ_pos _)) (Nat.ne_of_lt (Nat.lt_succ_self _)) how (by rw [sx_len]; omega) hw fun t' k9 => ret _ _ _ k ⟨t', congrArg (fun z => Value.str z t') hy⟩
end
end
section
/-- data without parts -/
noncomputable def Flat : D → Prop
  | .none | .bool _ | .int _ | .str _ => True
  | _ => False
noncomputable def toD : Value → D
  | .none => .none
  | .bool b => .bool b
  | .int i _ => .int i
  | .str x _ => .str x.cps.toList
  | v => .val v
theorem Flat.any {P : Cx} {X X' : XS} {h h' : Heap} {d : D} {v : Value} (f : Flat d) (r : Rd P X h d v) : Rd P X' h' d v := by
  cases d <;> first | exact r | exact f.elim
theorem Flat.toD {P : Cx} {X : XS} {h : Heap} {d : D} {v : Value} (f : Flat d) (r : Rd P X h d v) : toD v = d := by
  cases d with
  | none => rw [show v = .none from r]; rfl
  | bool b => rw [show v = .bool b from r]; rfl
  | int i => obtain ⟨t, rfl⟩ := r; rfl
  | str x => obtain ⟨t, rfl⟩ := r; rfl
  | _ => exact f.elim

/-- something to go through: what it yields, in order -/
noncomputable def Src (P : Cx) (n : Nat) (X : XS) (env : Env) (h : Heap) (iter : Expr) (ds : List D) : Prop :=
  ∀ (A : Around) (s : Shared) (Q E : Value → Shared → Prop), Room n A → At X h s →
    (∀ I fp wr Pv St h' tk, Sub s.heap h' → At X h { s with heap := h', toks := tk } → (∀ A' : Around, A'.handled = none → Walks P.prog P.w A' I fp wr ds.length Pv St) → St 0 h' →
      (∀ i v, Pv i v → ∃ d, ds[i]? = some d ∧ Rd P (fun a => X a ∨ a ∈ wr) h' d v) → (∀ b ∈ fp, (∃ o, h'.get? b = some o) ∧ ¬ X b) → (∀ b ∈ wr, s.heap.get? b = none) → (∀ i h, St i h → ∀ b ∈ wr, ∃ o, h.get? b = some o) → Q (.ref I) { s with heap := h', toks := tk }) →
    wpAny (model P.prog P.w) A (eval iter env) (fun xv s₁ => wpAny (model P.prog P.w) A (pyIter xv) Q E s₁) E s

section
variable {P : Cx} {n : Nat} {X : XS} {env : Env} {h : Heap} {iter : Expr}

theorem src_list {ds : List D} (x : Ev P n X env h iter (.list ds)) : Src P n X env h iter ds := fun A s Q E rm a ret => by
  refine x.run rm a fun v h' tk k a' r => ?_
  obtain ⟨b, vs, rfl, nx, hL, hR⟩ := r
  have hlt : b < h'.objs.size := let ⟨o, ho⟩ := isList_got hL; Heap.lt_size ho
  have hz : vs.size = ds.length := by simpa using hR.length
  refine wpAny_pyIter_list hL ?_
  refine ret h'.objs.size _ _ (fun i v => vs[i]? = some v) (fun i h => h.IsListIter h'.objs.size b i ∧ h.IsList b vs) _ _ (k.trans (Sub.push _)) (a'.step (Sub.push _) (Nat.le_refl _)) (fun A' hA => by rw [← hz]; exact Walks.list hA _ b (Nat.ne_of_lt hlt) vs)
    ⟨⟨_, Heap.get?_push_size _ rfl, rfl, rfl⟩, isList_at hL fun o e => Sub.push _ _ _ e⟩ (fun i v hv => ?_) (fun c hc => ?_) (fun c hc => ?_) (fun i h st c hc => by rw [List.mem_singleton.mp hc]; exact let ⟨o, ho, _⟩ := st.1; ⟨o, ho⟩)
  · have hi : i < ds.length := by
      rw [← hz]
      rcases Nat.lt_or_ge i vs.size with q | q
      · exact q
      · rw [Array.getElem?_eq_none q] at hv; cases hv
    obtain ⟨w, hw, hd⟩ := hR.get (i := i) (d := ds[i]) (List.getElem?_eq_getElem hi)
    rw [Array.getElem?_toList] at hw
    rw [hv] at hw; cases hw
    refine ⟨ds[i], List.getElem?_eq_getElem hi, hd.mono fun c o nx e => ⟨?_, Sub.push _ _ _ e⟩⟩
    rintro (hc | hc)
    · exact nx hc
    · rw [List.mem_singleton.mp hc] at e
      exact absurd (Heap.lt_size e) (Nat.lt_irrefl _)
  · rcases List.mem_cons.mp hc with rfl | hc
    · exact ⟨⟨_, Heap.get?_push_size _ rfl⟩, a'.new⟩
    · rw [List.mem_singleton.mp hc]; obtain ⟨o, ho⟩ := isList_got hL; exact ⟨⟨o, Sub.push _ _ _ ho⟩, nx⟩
  · rw [List.mem_singleton.mp hc]
    cases e : s.heap.get? h'.objs.size with
    | none => rfl
    | some o => exact absurd (Heap.lt_size (k _ _ e)) (Nat.lt_irrefl _)

theorem one_fresh {s : Shared} {h' : Heap} {b : Addr} (k : Sub s.heap h') (hb : h'.objs.size ≤ b) : s.heap.get? b = none := by
  cases e : s.heap.get? b with
  | none => rfl
  | some o => exact absurd (Heap.lt_size (k _ _ e)) (Nat.not_lt.mpr hb)

theorem src_rng {j k : Int} (x : Ev P n X env h iter (.rng j k)) (hjk : j ≤ k) (hj : -1000000 ≤ j) (hk : k ≤ 1000000) : Src P n X env h iter ((ups j (k - j).toNat).map D.int) := fun A s Q E rm a ret => by
  refine x.run rm a fun v h' tk kk a' r => ?_
  obtain ⟨b, t, u, w, rfl, nx, hR⟩ := r
  refine wpAny_pyIter_range hR (small_one (by omega) (by omega) (by omega) (by omega)) ?_
  refine ret _ _ _ (fun i v => i < (k - j).toNat ∧ ∃ t, v = .int (j + i * 1) t) (fun i h => IsRangeIter h h'.objs.size (j + (i : Nat) * 1) (((k - j).toNat : Int) - (i : Nat)) 1) _ _ (kk.trans (Sub.push _)) (a'.step (Sub.push _) (Nat.le_refl _))
    (fun A' hA => by rw [List.length_map, ups_length]; exact (Walks.range hA _ j 1 (k - j).toNat).bound) ?_ (fun i v hv => ?_) (fun c hc => ?_) (fun c hc => ?_) (fun i h st c hc => by rw [List.mem_singleton.mp hc]; exact ⟨_, st⟩)
  · show IsRangeIter _ _ _ _ _
    rw [rangeSize_nat hjk]
    simpa using Heap.get?_push_size _ rfl
  · obtain ⟨hi, t, rfl⟩ := hv
    refine ⟨.int (j + i), ?_, ⟨t, by simp⟩⟩
    rw [List.getElem?_map, ups_get hi]; rfl
  · rw [List.mem_singleton.mp hc]; exact ⟨⟨_, Heap.get?_push_size _ rfl⟩, a'.new⟩
  · rw [List.mem_singleton.mp hc]; exact one_fresh kk (Nat.le_refl _)

theorem src_str {y : List Nat} (x : Ev P n X env h iter (.str y)) : Src P n X env h iter (y.map fun c => D.str [c]) := fun A s Q E rm a ret => by
  refine x.run rm a fun v h' tk kk a' r => ?_
  obtain ⟨t, rfl⟩ := r
  have core : ∀ (c : String) (o : Obj) (St : Nat → Heap → Prop), (∀ A' : Around, A'.handled = none → Walks P.prog P.w A' h'.objs.size [h'.objs.size] [h'.objs.size] (Sx y).cps.size (SignAt (Sx y)) St) → St 0 (h'.push o) → o.isFreed = false →
      (∀ i h, St i h → ∃ o, h.get? h'.objs.size = some o) → Q (.ref h'.objs.size) { s with heap := h'.push o, toks := tk } := fun c o St W st hfree hex => by
    refine ret _ _ _ _ _ _ _ (kk.trans (Sub.push _)) (a'.step (Sub.push _) (Nat.le_refl _)) (fun A' hA => by rw [List.length_map]; simpa using W A' hA) st (fun i v hv => ?_) (fun c hc => ?_) (fun c hc => ?_) (fun i h st c hc => by rw [List.mem_singleton.mp hc]; exact hex i h st)
    · obtain ⟨c, u, hc, rfl⟩ := hv
      refine ⟨.str [c], ?_, ⟨u, rfl⟩⟩
      rw [List.getElem?_map]
      have : y[i]? = some c := by simpa using hc
      rw [this]; rfl
    · rw [List.mem_singleton.mp hc]; exact ⟨⟨_, Heap.get?_push_size _ hfree⟩, a'.new⟩
    · rw [List.mem_singleton.mp hc]; exact one_fresh kk (Nat.le_refl _)
  cases ha : (Sx y).cps.all (· < 128)
  · exact wpAny_pyIter_wide ha (core "" _ _ (fun A' hA => Walks.strWide hA _ (Sx y) t) ⟨_, Heap.get?_push_size _ rfl, rfl, rfl⟩ rfl fun i h st => let ⟨o, ho, _⟩ := st; ⟨o, ho⟩)
  · exact wpAny_pyIter_ascii ha (core "" _ _ (fun A' hA => Walks.strAscii hA _ (Sx y) t) ⟨_, Heap.get?_push_size _ rfl, rfl, rfl⟩ rfl fun i h st => let ⟨o, ho, _⟩ := st; ⟨o, ho⟩)
end

/-- the tests of a comprehension: none or one -/
noncomputable def Tts (P : Cx) (n : Nat) (X : XS) (env : Env) (h : Heap) : List Expr → Bool → Prop
  | [], b => b = true
  | [e], b => Tt P n X env h e b
  | _, _ => False

theorem Tts.run {P : Cx} {n : Nat} {X : XS} {env : Env} {h : Heap} {ifs : List Expr} {b : Bool} (x : Tts P n X env h ifs b) {A : Around} {s : Shared} {Q : Bool → Shared → Prop} {E : Value → Shared → Prop} (rm : Room n A) (a : At X h s)
    (ret : ∀ h' tk, Sub s.heap h' → Q b { s with heap := h', toks := tk }) :
    wpAny (model P.prog P.w) A (forIn ifs true fun c r => if r = true then do let ok ← isTrue c env (eval c env); pure (ForInStep.yield ok) else pure (ForInStep.yield r)) Q E s := by
  match ifs, x with
  | [], x => rw [show b = true from x] at ret; exact wpAny_tests_nil (ret s.heap s.toks Sub.refl)
  | [e], x => exact wpAny_tests_one (x A s Q E rm a ret)

/-- what a comprehension makes of its items -/
structure Cmp (P : Cx) (n : Nat) (X : XS) (env : Env) (h : Heap) (x : Str) (iter elt : Expr) (ifs : List Expr) (scope : Scope) (cl : List (Str × Addr)) (ds : List D) (p : D → Bool) (f : D → D) : Prop where
  src : Src P n X env h iter ds
  flat : ∀ d ∈ ds, Flat d
  small : ds.length ≤ 1000000
  tests : ∀ d ∈ ds, ∀ C h', Sub h h' → Vr P X (compEnvC scope cl C env) h' x d → Tts P n X (compEnvC scope cl C env) h' ifs (p d)
  elt : ∀ d ∈ ds, p d = true → Flat (f d) ∧ ∀ C h', Sub h h' → Vr P X (compEnvC scope cl C env) h' x d → Ev P n X (compEnvC scope cl C env) h' elt (f d)
  hclos : closureFor scope env = pure cl
  hcell : ∀ y ∈ scope.names, y.2 ≠ .cell
  hkind : scope.kind = .function
  hnames : ∀ y ∈ scope.names, y.2 = .local → scope.names.lookup y.1 = some .local
  hx : scope.names.lookup x = some .local
  hs : ∀ x, foldedSetIterable iter env x = pure x

section
variable {P : Cx} {n : Nat} {X : XS} {env : Env} {h : Heap} {x : Str} {iter elt : Expr} {ifs : List Expr} {scope : Scope} {cl : List (Str × Addr)} {ds : List D} {p : D → Bool} {f : D → D}

theorem rds_of_paired (hfl : ∀ d ∈ ds, p d = true → Flat (f d)) {X' : XS} {h' : Heap} {vs ys : List Value} (F : Paired (fun v y => Rd P X h (f (toD v)) y) vs ys) :
    (∀ v ∈ vs, toD v ∈ ds ∧ p (toD v) = true) → Rds P X' h' ((vs.map toD).map f) ys := by
  induction F with
  | nil => intro _; rfl
  | cons q r ih =>
    intro H
    exact ⟨_, _, rfl, (hfl _ (H _ (.head _)).1 (H _ (.head _)).2).any q, ih fun w hw => H w (.tail _ hw)⟩

theorem Cmp.item (c : Cmp P n X env h x iter elt ifs scope cl ds p f) {Pv : Nat → Value → Prop} {X' : XS} {h' : Heap} (hit : ∀ i v, Pv i v → ∃ d, ds[i]? = some d ∧ Rd P X' h' d v) :
    ∀ i v, Pv i v → ∃ d, ds[i]? = some d ∧ d ∈ ds ∧ toD v = d ∧ ∀ h₃, Rd P X h₃ d v := fun i v hv => by
  obtain ⟨d, hd, hr⟩ := hit i v hv
  have hm := List.mem_of_getElem? hd
  exact ⟨d, hd, hm, (c.flat d hm).toD hr, fun h₃ => (c.flat d hm).any hr⟩

theorem Cmp.quiet (c : Cmp P n X env h x iter elt ifs scope cl ds p f) {A : Around} {s : Shared} (rm : Room n A) (a : At X h s) {wr : List Addr} {Pv : Nat → Value → Prop} {h' : Heap} {tk : Nat} (k : Sub s.heap h')
    (a' : At X h { s with heap := h', toks := tk }) {X' : XS} (hit : ∀ i v, Pv i v → ∃ d, ds[i]? = some d ∧ Rd P X' h' d v) (hwr : ∀ b ∈ wr, s.heap.get? b = none) :
    QuietOnC P.prog P.w A env scope cl x ifs elt wr Pv (fun v => p (toD v)) (fun v y => Rd P X h (f (toD v)) y) { s with heap := h', toks := tk } := by
  have kx : ∀ {s₃ : Shared}, (∀ b o, b ∉ wr → h'.get? b = some o → s₃.heap.get? b = some o) → Sub s.heap s₃.heap := fun hk b o e => hk b o (fun hm => by rw [hwr b hm] at e; cases e) (k b o e)
  have item := c.item hit
  refine ⟨?_, ?_⟩
  · intro C i v s₃ m₃ E' hC hv hn hm hk htk
    obtain ⟨d, hd, hmem, htd, hr⟩ := item i v hv
    have k₃ := kx hk
    have a₃ : At X s₃.heap s₃ := ⟨Sub.refl, fun b y => let ⟨o, ho⟩ := a.xo b y; ⟨o, k₃ _ _ ho⟩, Nat.zero_le _⟩
    have V : Vr P X (compEnvC scope cl C env) s₃.heap x d := ⟨v, .inl ⟨lookup_relabel_local c.hx, m₃, hn, hm⟩, hr _⟩
    refine (c.tests d hmem C s₃.heap (a.sub.trans k₃) V).run rm a₃ fun h₄ tk₄ k₄ => ⟨by rw [htd], h₄, tk₄, rfl, k₄⟩
  · intro C i v s₃ m₃ E' hC hv hp hn hm hk htk
    obtain ⟨d, hd, hmem, htd, hr⟩ := item i v hv
    have k₃ := kx hk
    have a₃ : At X s₃.heap s₃ := ⟨Sub.refl, fun b y => let ⟨o, ho⟩ := a.xo b y; ⟨o, k₃ _ _ ho⟩, Nat.zero_le _⟩
    have V : Vr P X (compEnvC scope cl C env) s₃.heap x d := ⟨v, .inl ⟨lookup_relabel_local c.hx, m₃, hn, hm⟩, hr _⟩
    have hp' : p d = true := by rw [← htd]; exact hp
    refine (c.elt d hmem hp').2 C s₃.heap (a.sub.trans k₃) V A s₃ _ E' rm a₃ fun y h₄ tk₄ k₄ r₄ => ⟨?_, h₄, tk₄, rfl, k₄⟩
    show Rd P X h (f (toD v)) y
    rw [htd]
    exact (c.elt d hmem hp').1.any r₄

theorem Cmp.reads (c : Cmp P n X env h x iter elt ifs scope cl ds p f) {Pv : Nat → Value → Prop} {X' : XS} {h' : Heap} (hit : ∀ i v, Pv i v → ∃ d, ds[i]? = some d ∧ Rd P X' h' d v) {vs : List Value} {ys : List Value}
    (hlen : vs.length = ds.length) (hP : ∀ (j : Nat) (v : Value), vs[j]? = some v → Pv j v) (hF : Paired (fun v y => Rd P X h (f (toD v)) y) (vs.filter fun v => p (toD v)) ys) {X'' : XS} {h'' : Heap} :
    Rds P X'' h'' ((ds.filter p).map f) ys := by
  have item := c.item hit
  have hvd : vs.map toD = ds := by
    refine List.ext_getElem? fun i => ?_
    rw [List.getElem?_map]
    cases e : vs[i]? with
    | none =>
      rw [List.getElem?_eq_none_iff] at e
      rw [List.getElem?_eq_none (by omega)]; rfl
    | some v =>
      obtain ⟨d, hd, hmem, htd, _⟩ := item i v (hP i v e)
      rw [hd, ← htd]; rfl
  have := rds_of_paired (P := P) (X := X) (h := h) (ds := ds) (p := p) (f := f) (fun d hd hp => (c.elt d hd hp).1) (X' := X'') (h' := h'') hF (fun v hv => ?_)
  · rw [← hvd, List.filter_map]
    exact this
  · obtain ⟨h1, h2⟩ := List.mem_filter.mp hv
    exact ⟨hvd ▸ List.mem_map_of_mem h1, h2⟩

theorem ev_comp {px cpos : Pos} (c : Cmp P n X env h x iter elt ifs scope cl ds p f) : Ev P n X env h (.ListComp elt [⟨.Name x px, iter, ifs, 0⟩] scope cpos) (.list ((ds.filter p).map f)) :=
  fun A s Q E rm a ret => by
  refine wpAny_ListComp_free (fun v => p (toD v)) (fun v y => Rd P X h (f (toD v)) y) c.hclos c.hcell c.hkind c.hnames c.hx (c.src A s _ E rm a fun I fp wr Pv St h' tk k a' W st hit hfp hwr hex => ?_) c.hs
  refine ⟨I, fp, wr, ds.length, Pv, St, rfl, W A rm.1, by rw [sizeLine_eq]; have := c.small; omega, st, fun b hb => let ⟨o, ho⟩ := (hfp b hb).1; Heap.lt_size ho, c.quiet rm a k a' hit hwr, ?_⟩
  intro Dd h₅ tk₅ ys vs hD hl hpl hlen hP hF hk
  have k₅ : Sub s.heap h₅ := fun b o e => hk b o (fun hm => by rw [hwr b hm] at e; cases e) (k b o e)
  refine ret _ h₅ tk₅ k₅ ⟨Dd, ys, rfl, fun hX => ?_, hl, c.reads hit hlen hP hF⟩
  obtain ⟨o, ho⟩ := a.xo Dd hX
  rw [show h'.get? Dd = some o from k _ _ ho] at hD
  cases hD
end
end
section
abbrev Gam := List (Str × D)
abbrev Own := List (Addr × D)

/-- what may be written in a frame: what was shut already, the names' places, the things of its own -/
noncomputable def Mut (X : XS) (env : Env) (O : Own) : XS := fun a => X a ∨ a = env.locals ∨ (∃ x, env.cells.lookup x = some a) ∨ ∃ d, (a, d) ∈ O

/-- pairs of texts, as a dictionary holds them -/
inductive KV : List (Str × Value) → List (List Nat × List Nat) → Prop
  | nil : KV [] []
  | cons (x y : List Nat) (t : Tok) {kvs : List (Str × Value)} {kv : List (List Nat × List Nat)} : KV kvs kv → KV ((Sx x, .str (Sx y) t) :: kvs) ((x, y) :: kv)
theorem sx_eq {x k : List Nat} : Sx x = Sx k ↔ x = k := ⟨sx_inj, fun e => by rw [e]⟩
theorem KV.look {kvs : List (Str × Value)} {kv : List (List Nat × List Nat)} (X : KV kvs kv) (k : List Nat) : (kv.lookup k = .none → valueAt kvs (Sx k) = .none) ∧ ∀ x, kv.lookup k = some x → ∃ t, valueAt kvs (Sx k) = some (.str (Sx x) t) := by
  induction X with
  | nil => exact ⟨fun _ => rfl, fun x e => by cases e⟩
  | cons x y t r ih =>
    unfold valueAt at ih ⊢
    rw [List.lookup_cons, List.find?_cons]
    by_cases q : k = x
    · subst q
      rw [beq_self_eq_true]
      simp only [decide_true]
      exact ⟨fun e => (by cases e), fun z e => (by cases e; exact ⟨t, rfl⟩)⟩
    · have q' : ¬ Sx x = Sx k := fun e => q (sx_inj e).symm
      rw [beq_eq_false_iff_ne.mpr q]
      simp only [q', decide_false]
      exact ih
theorem KV.length {kvs : List (Str × Value)} {kv : List (List Nat × List Nat)} (X : KV kvs kv) : kvs.length = kv.length := by
  induction X with
  | nil => rfl
  | cons x y t r ih => simp [ih]
/-- a thing of the frame's own: its content -/
noncomputable def Ow (P : Cx) (X : XS) (h : Heap) (a : Addr) : D → Prop
  | .list ds => ∃ vs, PlainL h a vs ∧ Rds P X h ds vs.toList
  | .dict kv => ∃ kvs, (a == sysModules) = false ∧ h.DictOf (strKind P.prog P.w) a kvs ∧ KV kvs kv
  | _ => False

structure St (P : Cx) (X : XS) (B : Heap) (env : Env) (Γ : Gam) (O : Own) (s : Shared) : Prop where
  W : Sub P.W B
  x0 : ∀ a, X a → ∃ o, B.get? a = some o
  tp : 0 ≤ s.toks
  sub : Sub B s.heap
  nl : B.get? env.locals = none
  nc : ∀ x c, env.cells.lookup x = some c → B.get? c = none
  fr : ∃ m cm, s.heap.Ns env.locals m ∧ Cl env.locals env.cells s.heap cm ∧
    ∀ x d, Γ.lookup x = some d → ∃ v, ((env.kindOf x = some .local ∧ m x = some v) ∨ (env.kindOf x = some .cell ∧ ∃ c, env.cells.lookup x = some c ∧ cm x = some v)) ∧ Rd P (Mut X env O) s.heap d v
  own : ∀ a d, (a, d) ∈ O → B.get? a = none ∧ a ≠ env.locals ∧ (∀ x, env.cells.lookup x ≠ some a) ∧ Ow P (Mut X env O) s.heap a d
  apart : (O.map Prod.fst).Nodup

section
variable {P : Cx} {n : Nat} {X : XS} {B : Heap} {env : Env} {Γ : Gam} {O : Own} {s : Shared}

theorem Ow.mono {X X' : XS} {h h' : Heap} {a : Addr} {d : D} (k : ∀ a o, ¬ X a → h.get? a = some o → ¬ X' a ∧ h'.get? a = some o) (ka : ∀ o, h.get? a = some o → h'.get? a = some o) (x : Ow P X h a d) : Ow P X' h' a d := by
  cases d with
  | list ds => obtain ⟨vs, h1, h2⟩ := x; exact ⟨vs, h1.at ka, h2.mono k⟩
  | dict kv => obtain ⟨m, hs, h1, h2⟩ := x; exact ⟨m, hs, (let ⟨o, ho, hd⟩ := Heap.dictOf_iff.mp h1; Heap.dictOf_iff.mpr ⟨o, ka _ ho, hd⟩), h2⟩
  | _ => exact x.elim
theorem Ow.got {X : XS} {h : Heap} {a : Addr} {d : D} (x : Ow P X h a d) : ∃ o, h.get? a = some o := by
  cases d with
  | list ds => obtain ⟨vs, h1, h2⟩ := x; exact isList_got h1.isList
  | dict kv => obtain ⟨m, hs, h1, h2⟩ := x; exact mapOf_got h1.mapOf
  | _ => exact x.elim
theorem Ow.freeze {X X' : XS} {h : Heap} {a : Addr} {d : D} (x : Ow P X h a d) (k : ∀ b, X' b → X b) (na : ¬ X' a) : Rd P X' h d (.ref a) := by
  cases d with
  | list ds => obtain ⟨vs, h1, h2⟩ := x; exact ⟨a, vs, rfl, na, h1.isList, h2.weak k⟩
  | dict kv => obtain ⟨m, hs, h1, h2⟩ := x; exact ⟨a, _, rfl, na, hs, h1.mapOf, h2.look⟩
  | _ => exact x.elim

theorem St.kW (st : St P X B env Γ O s) : Sub P.W s.heap := st.W.trans st.sub
theorem St.mut (st : St P X B env Γ O s) : ∀ a, Mut X env O a → ∃ o, s.heap.get? a = some o := fun a y => by
  obtain ⟨m, cm, F, C, _⟩ := st.fr
  rcases y with y | y | ⟨x, y⟩ | ⟨d, y⟩
  · obtain ⟨o, ho⟩ := st.x0 a y; exact ⟨o, st.sub _ _ ho⟩
  · obtain ⟨o, _, _, ho, _⟩ := F; exact ⟨o, y ▸ ho⟩
  · obtain ⟨o, ho, _⟩ := C.cell x a y; exact ⟨o, ho⟩
  · exact (st.own a d y).2.2.2.got
theorem St.at (st : St P X B env Γ O s) : At (Mut X env O) s.heap s := ⟨Sub.refl, st.mut, st.tp⟩
theorem St.vr (st : St P X B env Γ O s) {x : Str} {d : D} (e : Γ.lookup x = some d) : Vr P (Mut X env O) env s.heap x d := by
  obtain ⟨m, cm, F, C, V⟩ := st.fr
  obtain ⟨v, hv, r⟩ := V x d e
  rcases hv with ⟨h1, h2⟩ | ⟨h1, c, h2, h3⟩
  · exact ⟨v, .inl ⟨h1, m, F, h2⟩, r⟩
  · exact ⟨v, .inr ⟨h1, c, h2, h3 ▸ C.cell x c h2⟩, r⟩

/-- nothing that stood is changed -/
theorem St.keep (st : St P X B env Γ O s) {h' : Heap} {tk : Nat} (k : Sub s.heap h') (t : 0 ≤ tk) : St P X B env Γ O { s with heap := h', toks := tk } := by
  refine ⟨st.W, st.x0, t, st.sub.trans k, st.nl, st.nc, ?_, fun a d hm => ?_, st.apart⟩
  · obtain ⟨m, cm, F, C, V⟩ := st.fr
    refine ⟨m, cm, F.keeps k, C.keeps k, fun x d e => ?_⟩
    obtain ⟨v, hv, r⟩ := V x d e
    exact ⟨v, hv, r.sub k⟩
  · obtain ⟨h1, h2, h3, h4⟩ := st.own a d hm
    exact ⟨h1, h2, h3, h4.mono (fun a o nx e => ⟨nx, k _ _ e⟩) fun o e => k _ _ e⟩

/-- less known -/
theorem St.less (st : St P X B env Γ O s) {Γ' : Gam} (k : ∀ x d, Γ'.lookup x = some d → Γ.lookup x = some d) : St P X B env Γ' O s := by
  refine ⟨st.W, st.x0, st.tp, st.sub, st.nl, st.nc, ?_, st.own, st.apart⟩
  obtain ⟨m, cm, F, C, V⟩ := st.fr
  exact ⟨m, cm, F, C, fun x d e => V x d (k x d e)⟩

theorem not_mut_below {a : Addr} (na : Mut X env O a → False) : ¬ X a ∧ a ≠ env.locals := ⟨fun h => na (.inl h), fun h => na (.inr (.inl h))⟩

/-- a name is set -/
theorem St.store (st : St P X B env Γ O s) {x : Str} {v : Value} {d : D} {A : Around} {M : Model} {Q : Unit → Shared → Prop} {E : Value → Shared → Prop} (hf : env.scope.kind = .function)
    (hk : env.kindOf x = some .local ∨ env.kindOf x = some .cell ∧ ∃ c, env.cells.lookup x = some c) (r : Rd P (Mut X env O) s.heap d v)
    (h : ∀ h' tk, St P X B env ((x, d) :: Γ) O { s with heap := h', toks := tk } → (∀ d' v', Rd P (Mut X env O) s.heap d' v' → Rd P (Mut X env O) h' d' v') → Q () { s with heap := h', toks := tk }) :
    wpAny M A (storeName env x v) Q E s := by
  obtain ⟨m, cm, F, C, V⟩ := st.fr
  have look : ∀ {y : Str} {e : D}, ((x, d) :: Γ).lookup y = some e → (y = x ∧ e = d) ∨ (y ≠ x ∧ Γ.lookup y = some e) := fun {y e} q => by
    rw [List.lookup_cons] at q
    by_cases hyx : y = x
    · subst hyx; rw [beq_self_eq_true] at q; exact .inl ⟨rfl, (Option.some.inj q).symm⟩
    · rw [beq_eq_false_iff_ne.mpr hyx] at q; exact .inr ⟨hyx, q⟩
  rcases hk with hk | ⟨hk, c, hc⟩
  · refine wpAny_storeName_local hk F (fun h' hn hs => ?_) (by rw [hf]; rfl)
    have kk : ∀ a o, ¬ Mut X env O a → s.heap.get? a = some o → ¬ Mut X env O a ∧ h'.get? a = some o := fun a o na e => ⟨na, (hs.2 a (not_mut_below na).2).trans e⟩
    refine h h' _ ⟨st.W, st.x0, Nat.zero_le _, fun b o e => (hs.2 b (fun q => by rw [q, st.nl] at e; cases e)).trans (st.sub b o e), st.nl, st.nc, ⟨_, cm, hn, C.sameBut hs (Nat.le_refl _), fun y e q => ?_⟩, fun a e hm => ?_, st.apart⟩ fun d' v' r' => r'.mono kk
    · rcases look q with ⟨rfl, rfl⟩ | ⟨hyx, q⟩
      · exact ⟨v, .inl ⟨hk, by simp⟩, r.mono kk⟩
      · obtain ⟨w, hw, rw'⟩ := V y e q
        refine ⟨w, ?_, rw'.mono kk⟩
        rcases hw with ⟨h1, h2⟩ | h1
        · exact .inl ⟨h1, by simpa [hyx] using h2⟩
        · exact .inr h1
    · obtain ⟨h1, h2, h3, h4⟩ := st.own a e hm
      exact ⟨h1, h2, h3, h4.mono kk fun o q => (hs.2 a h2).trans q⟩
  · have hLc : env.locals < c := C.above x c (mem_of_lookup hc)
    refine wpAny_storeName_cell hf hk hc (C.cell x c hc) fun h' hv hs => ?_
    have nm : ∀ a, ¬ Mut X env O a → a ≠ c := fun a na e => na (.inr (.inr (.inl ⟨x, e ▸ hc⟩)))
    have kk : ∀ a o, ¬ Mut X env O a → s.heap.get? a = some o → ¬ Mut X env O a ∧ h'.get? a = some o := fun a o na e => ⟨na, (hs.2 a (nm a na)).trans e⟩
    have bc : ∀ b o, B.get? b = some o → b ≠ c := fun b o e q => by rw [q, st.nc x c hc] at e; cases e
    refine h h' s.toks ⟨st.W, st.x0, st.tp, fun b o e => (hs.2 b (bc b o e)).trans (st.sub b o e), st.nl, st.nc, ⟨m, (fun y => if y = x then some v else cm y), F.sameBut hs (Nat.ne_of_lt hLc), ⟨fun y c' e => ?_, C.apart, C.above⟩, fun y e q => ?_⟩, fun a e hm => ?_, st.apart⟩
      fun d' v' r' => r'.mono kk
    · by_cases hyx : y = x
      · subst hyx; rw [hc] at e; cases e; simpa using hv
      · have hcc : c' ≠ c := fun q => hyx (name_of_addr C.apart (mem_of_lookup e) (q ▸ mem_of_lookup hc))
        simpa [hyx] using (C.cell y c' e).sameBut hs hcc
    · rcases look q with ⟨rfl, rfl⟩ | ⟨hyx, q⟩
      · exact ⟨v, .inr ⟨hk, c, hc, by simp⟩, r.mono kk⟩
      · obtain ⟨w, hw, rw'⟩ := V y e q
        refine ⟨w, ?_, rw'.mono kk⟩
        rcases hw with h1 | ⟨h1, c', h2, h3⟩
        · exact .inl h1
        · exact .inr ⟨h1, c', h2, by simpa [hyx] using h3⟩
    · obtain ⟨h1, h2, h3, h4⟩ := st.own a e hm
      exact ⟨h1, h2, h3, h4.mono kk fun o q => (hs.2 a (fun q' => h3 x (q' ▸ hc))).trans q⟩

/-- a new thing of the frame's own -/
theorem St.take (st : St P X B env Γ O s) {h' : Heap} {tk : Nat} {a : Addr} {d : D} (k : Sub s.heap h') (t : 0 ≤ tk) (new : s.heap.get? a = none)
    (o : Ow P (Mut X env ((a, d) :: O)) h' a d) : St P X B env Γ ((a, d) :: O) { s with heap := h', toks := tk } := by
  have na : ¬ Mut X env O a := fun y => by obtain ⟨o, ho⟩ := st.mut a y; rw [new] at ho; cases ho
  have up : ∀ {b : Addr}, Mut X env ((a, d) :: O) b → b = a ∨ Mut X env O b := fun {b} y => by
    rcases y with y | y | y | ⟨e, y⟩
    · exact .inr (.inl y)
    · exact .inr (.inr (.inl y))
    · exact .inr (.inr (.inr (.inl y)))
    · rcases List.mem_cons.mp y with q | y
      · exact .inl (by cases q; rfl)
      · exact .inr (.inr (.inr (.inr ⟨e, y⟩)))
  have kk : ∀ b o, ¬ Mut X env O b → s.heap.get? b = some o → ¬ Mut X env ((a, d) :: O) b ∧ h'.get? b = some o := fun b o nb e =>
    ⟨fun y => (up y).elim (fun q => by rw [q, new] at e; cases e) nb, k _ _ e⟩
  have olda : ∀ e, (a, e) ∉ O := fun e hm => na (.inr (.inr (.inr ⟨e, hm⟩)))
  refine ⟨st.W, st.x0, t, st.sub.trans k, st.nl, st.nc, ?_, fun b e hm => ?_, ?_⟩
  · obtain ⟨m, cm, F, C, V⟩ := st.fr
    refine ⟨m, cm, F.keeps k, C.keeps k, fun x e q => ?_⟩
    obtain ⟨v, hv, r⟩ := V x e q
    exact ⟨v, hv, r.mono kk⟩
  · rcases List.mem_cons.mp hm with q | hm
    · cases q
      refine ⟨?_, fun q => na (.inr (.inl q)), fun x q => na (.inr (.inr (.inl ⟨x, q⟩))), ?_⟩
      · cases e : B.get? a with
        | none => rfl
        | some ob => rw [st.sub _ _ e] at new; cases new
      · exact o
    · obtain ⟨h1, h2, h3, h4⟩ := st.own b e hm
      exact ⟨h1, h2, h3, h4.mono kk fun o q => k _ _ q⟩
  · rw [List.map_cons, List.nodup_cons]
    refine ⟨fun hm => ?_, st.apart⟩
    obtain ⟨⟨b, e⟩, hm, q⟩ := List.mem_map.mp hm
    cases q
    exact olda e hm

theorem mut_cons {a b : Addr} {d : D} (y : Mut X env ((a, d) :: O) b) : b = a ∨ Mut X env O b := by
  rcases y with y | y | y | ⟨e, y⟩
  · exact .inr (.inl y)
  · exact .inr (.inr (.inl y))
  · exact .inr (.inr (.inr (.inl y)))
  · rcases List.mem_cons.mp y with q | y
    · exact .inl (by cases q; rfl)
    · exact .inr (.inr (.inr (.inr ⟨e, y⟩)))
theorem mut_tail {a b : Addr} {d : D} (y : Mut X env O b) : Mut X env ((a, d) :: O) b := by
  rcases y with y | y | y | ⟨e, y⟩
  · exact .inl y
  · exact .inr (.inl y)
  · exact .inr (.inr (.inl y))
  · exact .inr (.inr (.inr ⟨e, .tail _ y⟩))
/-- the content of the first own thing is changed -/
theorem St.change {a : Addr} {d d' : D} (st : St P X B env Γ ((a, d) :: O) s) {h' : Heap} {tk : Nat} (hs : Heap.SameBut a s.heap h') (t : 0 ≤ tk)
    (o : Ow P (Mut X env ((a, d') :: O)) h' a d') : St P X B env Γ ((a, d') :: O) { s with heap := h', toks := tk } := by
  have mm : ∀ b, Mut X env ((a, d') :: O) b ↔ Mut X env ((a, d) :: O) b := fun b =>
    ⟨fun y => (mut_cons y).elim (fun q => .inr (.inr (.inr ⟨d, q ▸ .head _⟩))) mut_tail, fun y => (mut_cons y).elim (fun q => .inr (.inr (.inr ⟨d', q ▸ .head _⟩))) mut_tail⟩
  have ne : ∀ b, ¬ Mut X env ((a, d) :: O) b → b ≠ a := fun b nb q => nb (.inr (.inr (.inr ⟨d, q ▸ .head _⟩)))
  have kk : ∀ b o, ¬ Mut X env ((a, d) :: O) b → s.heap.get? b = some o → ¬ Mut X env ((a, d') :: O) b ∧ h'.get? b = some o := fun b o nb e => ⟨fun y => nb ((mm b).mp y), (hs.2 b (ne b nb)).trans e⟩
  obtain ⟨a1, a2, a3, a4⟩ := st.own a d (.head _)
  have ap := st.apart
  rw [List.map_cons, List.nodup_cons] at ap
  refine ⟨st.W, st.x0, t, fun b o e => (hs.2 b (fun q => by rw [q, a1] at e; cases e)).trans (st.sub b o e), st.nl, st.nc, ?_, fun b e hm => ?_, by rw [List.map_cons, List.nodup_cons]; exact ap⟩
  · obtain ⟨m, cm, F, C, V⟩ := st.fr
    refine ⟨m, cm, F.sameBut hs (Ne.symm a2), ⟨fun y c e => (C.cell y c e).sameBut hs (fun q => a3 y (q ▸ e)), C.apart, C.above⟩, fun x e q => ?_⟩
    obtain ⟨v, hv, r⟩ := V x e q
    exact ⟨v, hv, r.mono kk⟩
  · rcases List.mem_cons.mp hm with q | hm
    · cases q; exact ⟨a1, a2, a3, o⟩
    · obtain ⟨h1, h2, h3, h4⟩ := st.own b e (.tail _ hm)
      have hba : b ≠ a := fun q => ap.1 (List.mem_map.mpr ⟨(b, e), hm, q⟩)
      exact ⟨h1, h2, h3, h4.mono kk fun o q => (hs.2 b hba).trans q⟩
/-- a thing of the frame's own is shut: it will not be changed any more -/
theorem St.drop {a : Addr} {d : D} (st : St P X B env Γ ((a, d) :: O) s) : St P X B env Γ O s ∧ Rd P (Mut X env O) s.heap d (.ref a) := by
  have ap := st.apart
  rw [List.map_cons, List.nodup_cons] at ap
  obtain ⟨a1, a2, a3, a4⟩ := st.own a d (.head _)
  have na : ¬ Mut X env O a := fun y => by
    rcases y with y | y | ⟨x, y⟩ | ⟨e, y⟩
    · obtain ⟨o, ho⟩ := st.x0 a y; rw [a1] at ho; cases ho
    · exact a2 y
    · exact a3 x y
    · exact ap.1 (List.mem_map.mpr ⟨(a, e), y, rfl⟩)
  refine ⟨⟨st.W, st.x0, st.tp, st.sub, st.nl, st.nc, ?_, fun b e hm => ?_, ap.2⟩, a4.freeze (fun b y => mut_tail y) na⟩
  · obtain ⟨m, cm, F, C, V⟩ := st.fr
    refine ⟨m, cm, F, C, fun x e q => ?_⟩
    obtain ⟨v, hv, r⟩ := V x e q
    exact ⟨v, hv, r.weak fun b y => mut_tail y⟩
  · obtain ⟨h1, h2, h3, h4⟩ := st.own b e (.tail _ hm)
    exact ⟨h1, h2, h3, h4.mono (fun c o nc q => ⟨fun y => nc (mut_tail y), q⟩) fun o q => q⟩
/-- a name whose value is known otherwise -/
theorem St.know (st : St P X B env Γ O s) {x : Str} {d d' : D} (e : Γ.lookup x = some d) (r : ∀ v, Rd P (Mut X env O) s.heap d v → Rd P (Mut X env O) s.heap d' v) : St P X B env ((x, d') :: Γ) O s := by
  refine ⟨st.W, st.x0, st.tp, st.sub, st.nl, st.nc, ?_, st.own, st.apart⟩
  obtain ⟨m, cm, F, C, V⟩ := st.fr
  refine ⟨m, cm, F, C, fun y e' q => ?_⟩
  rw [List.lookup_cons] at q
  by_cases hyx : y = x
  · subst hyx
    rw [beq_self_eq_true] at q
    cases q
    obtain ⟨v, hv, rv⟩ := V y d e
    exact ⟨v, hv, r v rv⟩
  · rw [beq_eq_false_iff_ne.mpr hyx] at q
    exact V y e' q
end

/-- how a run of statements ends -/
inductive Oc where
  | next (Γ : Gam) (O : Own)
  | brk (Γ : Gam) (O : Own)
  | ret (d : D)
noncomputable def Oc.Ok (P : Cx) (X : XS) (B : Heap) (env : Env) : Oc → Flow → Shared → Prop
  | .next Γ O, f, s => f = .next ∧ St P X B env Γ O s
  | .brk Γ O, f, s => f = .brk ∧ St P X B env Γ O s
  | .ret d, f, s => ∃ v, f = .ret v ∧ Sub B s.heap ∧ Rd P X s.heap d v

/-- statements: from what is known to how it ends -/
noncomputable def Tr (P : Cx) (n : Nat) (X : XS) (B : Heap) (env : Env) (Γ : Gam) (O : Own) (ss : List Stmt) (R : Oc → Prop) : Prop :=
  ∀ (A : Around) (s : Shared) (Q : Flow → Shared → Prop) (E : Value → Shared → Prop), Room n A → St P X B env Γ O s →
    (∀ oc f h' tk, R oc → oc.Ok P X B env f { s with heap := h', toks := tk } → Q f { s with heap := h', toks := tk }) → wpAny (model P.prog P.w) A (execs ss env) Q E s

/-- an expression's value in a frame -/
abbrev Es (P : Cx) (n : Nat) (X : XS) (B : Heap) (env : Env) (Γ : Gam) (O : Own) (e : Expr) (d : D) : Prop :=
  ∀ s, St P X B env Γ O s → Ev P n (Mut X env O) env s.heap e d
abbrev Ts (P : Cx) (n : Nat) (X : XS) (B : Heap) (env : Env) (Γ : Gam) (O : Own) (e : Expr) (b : Bool) : Prop :=
  ∀ s, St P X B env Γ O s → Tt P n (Mut X env O) env s.heap e b

section
variable {P : Cx} {n : Nat} {X : XS} {B : Heap} {env : Env} {Γ Γ' : Gam} {O O' : Own} {s : Shared} {R R₁ : Oc → Prop} {rest body orelse : List Stmt} {e : Expr} {pos : Pos} {d : D}

theorem Es.run (x : Es P n X B env Γ O e d) (st : St P X B env Γ O s) {A : Around} {Q E : Value → Shared → Prop} (rm : Room n A)
    (ret : ∀ v h' tk, Sub s.heap h' → St P X B env Γ O { s with heap := h', toks := tk } → Rd P (Mut X env O) h' d v → Q v { s with heap := h', toks := tk }) :
    wpAny (model P.prog P.w) A (eval e env) Q E s :=
  wpAny_with_toks (Nat.le_refl _) (x s st A s _ _ rm st.at fun v h' tk k r t => ret v h' tk k (st.keep k (Nat.zero_le _)) r)
theorem Ts.run {b : Bool} (x : Ts P n X B env Γ O e b) (st : St P X B env Γ O s) {A : Around} {Q : Bool → Shared → Prop} {E : Value → Shared → Prop} (rm : Room n A)
    (ret : ∀ h' tk, Sub s.heap h' → St P X B env Γ O { s with heap := h', toks := tk } → Q b { s with heap := h', toks := tk }) :
    wpAny (model P.prog P.w) A (isTrue e env (eval e env)) Q E s :=
  wpAny_with_toks (Nat.le_refl _) (x s st A s _ _ rm st.at fun h' tk k t => ret h' tk k (st.keep k (Nat.zero_le _)))

theorem tr_nil (h : R (.next Γ O)) : Tr P n X B env Γ O [] R := fun A s Q E rm st ret =>
  wpAny_execs_nil (ret (.next Γ O) .next s.heap s.toks h ⟨rfl, st⟩)

theorem tr_step (st' : ∀ s, St P X B env Γ O s → St P X B env Γ' O' s) (x : Tr P n X B env Γ' O' rest R) : Tr P n X B env Γ O rest R :=
  fun A s Q E rm st ret => x A s Q E rm (st' s st) ret
theorem tr_less (k : ∀ x d, Γ'.lookup x = some d → Γ.lookup x = some d) (x : Tr P n X B env Γ' O rest R) : Tr P n X B env Γ O rest R := tr_step (fun _ st => st.less k) x
theorem tr_mono (k : ∀ oc, R₁ oc → R oc) (x : Tr P n X B env Γ O rest R₁) : Tr P n X B env Γ O rest R :=
  fun A s Q E rm st ret => x A s Q E rm st fun oc f h' tk r ok => ret oc f h' tk (k oc r) ok

theorem tr_ret (hx : Es P n X B env Γ O e d) (h : R (.ret d)) : Tr P n X B env Γ O (.Return (some e) pos :: rest) R := fun A s Q E rm st ret =>
  wpAny_execs_cons (wpAny_Return_some (hx.run st rm fun v h' tk k st' r => ret (.ret d) _ h' tk h ⟨v, rfl, st'.sub, r.weak fun a y => .inl y⟩))
theorem tr_brk (h : R (.brk Γ O)) : Tr P n X B env Γ O (.Break pos :: rest) R := fun A s Q E rm st ret =>
  wpAny_execs_cons (wpAny_Break (ret (.brk Γ O) .brk s.heap s.toks h ⟨rfl, st⟩))

theorem tr_set {x : Str} {p : Pos} (hx : Es P n X B env Γ O e d) (hf : env.scope.kind = .function) (hk : env.kindOf x = some .local ∨ env.kindOf x = some .cell ∧ ∃ c, env.cells.lookup x = some c)
    (next : Tr P n X B env ((x, d) :: Γ) O rest R) (hs : swapsWith e (some (.Name x p)) pos.line env = pure false := by kernel_rfl) : Tr P n X B env Γ O (.Assign [.Name x p] e pos :: rest) R :=
  fun A s Q E rm st ret => by
  refine wpAny_execs_cons (wpAny_Assign_Name (hx.run st rm fun v h' tk k st' r => st'.store hf hk r fun h'' tk' st'' _ => ?_) hs)
  exact next A _ Q E rm st'' ret

theorem tr_if {b : Bool} (ht : Ts P n X B env Γ O e b) (y : b = true → Tr P n X B env Γ O body R₁) (z : b = false → Tr P n X B env Γ O orelse R₁)
    (next : ∀ Γ' O', R₁ (.next Γ' O') → Tr P n X B env Γ' O' rest R) (hb : ∀ Γ' O', R₁ (.brk Γ' O') → R (.brk Γ' O')) (hr : ∀ d, R₁ (.ret d) → R (.ret d)) :
    Tr P n X B env Γ O (.If e body orelse pos :: rest) R := fun A s Q E rm st ret => by
  refine wpAny_execs_cons (wpAny_If (ht.run st rm fun h' tk k st' => ?_))
  have fin : ∀ oc f h'' tk', R₁ oc → oc.Ok P X B env f { s with heap := h'', toks := tk' } → (match f with | .next => wpAny (model P.prog P.w) A (execs rest env) Q E { s with heap := h'', toks := tk' } | f => Q f { s with heap := h'', toks := tk' }) := fun oc f h'' tk' r ok => by
    cases oc with
    | next Γ' O' => obtain ⟨rfl, st''⟩ := ok; exact next Γ' O' r A _ Q E rm st'' ret
    | brk Γ' O' => obtain ⟨rfl, st''⟩ := ok; exact ret (.brk Γ' O') _ _ _ (hb _ _ r) ⟨rfl, st''⟩
    | ret d => obtain ⟨v, rfl, k1, k2⟩ := ok; exact ret (.ret d) _ _ _ (hr _ r) ⟨v, rfl, k1, k2⟩
  cases b with
  | true => exact y rfl A _ _ E rm st' fun oc f h'' tk' r ok => fin oc f h'' tk' r ok
  | false => exact z rfl A _ _ E rm st' fun oc f h'' tk' r ok => fin oc f h'' tk' r ok
end
end
section
section
variable {P : Cx} {n : Nat} {X : XS} {B : Heap} {env : Env} {Γ Γ' : Gam} {O O' : Own} {s : Shared} {R R₁ : Oc → Prop} {rest body orelse : List Stmt} {e : Expr} {pos : Pos} {d : D}

/-- the places that a frame may write -/
noncomputable def places (env : Env) (O : Own) : List Addr := env.locals :: (env.cells.map (·.2) ++ O.map (·.1))
theorem places_mut {a : Addr} (h : Mut X env O a) : X a ∨ a ∈ places env O := by
  rcases h with h | h | ⟨x, h⟩ | ⟨d, h⟩
  · exact .inl h
  · exact .inr (h ▸ .head _)
  · exact .inr (.tail _ (List.mem_append_left _ (List.mem_map.mpr ⟨(x, a), mem_of_lookup h, rfl⟩)))
  · exact .inr (.tail _ (List.mem_append_right _ (List.mem_map.mpr ⟨(a, d), h, rfl⟩)))

/-- the same, over a larger part that stays: all but the frame's own places and those of a list -/
theorem St.rebase (st : St P X B env Γ O s) (l : List Addr) (hl : ∀ a ∈ l, B.get? a = none) (hc : ∀ a ∈ places env O, B.get? a = none) :
    St P X (hideAll s.heap (places env O ++ l)) env Γ O s ∧ Sub B (hideAll s.heap (places env O ++ l)) ∧ ∀ a o, s.heap.get? a = some o → a ∉ places env O ++ l → (hideAll s.heap (places env O ++ l)).get? a = some o := by
  have kb : Sub B (hideAll s.heap (places env O ++ l)) := fun b o e => hideAll_get _ (st.sub _ _ e) fun hm => by
    rcases List.mem_append.mp hm with h | h
    · rw [hc b h] at e; cases e
    · rw [hl b h] at e; cases e
  refine ⟨⟨st.W.trans kb, fun a y => let ⟨o, ho⟩ := st.x0 a y; ⟨o, kb _ _ ho⟩, st.tp, fun b o e => of_hideAll _ e, hideAll_none _ (.head _), fun x c e => hideAll_none _ ?_, st.fr, fun a e hm => ?_, st.apart⟩, kb, fun a o e na => hideAll_get _ e na⟩
  · exact List.mem_append_left _ (.tail _ (List.mem_append_left _ (List.mem_map.mpr ⟨(x, c), mem_of_lookup e, rfl⟩)))
  · obtain ⟨h1, h2, h3, h4⟩ := st.own a e hm
    exact ⟨hideAll_none _ (List.mem_append_left _ (.tail _ (List.mem_append_right _ (List.mem_map.mpr ⟨(a, e), hm, rfl⟩)))), h2, h3, h4⟩
/-- the cells' list: no name twice -/
noncomputable def CellsOnce (env : Env) : Prop := ∀ x c, (x, c) ∈ env.cells → env.cells.lookup x = some c
theorem St.hc (st : St P X B env Γ O s) (once : CellsOnce env) : ∀ a ∈ places env O, B.get? a = none := fun a h => by
  rcases List.mem_cons.mp h with rfl | h
  · exact st.nl
  · rcases List.mem_append.mp h with h | h
    · obtain ⟨⟨x, c⟩, hm, rfl⟩ := List.mem_map.mp h
      exact st.nc x c (once x c hm)
    · obtain ⟨⟨b, e⟩, hm, rfl⟩ := List.mem_map.mp h
      exact (st.own b e hm).1
/-- back to the smaller part -/
theorem St.base {B' : Heap} (st : St P X B' env Γ O s) (k : Sub B B') (w : Sub P.W B) (x0 : ∀ a, X a → ∃ o, B.get? a = some o) : St P X B env Γ O s := by
  have none_of : ∀ {a : Addr}, B'.get? a = none → B.get? a = none := fun {a} e => by
    cases q : B.get? a with
    | none => rfl
    | some o => rw [k _ _ q] at e; cases e
  exact ⟨w, x0, st.tp, k.trans st.sub, none_of st.nl, fun x c e => none_of (st.nc x c e), st.fr, fun a e hm => let ⟨h1, h2⟩ := st.own a e hm; ⟨none_of h1, h2⟩, st.apart⟩
theorem Oc.Ok.base {B' : Heap} {oc : Oc} {f : Flow} (ok : oc.Ok P X B' env f s) (k : Sub B B') (w : Sub P.W B) (x0 : ∀ a, X a → ∃ o, B.get? a = some o) : oc.Ok P X B env f s := by
  cases oc with
  | next Γ O => exact ⟨ok.1, ok.2.base k w x0⟩
  | brk Γ O => exact ⟨ok.1, ok.2.base k w x0⟩
  | ret d => obtain ⟨v, h1, h2, h3⟩ := ok; exact ⟨v, h1, k.trans h2, h3⟩

theorem tr_aug {x : Str} {p : Pos} {a b : Int} (hv : Γ.lookup x = some (.int a)) (hx : Es P n X B env Γ O e (.int b)) (hf : env.scope.kind = .function) (hk : env.kindOf x = some .local ∨ env.kindOf x = some .cell ∧ ∃ c, env.cells.lookup x = some c)
    (F : Fe env) (next : Tr P n X B env ((x, .int (a + b)) :: Γ) O rest R) : Tr P n X B env Γ O (.AugAssign (.Name x p) .Add e pos :: rest) R := fun A s Q E rm st ret => by
  obtain ⟨v, hn, t, rfl⟩ := st.vr hv
  refine wpAny_execs_cons (wpAny_AugAssign_Name (load_of F hn (hx.run st rm fun w h' tk k st' r => ?_)))
  obtain ⟨u, rfl⟩ := r
  refine iadd_int (St.store (d := .int (a + b)) (st'.keep (tk := tk + 1) Sub.refl (Nat.zero_le _)) hf hk ⟨_, rfl⟩ fun h'' tk' st'' _ => ?_)
  exact next A _ Q E rm st'' ret

theorem tr_assert {msg : Option Expr} (ht : Ts P n X B env Γ O e true) (next : Tr P n X B env Γ O rest R) : Tr P n X B env Γ O (.Assert e msg pos :: rest) R := fun A s Q E rm st ret =>
  wpAny_execs_cons (wpAny_Assert_holds (ht.run st rm fun h' tk k st' => ⟨rfl, next A _ Q E rm st' ret⟩))

/-- what follows a part of the statements -/
theorem fin_of {A : Around} {Q : Flow → Shared → Prop} {E : Value → Shared → Prop} (rm : Room n A) (next : ∀ Γ' O', R₁ (.next Γ' O') → Tr P n X B env Γ' O' rest R) (hb : ∀ Γ' O', R₁ (.brk Γ' O') → R (.brk Γ' O')) (hr : ∀ d, R₁ (.ret d) → R (.ret d))
    (ret : ∀ oc f h' tk, R oc → oc.Ok P X B env f { s with heap := h', toks := tk } → Q f { s with heap := h', toks := tk }) :
    ∀ oc f h' tk, R₁ oc → oc.Ok P X B env f { s with heap := h', toks := tk } → (match f with | .next => wpAny (model P.prog P.w) A (execs rest env) Q E { s with heap := h', toks := tk } | f => Q f { s with heap := h', toks := tk }) := fun oc f h'' tk' r ok => by
  cases oc with
  | next Γ' O' => obtain ⟨rfl, st''⟩ := ok; exact next Γ' O' r A _ Q E rm st'' ret
  | brk Γ' O' => obtain ⟨rfl, st''⟩ := ok; exact ret (.brk Γ' O') _ _ _ (hb _ _ r) ⟨rfl, st''⟩
  | ret d => obtain ⟨v, rfl, k1, k2⟩ := ok; exact ret (.ret d) _ _ _ (hr _ r) ⟨v, rfl, k1, k2⟩

theorem tr_while (I : Nat → Gam → Own → Prop) (k₀ : Nat) (h0 : I k₀ Γ O)
    (turn : ∀ k Γ₁ O₁, I k Γ₁ O₁ → ∃ b, Ts P n X B env Γ₁ O₁ e b ∧
      (b = true → Tr P n X B env Γ₁ O₁ body fun oc => match oc with | .next Γ' O' => ∃ k', k' < k ∧ I k' Γ' O' | .brk Γ' O' => R₁ (.next Γ' O') | .ret d => R₁ (.ret d)) ∧ (b = false → R₁ (.next Γ₁ O₁)))
    (next : ∀ Γ' O', R₁ (.next Γ' O') → Tr P n X B env Γ' O' rest R) (hb : ∀ Γ' O', R₁ (.brk Γ' O') → R (.brk Γ' O')) (hr : ∀ d, R₁ (.ret d) → R (.ret d)) :
    Tr P n X B env Γ O (.While e body [] pos :: rest) R := fun A s Q E rm st ret => by
  have fin := fin_of (A := A) (Q := Q) (E := E) rm next hb hr ret
  refine wpAny_execs_cons (wpAny_While (codeAny_whileLoop (fun k s' => ∃ h' tk Γ₁ O₁, s' = { s with heap := h', toks := tk } ∧ I k Γ₁ O₁ ∧ St P X B env Γ₁ O₁ s') ?_ k₀ ⟨s.heap, s.toks, Γ, O, rfl, h0, st⟩))
  rintro k s' ⟨h₁, tk₁, Γ₁, O₁, rfl, hI, st₁⟩
  obtain ⟨b, ht, hy, hz⟩ := turn k Γ₁ O₁ hI
  refine ht.run st₁ rm fun h₂ tk₂ k₂ st₂ => ?_
  cases b with
  | false => exact wpAny_execs_nil (fin (.next Γ₁ O₁) .next _ _ (hz rfl) ⟨rfl, st₂⟩)
  | true =>
    refine (hy rfl) A _ _ _ rm st₂ fun oc f h₃ tk₃ r ok => ?_
    cases oc with
    | next Γ' O' => obtain ⟨rfl, st₃⟩ := ok; obtain ⟨k', hk', hI'⟩ := r; exact ⟨k', hk', h₃, tk₃, Γ', O', rfl, hI', st₃⟩
    | brk Γ' O' => obtain ⟨rfl, st₃⟩ := ok; exact fin (.next Γ' O') .next _ _ r ⟨rfl, st₃⟩
    | ret d => obtain ⟨v, rfl, k1, k2⟩ := ok; exact fin (.ret d) (.ret v) _ _ r ⟨v, rfl, k1, k2⟩

theorem mut_places (once : CellsOnce env) {a : Addr} (h : X a ∨ a ∈ places env O) : Mut X env O a := by
  rcases h with h | h
  · exact .inl h
  · rcases List.mem_cons.mp h with h | h
    · exact .inr (.inl h)
    · rcases List.mem_append.mp h with h | h
      · obtain ⟨⟨x, c⟩, hm, rfl⟩ := List.mem_map.mp h
        exact .inr (.inr (.inl ⟨x, once x c hm⟩))
      · obtain ⟨⟨b, q⟩, hm, rfl⟩ := List.mem_map.mp h
        exact .inr (.inr (.inr ⟨q, hm⟩))
theorem mut_mono {X' : XS} (k : ∀ a, X a → X' a) {a : Addr} (h : Mut X env O a) : Mut X' env O a := h.elim (fun y => .inl (k a y)) .inr
theorem St.less_x {X' : XS} (st : St P X' B env Γ O s) (k : ∀ a, X a → X' a) : St P X B env Γ O s := by
  refine ⟨st.W, fun a y => st.x0 a (k a y), st.tp, st.sub, st.nl, st.nc, ?_, fun a e hm => ?_, st.apart⟩
  · obtain ⟨m, cm, F, C, V⟩ := st.fr
    exact ⟨m, cm, F, C, fun x d e => let ⟨v, hv, r⟩ := V x d e; ⟨v, hv, r.weak fun a y => mut_mono k y⟩⟩
  · obtain ⟨h1, h2, h3, h4⟩ := st.own a e hm
    exact ⟨h1, h2, h3, h4.mono (fun b o nb q => ⟨fun y => nb (mut_mono k y), q⟩) fun o q => q⟩
theorem places_get (st : St P X B env Γ O s) (once : CellsOnce env) {a : Addr} (h : a ∈ places env O) : ∃ o, s.heap.get? a = some o := st.mut a (mut_places once (.inr h))

/-- things outside are changed: those of wr alone, which no value reads -/
theorem St.turned {wr : List Addr} (st : St P (fun a => X a ∨ a ∈ wr) B env Γ O s) (once : CellsOnce env) {h₂ : Heap} {tk : Nat} (t : s.toks ≤ tk) (k : ∀ b o, b ∉ wr → s.heap.get? b = some o → h₂.get? b = some o)
    (hw : ∀ b ∈ wr, ∃ o, h₂.get? b = some o) (np : ∀ b ∈ wr, b ∉ places env O) (x0 : ∀ a, X a → a ∉ wr) (W : ∀ b o, P.W.get? b = some o → b ∉ wr) :
    St P (fun a => X a ∨ a ∈ wr) (hideAll h₂ (places env O)) env Γ O { s with heap := h₂, toks := tk } := by
  have kk : ∀ b o, ¬ Mut (fun a => X a ∨ a ∈ wr) env O b → s.heap.get? b = some o → ¬ Mut (fun a => X a ∨ a ∈ wr) env O b ∧ h₂.get? b = some o := fun b o nb e => ⟨nb, k b o (fun hm => nb (.inl (.inr hm))) e⟩
  have nB : ∀ {b o}, B.get? b = some o → b ∉ places env O := fun {b o} e hm => by rw [st.hc once b hm] at e; cases e
  refine ⟨fun b o e => hideAll_get _ (k _ _ (W b o e) (st.sub _ _ (st.W _ _ e))) (nB (st.W _ _ e)), fun a y => ?_, Nat.zero_le _, fun b o e => of_hideAll _ e, hideAll_none _ (.head _), fun x c e => hideAll_none _ ?_, ?_, fun a e hm => ?_, st.apart⟩
  · rcases y with y | y
    · obtain ⟨o, ho⟩ := st.x0 a (.inl y); exact ⟨o, hideAll_get _ (k _ _ (x0 a y) (st.sub _ _ ho)) (nB ho)⟩
    · obtain ⟨o, ho⟩ := hw a y; exact ⟨o, hideAll_get _ ho (np a y)⟩
  · exact .tail _ (List.mem_append_left _ (List.mem_map.mpr ⟨(x, c), mem_of_lookup e, rfl⟩))
  · obtain ⟨m, cm, F, C, V⟩ := st.fr
    have nw : ∀ {b}, b ∈ places env O → b ∉ wr := fun {b} hb hm => np b hm hb
    refine ⟨m, cm, F.at' fun o e => k _ _ (nw (.head _)) e, ⟨fun x c e => ?_, C.apart, C.above⟩, fun x d e => let ⟨v, hv, r⟩ := V x d e; ⟨v, hv, r.mono kk⟩⟩
    obtain ⟨o, ho, hd⟩ := C.cell x c e
    exact ⟨o, k _ _ (nw (.tail _ (List.mem_append_left _ (List.mem_map.mpr ⟨(x, c), mem_of_lookup e, rfl⟩)))) ho, hd⟩
  · obtain ⟨h1, h2, h3, h4⟩ := st.own a e hm
    have hp : a ∈ places env O := .tail _ (List.mem_append_right _ (List.mem_map.mpr ⟨(a, e), hm, rfl⟩))
    exact ⟨hideAll_none _ hp, h2, h3, h4.mono kk fun o q => k _ _ (fun hm => np a hm hp) q⟩

theorem St.ended {B₁ : Heap} {wr : List Addr} (st : St P (fun a => X a ∨ a ∈ wr) B₁ env Γ O s) (once : CellsOnce env) {h₂ : Heap} {tk : Nat} (t : s.toks ≤ tk) (k : ∀ b o, b ∉ wr → s.heap.get? b = some o → h₂.get? b = some o)
    (np : ∀ b ∈ wr, b ∉ places env O) (kb : Sub B B₁) (bw : ∀ b o, B.get? b = some o → b ∉ wr) (W : Sub P.W B) (x0 : ∀ a, X a → ∃ o, B.get? a = some o) :
    St P X B env Γ O { s with heap := h₂, toks := tk } := by
  have kk : ∀ b o, ¬ Mut (fun a => X a ∨ a ∈ wr) env O b → s.heap.get? b = some o → ¬ Mut X env O b ∧ h₂.get? b = some o := fun b o nb e =>
    ⟨fun y => nb (mut_mono (fun a y => .inl y) y), k b o (fun hm => nb (.inl (.inr hm))) e⟩
  have none_of : ∀ {a : Addr}, B₁.get? a = none → B.get? a = none := fun {a} e => by
    cases q : B.get? a with
    | none => rfl
    | some o => rw [kb _ _ q] at e; cases e
  have nw : ∀ {b}, b ∈ places env O → b ∉ wr := fun {b} hb hm => np b hm hb
  refine ⟨W, x0, Nat.zero_le _, fun b o e => k _ _ (bw b o e) (st.sub _ _ (kb _ _ e)), none_of st.nl, fun x c e => none_of (st.nc x c e), ?_, fun a e hm => ?_, st.apart⟩
  · obtain ⟨m, cm, F, C, V⟩ := st.fr
    refine ⟨m, cm, F.at' fun o e => k _ _ (nw (.head _)) e, ⟨fun x c e => ?_, C.apart, C.above⟩, fun x d e => let ⟨v, hv, r⟩ := V x d e; ⟨v, hv, r.mono kk⟩⟩
    obtain ⟨o, ho, hd⟩ := C.cell x c e
    exact ⟨o, k _ _ (nw (.tail _ (List.mem_append_left _ (List.mem_map.mpr ⟨(x, c), mem_of_lookup e, rfl⟩)))) ho, hd⟩
  · obtain ⟨h1, h2, h3, h4⟩ := st.own a e hm
    have hp : a ∈ places env O := .tail _ (List.mem_append_right _ (List.mem_map.mpr ⟨(a, e), hm, rfl⟩))
    exact ⟨none_of h1, h2, h3, h4.mono kk fun o q => k _ _ (fun hm => np a hm hp) q⟩

/-- a for over data that is known: its items one by one -/
theorem tr_for {x : Str} {px : Pos} {ds : List D} (I : Nat → Gam → Own → Prop) (once : CellsOnce env) (hsrc : ∀ s, St P X B env Γ O s → Src P n (Mut X env O) env s.heap e ds) (h0 : I 0 Γ O)
    (hf : env.scope.kind = .function) (hk : env.kindOf x = some .local ∨ env.kindOf x = some .cell ∧ ∃ c, env.cells.lookup x = some c)
    (turn : ∀ i d Γ₁ O₁, ds[i]? = some d → I i Γ₁ O₁ → ∀ X' B', Tr P n X' B' env ((x, d) :: Γ₁) O₁ body fun oc => match oc with | .next Γ' O' => I (i + 1) Γ' O' | .brk Γ' O' => R₁ (.next Γ' O') | .ret d => R₁ (.ret d))
    (done : ∀ Γ₁ O₁, I ds.length Γ₁ O₁ → Tr P n X B env Γ₁ O₁ orelse R₁)
    (next : ∀ Γ' O', R₁ (.next Γ' O') → Tr P n X B env Γ' O' rest R) (hb : ∀ Γ' O', R₁ (.brk Γ' O') → R (.brk Γ' O')) (hr : ∀ d, R₁ (.ret d) → R (.ret d))
    (hs : ∀ x, foldedSetIterable e env x = pure x := by intro _; kernel_rfl) :
    Tr P n X B env Γ O (.For (.Name x px) e body orelse pos :: rest) R := fun A s Q E rm st ret => by
  have fin := fin_of (A := A) (Q := Q) (E := E) rm next hb hr ret
  refine wpAny_execs_cons (wpAny_For (hsrc s st A s _ E rm st.at fun J fp wr Pv St₀ h₀ tk₀ k₀ a₀ W hst hit hfp hwr hex => ?_) hs)
  have hz : s.toks ≤ s.toks := Nat.le_refl _
  have bw : ∀ a ∈ wr, B.get? a = none := fun a ha => by
    cases q : B.get? a with
    | none => rfl
    | some o => have := hwr a ha; rw [st.sub _ _ q] at this; cases this
  have wX : ∀ b o, P.W.get? b = some o → b ∉ wr := fun b o e hm => by have := st.W _ _ e; rw [bw b hm] at this; cases this
  have xX : ∀ a, X a → a ∉ wr := fun a y hm => by obtain ⟨o, ho⟩ := st.x0 a y; rw [bw a hm] at ho; cases ho
  have npw : ∀ b ∈ fp, b ∉ places env O := fun b hb hm => (hfp b hb).2 (mut_places once (.inr hm))
  have wfp := (W A rm.1).sub
  -- the start, over all that stands
  have st₀ : St P (fun a => X a ∨ a ∈ wr) (hideAll h₀ (places env O)) env Γ O { s with heap := h₀, toks := tk₀ } := by
    have kk : ∀ b o, ¬ Mut X env O b → s.heap.get? b = some o → ¬ Mut (fun a => X a ∨ a ∈ wr) env O b ∧ h₀.get? b = some o := fun b o nb e =>
      ⟨fun y => by
        rcases y with (y | y) | y
        · exact nb (.inl y)
        · rw [hwr b y] at e; cases e
        · exact nb (.inr y), k₀ _ _ e⟩
    have nB : ∀ {b o}, B.get? b = some o → b ∉ places env O := fun {b o} e hm => by rw [st.hc once b hm] at e; cases e
    refine ⟨fun b o e => hideAll_get _ (k₀ _ _ (st.kW _ _ e)) (nB (st.W _ _ e)), fun a y => ?_, a₀.tp, fun b o e => of_hideAll _ e, hideAll_none _ (.head _), fun x c e => hideAll_none _ ?_, ?_, fun a e hm => ?_, st.apart⟩
    · rcases y with y | y
      · obtain ⟨o, ho⟩ := st.x0 a y; exact ⟨o, hideAll_get _ (k₀ _ _ (st.sub _ _ ho)) (nB ho)⟩
      · obtain ⟨o, ho⟩ := (hfp a (wfp a y)).1; exact ⟨o, hideAll_get _ ho (npw a (wfp a y))⟩
    · exact .tail _ (List.mem_append_left _ (List.mem_map.mpr ⟨(x, c), mem_of_lookup e, rfl⟩))
    · obtain ⟨m, cm, F, C, V⟩ := st.fr
      exact ⟨m, cm, F.keeps k₀, C.keeps k₀, fun x d e => let ⟨v, hv, r⟩ := V x d e; ⟨v, hv, r.mono kk⟩⟩
    · obtain ⟨h1, h2, h3, h4⟩ := st.own a e hm
      exact ⟨hideAll_none _ (.tail _ (List.mem_append_right _ (List.mem_map.mpr ⟨(a, e), hm, rfl⟩))), h2, h3, h4.mono kk fun o q => k₀ _ _ q⟩
  -- what stays all along
  let B₀ : Heap := hideAll h₀ (places env O ++ wr)
  have b0 : ∀ {b o}, B₀.get? b = some o → h₀.get? b = some o ∧ b ∉ places env O ∧ b ∉ wr := fun {b o} e =>
    ⟨of_hideAll _ e, (fun hm => by rw [show B₀.get? b = none from hideAll_none _ (List.mem_append_left _ hm)] at e; cases e), (fun hm => by rw [show B₀.get? b = none from hideAll_none _ (List.mem_append_right _ hm)] at e; cases e)⟩
  have bB : Sub B B₀ := fun b o e => hideAll_get _ (k₀ _ _ (st.sub _ _ e)) fun hm => by
    rcases List.mem_append.mp hm with hm | hm
    · have q := st.hc once b hm; rw [q] at e; cases e
    · have q := bw b hm; rw [q] at e; cases e
  have item : ∀ {i v Γ₁ O₁ B₁} {s₁ : Shared}, Pv i v → St P (fun a => X a ∨ a ∈ wr) B₁ env Γ₁ O₁ s₁ → Sub B₀ B₁ → ∃ d, ds[i]? = some d ∧ Rd P (Mut (fun a => X a ∨ a ∈ wr) env O₁) s₁.heap d v := fun {i v Γ₁ O₁ B₁ s₁} hv st₁ kb => by
    obtain ⟨d, hd, hr⟩ := hit i v hv
    refine ⟨d, hd, hr.mono fun a o na e => ?_⟩
    have hp : a ∉ places env O := fun hm => na (.inl (mut_places once (.inr hm)))
    have hw : a ∉ wr := fun hm => na (.inr hm)
    have gB : B₀.get? a = some o := hideAll_get _ e (fun hm => (List.mem_append.mp hm).elim hp hw)
    refine ⟨fun y => ?_, st₁.sub _ _ (kb _ _ gB)⟩
    rcases places_mut y with (y | y) | y
    · exact na (.inl (.inl y))
    · exact hw y
    · have := kb _ _ gB; rw [st₁.hc once a y] at this; cases this
  refine codeAny_forLoop_any (fun k s' => ∃ h' tk Γ₁ O₁ B₁ i, s' = { s with heap := h', toks := tk } ∧ I i Γ₁ O₁ ∧ St P (fun a => X a ∨ a ∈ wr) B₁ env Γ₁ O₁ s' ∧ Sub B₀ B₁ ∧ St₀ i h' ∧ (∀ b ∈ fp, ∃ o, B₁.get? b = some o) ∧ i ≤ ds.length ∧ k = ds.length + 1 - i) ?_ (ds.length + 1)
    ⟨h₀, tk₀, Γ, O, _, 0, rfl, h0, st₀, fun b o e => hideAll_get _ (b0 e).1 (b0 e).2.1, hst, fun b hb => let ⟨o, ho⟩ := (hfp b hb).1; ⟨o, hideAll_get _ ho (npw b hb)⟩, Nat.zero_le _, rfl⟩
  rintro k s' ⟨h₁, tk₁, Γ₁, O₁, B₁, i, rfl, hI, st₁, kb, hsti, hfB, hi, rfl⟩
  have np₁ : ∀ b ∈ fp, b ∉ places env O₁ := fun b hb hm => by obtain ⟨o, ho⟩ := hfB b hb; rw [st₁.hc once b hm] at ho; cases ho
  have hexA : ∀ {h₂ : Heap}, (∀ b o, b ∉ wr → h₁.get? b = some o → h₂.get? b = some o) → (∀ b ∈ wr, ∃ o, h₂.get? b = some o) → ∀ b ∈ fp, ∃ o, h₂.get? b = some o := fun {h₂} hk hw b hb => by
    by_cases hm : b ∈ wr
    · exact hw b hm
    · obtain ⟨o, ho⟩ := hfB b hb; exact ⟨o, hk _ _ hm (st₁.sub _ _ ho)⟩
  have kb₂ : ∀ {h₂ : Heap}, (∀ b o, b ∉ wr → h₁.get? b = some o → h₂.get? b = some o) → Sub B₀ (hideAll h₂ (places env O₁)) := fun {h₂} hk b o e =>
    hideAll_get _ (hk _ _ (b0 e).2.2 (st₁.sub _ _ (kb _ _ e))) fun hm => by have := kb _ _ e; rw [st₁.hc once b hm] at this; cases this
  by_cases hlt : i < ds.length
  · refine wpAny_with_toks (Nat.le_refl _) ((W A rm.1).item i _ _ _ hlt hsti fun v h₂ tk₂ hP hst₂ hk₂ ht₂ => ?_)
    have hw₂ := hex (i + 1) h₂ hst₂
    have st₂ := st₁.turned once ht₂ hk₂ hw₂ (fun b hb => np₁ b (wfp b hb)) xX wX
    obtain ⟨d, hd, hr⟩ := item hP st₂ (kb₂ hk₂)
    refine wpAny_of_eq (a := ()) rfl ?_
    refine wpAny_assign_Name (st₂.store hf hk hr fun h₃ tk₃ st₃ _ => ?_)
    refine turn i d Γ₁ O₁ hd hI _ _ A _ _ _ rm st₃ fun oc f h₄ tk₄ r ok => ?_
    cases oc with
    | next Γ' O' =>
      obtain ⟨rfl, st₄⟩ := ok
      refine ⟨ds.length + 1 - (i + 1), by omega, h₄, tk₄, Γ', O', _, i + 1, rfl, r, st₄, kb₂ hk₂, ?_, fun b hb => ?_, hlt, rfl⟩
      · refine (W A rm.1).frame _ _ _ hst₂ fun b hb o e => ?_
        exact st₄.sub _ _ (hideAll_get _ e (np₁ b hb))
      · obtain ⟨o, ho⟩ := hexA hk₂ hw₂ b hb
        exact ⟨o, hideAll_get _ ho (np₁ b hb)⟩
    | brk Γ' O' =>
      obtain ⟨rfl, st₄⟩ := ok
      exact fin (.next Γ' O') .next _ _ r ⟨rfl, (st₄.less_x fun a y => .inl y).base (bB.trans (kb₂ hk₂)) st.W st.x0⟩
    | ret d => obtain ⟨v, rfl, k1, k2⟩ := ok; exact fin (.ret d) (.ret v) _ _ r ⟨v, rfl, (bB.trans (kb₂ hk₂)).trans k1, k2.weak fun a y => .inl y⟩
  · have hin : i = ds.length := by omega
    subst hin
    refine wpAny_with_toks (Nat.le_refl _) ((W A rm.1).done _ _ _ hsti fun h₂ tk₂ hk₂ ht₂ => ?_)
    exact done Γ₁ O₁ hI A _ _ _ rm (st₁.ended once ht₂ hk₂ (fun b hb => np₁ b (wfp b hb)) (fun b o e => kb _ _ (bB _ _ e)) (fun b o e hm => by rw [bw b hm] at e; cases e) st.W st.x0) fin
end
end
section
section
variable {P : Cx} {n : Nat} {X : XS} {B : Heap} {env : Env} {Γ Γ' : Gam} {O O' : Own} {s : Shared} {R R₁ : Oc → Prop} {rest body orelse : List Stmt} {e : Expr} {pos : Pos} {d : D}

/-- places to store to: one name each -/
inductive Stor (env : Env) : List (Value → Sem Unit) → Gam → Prop
  | nil : Stor env [] []
  | cons {f : Value → Sem Unit} {fs : List (Value → Sem Unit)} {x : Str} {d : D} {ps : Gam} :
    (∀ (M : Model) (A : Around) (v : Value) (Q : Unit → Shared → Prop) (E : Value → Shared → Prop) (s : Shared), wpAny M A (storeName env x v) Q E s → wpAny M A (f v) Q E s) →
    (env.kindOf x = some .local ∨ env.kindOf x = some .cell ∧ ∃ c, env.cells.lookup x = some c) → Stor env fs ps → Stor env (f :: fs) ((x, d) :: ps)

theorem Stor.run (hf : env.scope.kind = .function) {fs : List (Value → Sem Unit)} {ps : Gam} (S : Stor env fs ps) : ∀ {Γ : Gam} {s : Shared} {vs : List Value} {M : Model} {A : Around} {Q : Unit → Shared → Prop} {E : Value → Shared → Prop},
    St P X B env Γ O s → Rds P (Mut X env O) s.heap (ps.map (·.2)) vs → (∀ h' tk, St P X B env (ps.reverse ++ Γ) O { s with heap := h', toks := tk } → Q () { s with heap := h', toks := tk }) →
    wpAny M A (assignInOrder fs vs) Q E s := by
  induction S with
  | nil => intro Γ s vs M A Q E st r ret; exact assignInOrder_nil (ret s.heap s.toks st)
  | @cons f fs x d ps hs hk S ih =>
    intro Γ s vs M A Q E st r ret
    obtain ⟨v, ws, rfl, h1, h2⟩ := r
    refine assignInOrder_cons (hs M A v _ _ _ (st.store hf hk h1 fun h' tk st' kr => ?_))
    have h2' : Rds P (Mut X env O) h' (ps.map (·.2)) ws := by
      revert h2
      generalize ps.map (·.2) = ds
      intro h2
      induction ds generalizing ws with
      | nil => exact h2
      | cons d ds ih2 => obtain ⟨v, r, e, a, b⟩ := h2; exact ⟨v, r, e, kr _ _ a, ih2 _ b⟩
    refine ih st' h2' fun h'' tk' st'' => ret h'' tk' ?_
    rw [List.reverse_cons, List.append_assoc]
    exact st''

theorem Rds.reverse {ds : List D} {vs : List Value} {h : Heap} (r : Rds P X h ds vs) : Rds P X h ds.reverse vs.reverse := by
  induction ds generalizing vs with
  | nil => rw [show vs = [] from r]; rfl
  | cons d ds ih =>
    obtain ⟨v, w, rfl, h1, h2⟩ := r
    rw [List.reverse_cons, List.reverse_cons]
    exact (ih h2).append ⟨v, [], rfl, h1, rfl⟩

/-- x, y = .. with the stores in order -/
theorem tr_tup {elts : List Expr} {k : Nat} {tpos : Pos} {ps : Gam} (hx : Es P n X B env Γ O e (.tup (ps.map (·.2)))) (hf : env.scope.kind = .function) (S : Stor env ((assignEach elts env).map (·.2)) ps)
    (next : Tr P n X B env (ps.reverse ++ Γ) O rest R) (hstar : (assignEach elts env).findIdx? (·.1) = none := by kernel_rfl) (hl : (assignEach elts env).length = ps.length := by kernel_rfl)
    (hs : swapsWithSole [.Tuple elts k tpos] e pos.line env = pure false := by kernel_rfl)
    (hw : swappedStores [.Tuple elts k tpos] e env = pure none := by kernel_rfl) : Tr P n X B env Γ O (.Assign [.Tuple elts k tpos] e pos :: rest) R := fun A s Q E rm st ret => by
  refine wpAny_execs_cons (Assign_Tuple (hx.run st rm fun v h' tk k st' r => ?_) hs hw)
  obtain ⟨t, vs, rfl, nx, hT, hR⟩ := r
  have hz : vs.size = ps.length := by simpa using hR.length
  refine assign_Tuple_tuple rm.1 hT (by rw [hl, hz]) hstar fun h'' he => ?_
  have k' : Sub h' h'' := fun b o e => he b o (Nat.ne_of_lt (Heap.lt_size e)) e
  refine S.run hf (st'.keep (tk := tk) k' st'.tp) (hR.sub k') fun h3 tk3 st3 => next A _ Q E rm st3 ret

/-- x, y = .. with the stores from behind -/
theorem tr_swap {elts : List Expr} {k : Nat} {tpos : Pos} {names : List Str} {ps : Gam} (hx : Es P n X B env Γ O e (.tup (ps.map (·.2)))) (hf : env.scope.kind = .function)
    (hw : swappedStores [.Tuple elts k tpos] e env = pure (some names)) (S : Stor env (names.reverse.map fun n => bindName env n) ps.reverse)
    (next : Tr P n X B env (ps ++ Γ) O rest R) (hl : names.length = ps.length := by kernel_rfl)
    (hs : swapsWithSole [.Tuple elts k tpos] e pos.line env = pure false := by kernel_rfl) : Tr P n X B env Γ O (.Assign [.Tuple elts k tpos] e pos :: rest) R := fun A s Q E rm st ret => by
  refine wpAny_execs_cons (Assign_Tuple_swapped (hx.run st rm fun v h' tk k st' r => ?_) hs hw)
  obtain ⟨t, vs, rfl, nx, hT, hR⟩ := r
  have hz : vs.size = names.length := by rw [hl]; simpa using hR.length
  rw [← hz]
  refine unpackItems_tuple rm.1 hT fun h'' he => ?_
  have k' : Sub h' h'' := fun b o e => he b o (Nat.ne_of_lt (Heap.lt_size e)) e
  refine S.run hf (st'.keep (tk := tk) k' st'.tp) (by rw [List.map_reverse]; exact (hR.sub k').reverse) fun h3 tk3 st3 => ?_
  rw [List.reverse_reverse] at st3
  exact next A _ Q E rm st3 ret

/-- a name gets a new list of the frame's own -/
theorem tr_own {x : Str} {p lpos : Pos} {es : List Expr} {ds : List D} (hx : ∀ s, St P X B env Γ O s → Evs P n (Mut X env O) env s.heap es ds) (hf : env.scope.kind = .function)
    (hk : env.kindOf x = some .local ∨ env.kindOf x = some .cell ∧ ∃ c, env.cells.lookup x = some c)
    (next : ∀ a, Tr P n X B env ((x, .val (.ref a)) :: Γ) ((a, .list ds) :: O) rest R) (he : backTo lpos (starEach es env) = es.map fun e => (false, eval e env) := by kernel_rfl) (hz : ds.length ≤ 1000000 := by decide)
    (hs : swapsWith (.List es lpos) (some (.Name x p)) pos.line env = pure false := by kernel_rfl) : Tr P n X B env Γ O (.Assign [.Name x p] (.List es lpos) pos :: rest) R := fun A s Q E rm st ret => by
  refine wpAny_execs_cons (wpAny_Assign_Name (List_ ?_) hs)
  rw [he]
  refine (hx s st).run rm st.at fun vs h' tk k a' r => ?_
  refine wpAny_newObj_type ?_ (by show vs.toArray.size ≤ sizeLine; rw [List.size_toArray, r.length, sizeLine_eq]; omega)
  have new : s.heap.get? h'.objs.size = none := one_fresh k (Nat.le_refl _)
  refine St.store (d := .val (.ref h'.objs.size)) (O := (h'.objs.size, .list ds) :: O) (Γ := Γ) (st.take (k.trans (Sub.push _)) a'.tp new ⟨vs.toArray, ⟨_, _, Heap.get?_push_size _ rfl, rfl, rfl, rfl⟩, r.mono fun b o nb e => ⟨fun y => ?_, Sub.push _ _ _ e⟩⟩) hf hk rfl
    fun h3 tk3 st3 _ => next _ A _ Q E rm st3 ret
  · rcases mut_cons y with q | y
    · rw [q] at e; exact absurd (Heap.lt_size e) (Nat.lt_irrefl _)
    · exact nb y

theorem St.flip {p q : Addr × D} (st : St P X B env Γ (p :: q :: O) s) : St P X B env Γ (q :: p :: O) s := by
  have mem : ∀ {z}, z ∈ p :: q :: O ↔ z ∈ q :: p :: O := fun {z} => by simp only [List.mem_cons]; constructor <;> (rintro (h | h | h) <;> simp [h])
  have mm : ∀ b, Mut X env (p :: q :: O) b ↔ Mut X env (q :: p :: O) b := fun b =>
    ⟨fun y => y.imp id (Or.imp id (Or.imp id fun ⟨d, h⟩ => ⟨d, mem.mp h⟩)), fun y => y.imp id (Or.imp id (Or.imp id fun ⟨d, h⟩ => ⟨d, mem.mpr h⟩))⟩
  refine ⟨st.W, st.x0, st.tp, st.sub, st.nl, st.nc, ?_, fun a e hm => ?_, ?_⟩
  · obtain ⟨m, cm, F, C, V⟩ := st.fr
    exact ⟨m, cm, F, C, fun x d e => let ⟨v, hv, r⟩ := V x d e; ⟨v, hv, r.weak fun b y => (mm b).mpr y⟩⟩
  · obtain ⟨h1, h2, h3, h4⟩ := st.own a e (mem.mpr hm)
    exact ⟨h1, h2, h3, h4.mono (fun b o nb q => ⟨fun y => nb ((mm b).mpr y), q⟩) fun o q => q⟩
  · have := st.apart
    simp only [List.map_cons, List.nodup_cons, List.mem_cons, not_or] at this ⊢
    exact ⟨⟨fun e => this.1.1 e.symm, this.2.1⟩, this.1.2, this.2.2⟩

/-- append to the first thing of the frame's own -/
theorem tr_append {o : Expr} {a : Addr} {ds : List D} {apos cpos : Pos} (ho : Es P n X B env Γ ((a, .list ds) :: O) o (.val (.ref a))) (hx : Es P n X B env Γ ((a, .list ds) :: O) e d)
    (next : Tr P n X B env Γ ((a, .list (ds ++ [d])) :: O) rest R) (hz : ds.length ≤ 1000000)
    (hi : interactive env = false := by kernel_rfl) (hs : swapsWith (.Call (.Attribute o "append" apos) [e] [] cpos) none pos.line env = pure false := by kernel_rfl)
    (hbase : attributeBase o "append" env (eval o env) = eval o env := by kernel_rfl)
    (hfew : ((backTo cpos (starEach [e] env)).all (fun x => !x.1) && (backToKw cpos (keywordEach [] env)).all (fun x => x.1.isSome)
      && decide (([e] : List Expr).length + ([] : List Keyword).length + (if ([] : List Keyword).isEmpty then 0 else 1) < 30)) = true := by kernel_rfl)
    (hline : (apos.endLine == cpos.line) = true := by kernel_rfl) (htrees : backTo cpos (starEach [e] env) = [(false, eval e env)] := by kernel_rfl) :
    Tr P n X B env Γ ((a, .list ds) :: O) (.Expr (.Call (.Attribute o "append" apos) [e] [] cpos) pos :: rest) R := fun A s Q E rm st ret => by
  refine wpAny_execs_cons (wpAny_Expr (wpAny_Call_append hbase hfew hline htrees (ho.run st rm fun v h' tk k st' r => ?_)) hi hs)
  rw [show v = .ref a from r]
  obtain ⟨_, _, _, vs, hP, hR⟩ := st'.own a _ (.head _)
  refine ⟨a, vs, rfl, hP, hx.run st' rm fun y h2 tk2 k2 st2 r2 => ?_⟩
  obtain ⟨_, _, _, vs2, hP2, hR2⟩ := st2.own a _ (.head _)
  have hz2 : vs2.size = ds.length := by simpa using hR2.length
  refine list_append_plainL hP2 (fun h3 hP3 hs3 => ?_) (by rw [hz2, sizeLine_eq]; omega)
  have st3 := st2.change (d' := .list (ds ++ [d])) (h' := h3) (tk := tk2) hs3 st2.tp ⟨vs2.push y, hP3, ?_⟩
  · exact next A _ Q E rm st3 ret
  · have kk : ∀ b o, ¬ Mut X env ((a, .list ds) :: O) b → h2.get? b = some o → ¬ Mut X env ((a, .list (ds ++ [d])) :: O) b ∧ h3.get? b = some o := fun b o nb e => by
      have nba : b ≠ a := fun q => nb (.inr (.inr (.inr ⟨.list ds, by rw [q]; exact List.Mem.head _⟩)))
      exact ⟨fun y => (mut_cons y).elim nba fun y => nb (mut_tail y), (hs3.2 b nba).trans e⟩
    rw [Array.toList_push]
    exact Rds.append (hR2.mono kk) ⟨y, [], rfl, r2.mono kk, rfl⟩

/-- data that no place bears -/
noncomputable def NoRef : D → Prop
  | .none | .bool _ | .int _ | .str _ | .val _ => True
  | _ => False
theorem NoRef.any {X X' : XS} {h h' : Heap} {d : D} {v : Value} (f : NoRef d) (r : Rd P X h d v) : Rd P X' h' d v := by
  cases d <;> first | exact r | exact f.elim
/-- an own thing lent for an expression -/
theorem es_borrow {x : Str} {a : Addr} {d' : D} (hx : Γ.lookup x = some (.val (.ref a))) (nr : NoRef d') (h : Es P n X B env ((x, d) :: Γ) O e d') : Es P n X B env Γ ((a, d) :: O) e d' :=
  fun s st A s' Q E rm at' ret => by
  obtain ⟨st0, r0⟩ := st.drop
  have st1 := st0.know (x := x) (d' := d) hx fun v r => by rw [show v = .ref a from r]; exact r0
  exact h s st1 A s' Q E rm ⟨at'.sub, fun b y => at'.xo b (mut_tail y), at'.tp⟩ fun v h' tk k r => ret v h' tk k (nr.any r)
theorem ts_borrow {x : Str} {a : Addr} {b : Bool} (hx : Γ.lookup x = some (.val (.ref a))) (h : Ts P n X B env ((x, d) :: Γ) O e b) : Ts P n X B env Γ ((a, d) :: O) e b :=
  fun s st A s' Q E rm at' ret => by
  obtain ⟨st0, r0⟩ := st.drop
  have st1 := st0.know (x := x) (d' := d) hx fun v r => by rw [show v = .ref a from r]; exact r0
  exact h s st1 A s' Q E rm ⟨at'.sub, fun b y => at'.xo b (mut_tail y), at'.tp⟩ fun h' tk k => ret h' tk k
/-- an own thing shut for good -/
theorem tr_shut {x : Str} {a : Addr} {ss : List Stmt} (hx : Γ.lookup x = some (.val (.ref a))) (h : Tr P n X B env ((x, d) :: Γ) O ss R) : Tr P n X B env Γ ((a, d) :: O) ss R :=
  tr_step (fun s st => let ⟨st0, r0⟩ := st.drop; st0.know (x := x) (d' := d) hx fun v r => by rw [show v = .ref a from r]; exact r0) h

/-- try, where nothing is raised -/
theorem tr_try {h₀ : ExceptHandler} {hs : List ExceptHandler} (h : Tr P n X B env Γ O body R₁)
    (next : ∀ Γ' O', R₁ (.next Γ' O') → Tr P n X B env Γ' O' rest R) (hb : ∀ Γ' O', R₁ (.brk Γ' O') → R (.brk Γ' O')) (hr : ∀ d, R₁ (.ret d) → R (.ret d)) :
    Tr P n X B env Γ O (.Try body (h₀ :: hs) [] [] pos :: rest) R := fun A s Q E rm st ret => by
  have fin := fin_of (A := A) (Q := Q) (E := E) rm next hb hr ret
  refine wpAny_execs_cons (wpAny_Try_except (h A s _ _ rm st fun oc f h' tk r ok => ?_))
  cases oc with
  | next Γ' O' => obtain ⟨rfl, st'⟩ := ok; exact wpAny_execs_nil (fin (.next Γ' O') .next _ _ r ⟨rfl, st'⟩)
  | brk Γ' O' => obtain ⟨rfl, st'⟩ := ok; exact fin (.brk Γ' O') .brk _ _ r ⟨rfl, st'⟩
  | ret d => obtain ⟨v, rfl, k1, k2⟩ := ok; exact fin (.ret d) (.ret v) _ _ r ⟨v, rfl, k1, k2⟩

/-- x = [.. for ..] where the comprehension's own variables go after the store -/
theorem tr_comp {x y : Str} {px py lpos : Pos} {iter elt : Expr} {ifs : List Expr} {scope : Scope} {cl : List (Str × Addr)} {ds : List D} {p : D → Bool} {f : D → D}
    (c : ∀ s, St P X B env Γ O s → Cmp P n (Mut X env O) env s.heap x iter elt ifs scope cl ds p f) (hf : env.scope.kind = .function) (hk : env.kindOf y = some .local)
    (next : Tr P n X B env ((y, .list ((ds.filter p).map f)) :: Γ) O rest R)
    (hsw : swapsWith (.ListComp elt [⟨.Name x px, iter, ifs, 0⟩] scope lpos) (some (.Name y py)) pos.line env = pure true := by kernel_rfl) :
    Tr P n X B env Γ O (.Assign [.Name y py] (.ListComp elt [⟨.Name x px, iter, ifs, 0⟩] scope lpos) pos :: rest) R := by
  intro A s Q E rm st ret
  have hcmp := c s st
  refine wpAny_execs_cons (wpAny_with_toks (Nat.le_refl _) ?_)
  refine wpAny_Assign_ListComp_free (fun v => p (toD v)) (fun v y => Rd P (Mut X env O) s.heap (f (toD v)) y) hsw hcmp.hclos hcmp.hcell hcmp.hkind hcmp.hnames hcmp.hx hk (by rw [hf]; rfl)
    (hcmp.src A s _ _ rm st.at fun I fp wr Pv St h' tk k a' W st0 hit hfp hwr hex => ?_) hcmp.hs
  obtain ⟨m, cm, F, C, V⟩ := st.fr
  have nw : ∀ {b o}, s.heap.get? b = some o → b ∉ wr := fun {b o} e hm => by rw [hwr b hm] at e; cases e
  have hL : ∃ o, s.heap.get? env.locals = some o := st.mut _ (.inr (.inl rfl))
  refine ⟨I, fp, wr, ds.length, Pv, St, m, rfl, W A rm.1, by rw [sizeLine_eq]; have := hcmp.small; omega, st0, fun b hb => let ⟨o, ho⟩ := (hfp b hb).1; Heap.lt_size ho, let ⟨o, ho⟩ := hL; nw ho, F.keeps k,
    hcmp.quiet rm st.at k a' hit hwr, fun Dd h₅ tk₅ ys vs hD hl hpl hlen hP hF hns hk₅ ht => ?_⟩
  have k₅ : ∀ b o, b ≠ env.locals → s.heap.get? b = some o → h₅.get? b = some o := fun b o nb e => hk₅ b o nb (nw e) (k _ _ e)
  have kk : ∀ b o, ¬ Mut X env O b → s.heap.get? b = some o → ¬ Mut X env O b ∧ h₅.get? b = some o := fun b o nb e => ⟨nb, k₅ b o (fun q => nb (.inr (.inl q))) e⟩
  have nD : ¬ Mut X env O Dd := fun y => by
    obtain ⟨o, ho⟩ := st.mut Dd y
    rw [show ({ s with heap := h', toks := tk } : Shared).heap.get? Dd = some o from k _ _ ho] at hD; cases hD
  have rr : Rd P (Mut X env O) h₅ (.list ((ds.filter p).map f)) (.ref Dd) := ⟨Dd, ys, rfl, nD, hl, hcmp.reads hit hlen hP hF⟩
  refine next A { s with heap := h₅, toks := tk₅ } Q E rm ⟨st.W, st.x0, Nat.zero_le _, fun b o e => k₅ b o (fun q => by rw [q, st.nl] at e; cases e) (st.sub _ _ e), st.nl, st.nc, ⟨_, cm, hns, ⟨fun x c e => ?_, C.apart, C.above⟩, fun z e q => ?_⟩, fun a e hm => ?_, st.apart⟩ ret
  · obtain ⟨o, ho, hd⟩ := C.cell x c e
    exact ⟨o, k₅ _ _ (Nat.ne_of_gt (C.above x c (mem_of_lookup e))) ho, hd⟩
  · rw [List.lookup_cons] at q
    by_cases hzy : z = y
    · subst hzy; rw [beq_self_eq_true] at q; cases q
      exact ⟨.ref Dd, .inl ⟨hk, by simp⟩, rr⟩
    · rw [beq_eq_false_iff_ne.mpr hzy] at q
      obtain ⟨v, hv, r⟩ := V z e q
      refine ⟨v, ?_, r.mono kk⟩
      rcases hv with ⟨h1, h2⟩ | h1
      · exact .inl ⟨h1, by simpa [hzy] using h2⟩
      · exact .inr h1
  · obtain ⟨h1, h2, h3, h4⟩ := st.own a e hm
    exact ⟨h1, h2, h3, h4.mono kk fun o q => k₅ _ _ h2 q⟩

theorem bindL_other {kindOf : Str → Option NameKind} {x : Str} : ∀ {binds : List (Str × Value)} {m : Str → Option Value}, x ∉ binds.map (·.1) → bindL kindOf binds m x = m x
  | [], m, _ => rfl
  | (y, v) :: r, m, h => by
    rw [List.map_cons, List.mem_cons, not_or] at h
    show bindL kindOf r _ x = _
    rw [bindL_other h.2]
    split
    · simp [h.1]
    · rfl
theorem bindC_other {kindOf : Str → Option NameKind} {x : Str} : ∀ {binds : List (Str × Value)} {m : Str → Option Value}, x ∉ binds.map (·.1) → bindC kindOf binds m x = m x
  | [], m, _ => rfl
  | (y, v) :: r, m, h => by
    rw [List.map_cons, List.mem_cons, not_or] at h
    show bindC kindOf r _ x = _
    rw [bindC_other h.2]
    split
    · rfl
    · simp [h.1]
theorem bindL_get {kindOf : Str → Option NameKind} {x : Str} {v : Value} (hk : kindOf x = some .local) : ∀ {binds : List (Str × Value)} {m : Str → Option Value}, (binds.map (·.1)).Nodup → (x, v) ∈ binds → bindL kindOf binds m x = some v
  | (y, w) :: r, m, hn, hm => by
    rw [List.map_cons, List.nodup_cons] at hn
    show bindL kindOf r _ x = _
    rcases List.mem_cons.mp hm with q | hm
    · cases q
      rw [bindL_other hn.1, if_pos hk]; simp
    · exact bindL_get hk hn.2 hm
theorem bindC_get {kindOf : Str → Option NameKind} {x : Str} {v : Value} (hk : kindOf x ≠ some .local) : ∀ {binds : List (Str × Value)} {m : Str → Option Value}, (binds.map (·.1)).Nodup → (x, v) ∈ binds → bindC kindOf binds m x = some v
  | (y, w) :: r, m, hn, hm => by
    rw [List.map_cons, List.nodup_cons] at hn
    show bindC kindOf r _ x = _
    rcases List.mem_cons.mp hm with q | hm
    · cases q
      rw [bindC_other hn.1, if_neg hk]; simp
    · exact bindC_get hk hn.2 hm
theorem zip_get {h : Heap} {x : Str} {d : D} : ∀ {ps : Gam} {vs : List Value}, Rds P X h (ps.map (·.2)) vs → ps.lookup x = some d → ∃ v, (x, v) ∈ (ps.map (·.1)).zip vs ∧ Rd P X h d v
  | [], _, _, e => by cases e
  | (y, d') :: ps, vs, r, e => by
    obtain ⟨v, w, rfl, h1, h2⟩ := r
    rw [List.lookup_cons] at e
    by_cases hxy : x = y
    · subst hxy; rw [beq_self_eq_true] at e; cases e; exact ⟨v, .head _, h1⟩
    · rw [beq_eq_false_iff_ne.mpr hxy] at e
      obtain ⟨u, hm, hr⟩ := zip_get h2 e
      exact ⟨u, .tail _ hm, hr⟩

/-- a def's contract from its statements -/
theorem con_of {a : Addr} {o : Obj} {name : Str} {params : Arguments} {scope : Scope} {pm cd doc : Value} {ds : List D} {d : D} {ps : Gam}
    (ho : P.W.get? a = some o) (hd : o.data = .func (docDef name params body scope pm cd doc)) (hcd : P.W.CodeRec cd name) (G : P.Good)
    (hbind : ∀ vs, vs.length = ds.length → bindArgs (docDef name params body scope pm cd doc) ⟨vs, []⟩ = pure ((ps.map (·.1)).zip vs)) (hps : ps.map (·.2) = ds)
    (hkind : ∀ n, ∀ x ∈ ps.map (·.1), scope.names.lookup x = some .local ∨ (scope.names.lookup x = some .cell ∧ ((cellsFrom n scope.names []).lookup x).isSome = true))
    (hnd : (ps.map (·.1)).Nodup) (hcn : ((cellsFrom 0 scope.names []).map (·.1)).Nodup)
    (h : ∀ X B L, CellsOnce (envOfC name scope L a cd) → Tr P n X B (envOfC name scope L a cd) ps [] body fun oc => oc = .ret d)
    (hco : scope.isCoroutine = false := by rfl) (hgen : scope.isGenerator = false := by rfl) (hk : scope.kind = .function := by rfl) :
    Con P (n + 1) a ds d := by
  refine ⟨⟨o, _, ho, hd⟩, fun X A s vs Q E rm at0 rds ret => wpAny_call ?_⟩
  have hlen : vs.length = ds.length := rds.length
  have hb := hbind vs hlen
  have zn : ((ps.map (·.1)).zip vs).map (·.1) = ps.map (·.1) := by
    rw [List.map_fst_zip]; rw [List.length_map, hlen, ← hps, List.length_map]; exact Nat.le_refl _
  refine codeAny_call_function rm.depth (at0.sub _ _ ho) hd hco hgen rfl (hcd.keeps at0.sub) ?_
  rw [hb]
  have hkind' : ∀ x ∈ (ps.map (·.1)).zip vs, scope.names.lookup x.1 = some .local ∨ (scope.names.lookup x.1 = some .cell ∧ ((cellsFrom (s.heap.objs.size + 1) scope.names []).lookup x.1).isSome = true) :=
    fun x hx => hkind _ x.1 (by rw [← zn]; exact List.mem_map_of_mem hx)
  refine wpAny_pure (wpAny_with_toks (Nat.le_refl _) (wpAny_newFunctionEnv_cells hk hkind' fun env he s' x ht => ?_))
  subst he
  refine ⟨(G.nolimit.keeps at0.sub).keeps x.toInCall.keep, codeAny_func ?_⟩
  obtain ⟨h₁, tk, rfl, _⟩ := x.done
  have hnd' : (((ps.map (·.1)).zip vs).map (·.1)).Nodup := by rw [zn]; exact hnd
  have once : CellsOnce (envOfC name scope s.heap.objs.size a cd) := fun y c hm => lookup_of_mem_nodup (cellsFrom_names scope.names 0 (s.heap.objs.size + 1) [] [] rfl ▸ hcn) hm
  have none_ge : ∀ b, s.heap.objs.size ≤ b → s.heap.get? b = none := fun b hb => one_fresh Sub.refl hb
  have kk : ∀ b o, ¬ X b → s.heap.get? b = some o → ¬ Mut X (envOfC name scope s.heap.objs.size a cd) [] b ∧ h₁.get? b = some o := fun b o nb e => by
    refine ⟨fun y => ?_, x.toInCall.keep b o e⟩
    rcases y with y | y | ⟨z, y⟩ | ⟨z, y⟩
    · exact nb y
    · rw [y, show s.heap.get? (envOfC name scope s.heap.objs.size a cd).locals = none from none_ge _ (Nat.le_refl _)] at e; cases e
    · rw [none_ge b (Nat.le_of_lt (x.above z b (mem_of_lookup y)))] at e; cases e
    · cases y
  have st : St P X s.heap (envOfC name scope s.heap.objs.size a cd) ps [] { s with heap := h₁, toks := tk } := by
    refine ⟨at0.sub, at0.xo, Nat.zero_le _, x.toInCall.keep, none_ge _ (Nat.le_refl _), fun y c e => none_ge _ (Nat.le_of_lt (x.above y c (mem_of_lookup e))), ⟨_, _, x.toInCall.ns, ⟨x.cell, x.apart, x.above⟩, fun y e q => ?_⟩, fun b e hm => (by cases hm), List.nodup_nil⟩
    obtain ⟨v, hm, r⟩ := zip_get (hps ▸ rds) q
    have hmn : y ∈ ps.map (·.1) := by rw [← zn]; exact List.mem_map.mpr ⟨(y, v), hm, rfl⟩
    refine ⟨v, ?_, r.mono kk⟩
    rcases hkind (s.heap.objs.size + 1) y hmn with hl | ⟨hl, hc⟩
    · exact .inl ⟨hl, bindL_get hl hnd' hm⟩
    · obtain ⟨c, hc⟩ := Option.isSome_iff_exists.mp hc
      refine .inr ⟨hl, c, hc, bindC_get ?_ hnd' hm⟩
      show scope.names.lookup y ≠ some .local
      rw [hl]; decide
  refine h X s.heap s.heap.objs.size once (A.deeper _) _ _ _ rm.deeper st fun oc f h' tk' r ok => ?_
  subst r
  obtain ⟨v, rfl, k1, k2⟩ := ok
  exact ret v h' tk' k1 k2
end
end
section
/-- the defs of the text -/
noncomputable def recOf (x : Str) : DefRec := ((recsOf PySem.Challenge.pw_rx0131_01).find? fun d => d.name == x).getD ⟨x, ⟨[], [], .none, [], [], .none, []⟩, [], ⟨.function, [], false, false, []⟩, ⟨0, 0, 0, 0⟩⟩

/-- the built-in names that the text uses -/
noncomputable def bltUsed : List (Str × Value) := [("len", .builtin "len"), ("range", .type "range"), ("sum", .builtin "sum"), ("list", .type "list"), ("enumerate", .type "enumerate"), ("isinstance", .builtin "isinstance"), ("object", .type "object"), ("str", .type "str")]

theorem blt_len : (Str.ofString "len", Value.builtin "len") ∈ bltUsed := .head _
theorem blt_range : (Str.ofString "range", Value.type "range") ∈ bltUsed := .tail _ (.head _)
theorem blt_sum : (Str.ofString "sum", Value.builtin "sum") ∈ bltUsed := .tail _ (.tail _ (.head _))
theorem blt_list : (Str.ofString "list", Value.type "list") ∈ bltUsed := .tail _ (.tail _ (.tail _ (.head _)))
theorem blt_enumerate : (Str.ofString "enumerate", Value.type "enumerate") ∈ bltUsed := .tail _ (.tail _ (.tail _ (.tail _ (.head _))))
theorem blt_isinstance : (Str.ofString "isinstance", Value.builtin "isinstance") ∈ bltUsed := .tail _ (.tail _ (.tail _ (.tail _ (.tail _ (.head _)))))
theorem blt_object : (Str.ofString "object", Value.type "object") ∈ bltUsed := .tail _ (.tail _ (.tail _ (.tail _ (.tail _ (.tail _ (.head _))))))
theorem blt_str : (Str.ofString "str", Value.type "str") ∈ bltUsed := .tail _ (.tail _ (.tail _ (.tail _ (.tail _ (.tail _ (.tail _ (.head _)))))))

theorem look_here {x : Str} {d : D} {Γ : Gam} : List.lookup x ((x, d) :: Γ) = some d := by rw [List.lookup_cons, beq_self_eq_true]
theorem look_there {x y : Str} {d e : D} {Γ : Gam} (hne : (x == y) = false) (h : List.lookup x Γ = some d) : List.lookup x ((y, e) :: Γ) = some d := by rw [List.lookup_cons, hne]; exact h

structure Wd (P : Cx) : Prop where
  good : P.Good
  fn : ∀ d ∈ recsOf PySem.Challenge.pw_rx0131_01, ∃ a o pm code doc, P.mg d.name = some (.ref a) ∧ P.W.get? a = some o ∧ o.data = .func (docDef d.name d.params d.body d.scope pm code doc) ∧ P.W.CodeRec code d.name
  blt : ∀ x ∈ bltUsed, P.mg x.1 = none ∧ P.mb x.1 = some x.2

/-- a named def's contract -/
noncomputable def Cn (P : Cx) (n : Nat) (x : Str) (ds : List D) (d : D) : Prop := ∃ a, P.mg x = some (.ref a) ∧ Con P n a ds d

theorem rec_find {x : Str} (h : ((recsOf PySem.Challenge.pw_rx0131_01).find? fun d => d.name == x).isSome = true) : recOf x ∈ recsOf PySem.Challenge.pw_rx0131_01 ∧ (recOf x).name = x := by
  obtain ⟨d, hd⟩ := Option.isSome_iff_exists.mp h
  have e : recOf x = d := by unfold recOf; rw [hd]; rfl
  rw [e]
  exact ⟨List.mem_of_find?_eq_some hd, beq_iff_eq.mp (List.find?_some (p := fun d : DefRec => d.name == x) hd)⟩


theorem cn_of {P : Cx} {n : Nat} (W : Wd P) {nm : Str} {r : DefRec} {ds : List D} {d : D} (ps : Gam) (xs : List Str) (hxs : ps.map (·.1) = xs)
    (hne : r.body ≠ []) (e : recOf nm = r)
    (hbind : ∀ pm cd doc vs, vs.length = ds.length → bindArgs (docDef nm r.params r.body r.scope pm cd doc) ⟨vs, []⟩ = pure (xs.zip vs)) (hps : ps.map (·.2) = ds)
    (hkind : ∀ n, ∀ x ∈ xs, r.scope.names.lookup x = some .local ∨ (r.scope.names.lookup x = some .cell ∧ ((cellsFrom n r.scope.names []).lookup x).isSome = true))
    (hnd : xs.Nodup) (hcn : ((cellsFrom 0 r.scope.names []).map (·.1)).Nodup)
    (h : ∀ X B L a cd, CellsOnce (envOfC nm r.scope L a cd) → Tr P n X B (envOfC nm r.scope L a cd) ps [] r.body fun oc => oc = .ret d)
    (hco : r.scope.isCoroutine = false := by kernel_rfl) (hgen : r.scope.isGenerator = false := by kernel_rfl) (hk : r.scope.kind = .function := by kernel_rfl) : Cn P (n + 1) nm ds d := by
  subst e; subst hxs
  have hm : ((recsOf PySem.Challenge.pw_rx0131_01).find? fun d => d.name == nm).isSome = true := by
    cases q : (recsOf PySem.Challenge.pw_rx0131_01).find? fun d => d.name == nm with
    | some d => rfl
    | none => exfalso; apply hne; unfold recOf; rw [q]; rfl
  obtain ⟨hm, e0⟩ := rec_find hm
  obtain ⟨a, o, pm, code, doc, h1, h2, h3, h4⟩ := W.fn _ hm
  rw [e0] at h1 h3 h4
  exact ⟨a, h1, con_of h2 h3 h4 W.good (hbind _ _ _) hps hkind hnd hcn (fun X B L => h X B L a code) hco hgen hk⟩
theorem Cn.le {P : Cx} {n m : Nat} {x : Str} {ds : List D} {d : D} (c : Cn P n x ds d) (k : n ≤ m) : Cn P m x ds d := by
  obtain ⟨a, h1, h2, h3⟩ := c
  exact ⟨a, h1, h2, fun X A s vs Q E rm => h3 X A s vs Q E (rm.le k)⟩

theorem ev_eq {P : Cx} {n : Nat} {X : XS} {env : Env} {h : Heap} {e : Expr} {d d' : D} (x : Ev P n X env h e d') (q : d' = d) : Ev P n X env h e d := q ▸ x
theorem tt_eq {P : Cx} {n : Nat} {X : XS} {env : Env} {h : Heap} {e : Expr} {d d' : Bool} (x : Tt P n X env h e d') (q : d' = d) : Tt P n X env h e d := q ▸ x

section
variable {P : Cx} {n : Nat} {X : XS} {env : Env} {h : Heap} {x : Str} {d : D}
/-- a name that a comprehension takes from the def around it, beside the loop's own name -/
theorem Vr.free {scope : Scope} {cl : List (Str × Addr)} {C : Addr} {h' : Heap} {y : Str} {e : D} (_V : Vr P X (compEnvC scope cl C env) h' y e) (hv : Vr P X env h x d) (k : Sub h h')
    (hcell : env.kindOf x = some .cell := by kernel_rfl) (hcl : cl.lookup x = env.cells.lookup x := by kernel_rfl)
    (hk : (compEnvC scope cl C env).kindOf x = some .cell := by kernel_rfl) : Vr P X (compEnvC scope cl C env) h' x d := by
  obtain ⟨v, hn, r⟩ := hv.sub k
  rcases hn with ⟨h1, _⟩ | ⟨h1, c', h2, h3⟩
  · rw [hcell] at h1; cases h1
  · exact ⟨v, .inr ⟨hk, c', hcl.trans h2, h3⟩, r⟩
theorem ev_bltn {pos : Pos} {v : Value} (W : Wd P) (F : Fe env) (kW : Sub P.W h) (hm : (x, v) ∈ bltUsed) (hx : env.kindOf x = some .globalImplicit := by kernel_rfl) (hd : (x == ("__debug__" : Str)) = false := by decide +kernel) : Ev P n X env h (.Name x pos) (.val v) :=
  ev_blt W.good F kW hx (W.blt _ hm).1 (W.blt _ hm).2 hd
theorem ev_calln {e : Expr} {es : List Expr} {ds : List D} {np pos : Pos} (W : Wd P) (F : Fe env) (kW : Sub P.W h) (hc : Cn P n x ds d) (ha : Evs P n X env h (e :: es) ds) (hx : env.kindOf x = some .globalImplicit := by kernel_rfl)
    (hs : backTo pos (starEach (e :: es) env) = (e :: es).map fun e => (false, eval e env) := by kernel_rfl) (hd : (x == ("__debug__" : Str)) = false := by decide +kernel) : Ev P n X env h (.Call (.Name x np) (e :: es) [] pos) d := by
  obtain ⟨a, h1, h2⟩ := hc
  exact ev_call (ev_glob W.good F kW hx h1 hd) ha h2 kW hs

noncomputable def onI (g : Int → D) : D → D | .int k => g k | d => d
noncomputable def ifI (q : Int → Bool) : D → Bool | .int k => q k | _ => false
noncomputable def onS (g : List Nat → D) : D → D | .str k => g k | d => d
noncomputable def ifS (q : List Nat → Bool) : D → Bool | .str k => q k | _ => false
theorem on_ints {ns : List Int} {q : Int → Bool} {g : Int → D} : ((ns.map D.int).filter (ifI q)).map (onI g) = (ns.filter q).map g := by
  rw [List.filter_map, List.map_map]; rfl
theorem on_strs {ns : List (List Nat)} {q : List Nat → Bool} {g : List Nat → D} : ((ns.map D.str).filter (ifS q)).map (onS g) = (ns.filter q).map g := by
  rw [List.filter_map, List.map_map]; rfl

/-- the cells that a comprehension takes with it -/
noncomputable def clOf (scope : Scope) (env : Env) : List (Str × Addr) := (scope.names.filterMap fun (x, k) => if k == .free then (env.cells.lookup x).map (x, ·) else none).reverse

section
variable {iter elt : Expr} {ifs : List Expr} {scope : Scope}
theorem cmpI {ns : List Int} {q : Int → Bool} {g : Int → D} (src : Src P n X env h iter (ns.map D.int)) (small : ns.length ≤ 1000000)
    (tests : ∀ k ∈ ns, ∀ C h', Sub h h' → Vr P X (compEnvC scope (clOf scope env) C env) h' x (.int k) → Tts P n X (compEnvC scope (clOf scope env) C env) h' ifs (q k))
    (flat : ∀ k, Flat (g k)) (elt' : ∀ k ∈ ns, q k = true → ∀ C h', Sub h h' → Vr P X (compEnvC scope (clOf scope env) C env) h' x (.int k) → Ev P n X (compEnvC scope (clOf scope env) C env) h' elt (g k))
    (hclos : closureFor scope env = pure (clOf scope env)) (hcell : ∀ y ∈ scope.names, y.2 ≠ .cell) (hkind : scope.kind = .function)
    (hnames : ∀ y ∈ scope.names, y.2 = .local → scope.names.lookup y.1 = some .local) (hx : scope.names.lookup x = some .local) (hs : ∀ x, foldedSetIterable iter env x = pure x) :
    Cmp P n X env h x iter elt ifs scope (clOf scope env) (ns.map D.int) (ifI q) (onI g) :=
  ⟨src, fun d hd => by obtain ⟨k, _, rfl⟩ := List.mem_map.mp hd; trivial, by rw [List.length_map]; exact small,
    fun d hd => by obtain ⟨k, hk, rfl⟩ := List.mem_map.mp hd; exact tests k hk,
    fun d hd hq => by obtain ⟨k, hk, rfl⟩ := List.mem_map.mp hd; exact ⟨flat k, elt' k hk hq⟩, hclos, hcell, hkind, hnames, hx, hs⟩
theorem cmpS {ns : List (List Nat)} {q : List Nat → Bool} {g : List Nat → D} (src : Src P n X env h iter (ns.map D.str)) (small : ns.length ≤ 1000000)
    (tests : ∀ k ∈ ns, ∀ C h', Sub h h' → Vr P X (compEnvC scope (clOf scope env) C env) h' x (.str k) → Tts P n X (compEnvC scope (clOf scope env) C env) h' ifs (q k))
    (flat : ∀ k, Flat (g k)) (elt' : ∀ k ∈ ns, q k = true → ∀ C h', Sub h h' → Vr P X (compEnvC scope (clOf scope env) C env) h' x (.str k) → Ev P n X (compEnvC scope (clOf scope env) C env) h' elt (g k))
    (hclos : closureFor scope env = pure (clOf scope env)) (hcell : ∀ y ∈ scope.names, y.2 ≠ .cell) (hkind : scope.kind = .function)
    (hnames : ∀ y ∈ scope.names, y.2 = .local → scope.names.lookup y.1 = some .local) (hx : scope.names.lookup x = some .local) (hs : ∀ x, foldedSetIterable iter env x = pure x) :
    Cmp P n X env h x iter elt ifs scope (clOf scope env) (ns.map D.str) (ifS q) (onS g) :=
  ⟨src, fun d hd => by obtain ⟨k, _, rfl⟩ := List.mem_map.mp hd; trivial, by rw [List.length_map]; exact small,
    fun d hd => by obtain ⟨k, hk, rfl⟩ := List.mem_map.mp hd; exact tests k hk,
    fun d hd hq => by obtain ⟨k, hk, rfl⟩ := List.mem_map.mp hd; exact ⟨flat k, elt' k hk hq⟩, hclos, hcell, hkind, hnames, hx, hs⟩

theorem ev_compI {ns : List Int} {q : Int → Bool} {g : Int → D} {px cpos : Pos} (src : Src P n X env h iter (ns.map D.int)) (small : ns.length ≤ 1000000)
    (tests : ∀ k ∈ ns, ∀ C h', Sub h h' → Vr P X (compEnvC scope (clOf scope env) C env) h' x (.int k) → Tts P n X (compEnvC scope (clOf scope env) C env) h' ifs (q k))
    (flat : ∀ k, Flat (g k)) (elt' : ∀ k ∈ ns, q k = true → ∀ C h', Sub h h' → Vr P X (compEnvC scope (clOf scope env) C env) h' x (.int k) → Ev P n X (compEnvC scope (clOf scope env) C env) h' elt (g k))
    (hclos : closureFor scope env = pure (clOf scope env) := by kernel_rfl) (hcell : ∀ y ∈ scope.names, y.2 ≠ .cell := by decide +kernel) (hkind : scope.kind = .function := by kernel_rfl)
    (hnames : ∀ y ∈ scope.names, y.2 = .local → scope.names.lookup y.1 = some .local := by decide +kernel) (hx : scope.names.lookup x = some .local := by kernel_rfl) (hs : ∀ x, foldedSetIterable iter env x = pure x := by intro _; kernel_rfl) :
    Ev P n X env h (.ListComp elt [⟨.Name x px, iter, ifs, 0⟩] scope cpos) (.list ((ns.filter q).map g)) :=
  ev_eq (ev_comp (cmpI src small tests flat elt' hclos hcell hkind hnames hx hs)) (by rw [on_ints])
theorem ev_compS {ns : List (List Nat)} {q : List Nat → Bool} {g : List Nat → D} {px cpos : Pos} (src : Src P n X env h iter (ns.map D.str)) (small : ns.length ≤ 1000000)
    (tests : ∀ k ∈ ns, ∀ C h', Sub h h' → Vr P X (compEnvC scope (clOf scope env) C env) h' x (.str k) → Tts P n X (compEnvC scope (clOf scope env) C env) h' ifs (q k))
    (flat : ∀ k, Flat (g k)) (elt' : ∀ k ∈ ns, q k = true → ∀ C h', Sub h h' → Vr P X (compEnvC scope (clOf scope env) C env) h' x (.str k) → Ev P n X (compEnvC scope (clOf scope env) C env) h' elt (g k))
    (hclos : closureFor scope env = pure (clOf scope env) := by kernel_rfl) (hcell : ∀ y ∈ scope.names, y.2 ≠ .cell := by decide +kernel) (hkind : scope.kind = .function := by kernel_rfl)
    (hnames : ∀ y ∈ scope.names, y.2 = .local → scope.names.lookup y.1 = some .local := by decide +kernel) (hx : scope.names.lookup x = some .local := by kernel_rfl) (hs : ∀ x, foldedSetIterable iter env x = pure x := by intro _; kernel_rfl) :
    Ev P n X env h (.ListComp elt [⟨.Name x px, iter, ifs, 0⟩] scope cpos) (.list ((ns.filter q).map g)) :=
  ev_eq (ev_comp (cmpS src small tests flat elt' hclos hcell hkind hnames hx hs)) (by rw [on_strs])
end
section
variable {B : Heap} {Γ : Gam} {O : Own} {R : Oc → Prop} {rest : List Stmt} {pos : Pos} {iter elt : Expr} {ifs : List Expr} {scope : Scope}
theorem tr_compI {y : Str} {ns : List Int} {q : Int → Bool} {g : Int → D} {px py cpos : Pos} (src : ∀ s, St P X B env Γ O s → Src P n (Mut X env O) env s.heap iter (ns.map D.int)) (small : ns.length ≤ 1000000)
    (tests : ∀ s, St P X B env Γ O s → ∀ k ∈ ns, ∀ C h', Sub s.heap h' → Vr P (Mut X env O) (compEnvC scope (clOf scope env) C env) h' x (.int k) → Tts P n (Mut X env O) (compEnvC scope (clOf scope env) C env) h' ifs (q k))
    (flat : ∀ k, Flat (g k)) (elt' : ∀ s, St P X B env Γ O s → ∀ k ∈ ns, q k = true → ∀ C h', Sub s.heap h' → Vr P (Mut X env O) (compEnvC scope (clOf scope env) C env) h' x (.int k) → Ev P n (Mut X env O) (compEnvC scope (clOf scope env) C env) h' elt (g k))
    (next : Tr P n X B env ((y, .list ((ns.filter q).map g)) :: Γ) O rest R)
    (hclos : closureFor scope env = pure (clOf scope env) := by kernel_rfl) (hcell : ∀ y ∈ scope.names, y.2 ≠ .cell := by decide +kernel) (hkind : scope.kind = .function := by kernel_rfl)
    (hnames : ∀ y ∈ scope.names, y.2 = .local → scope.names.lookup y.1 = some .local := by decide +kernel) (hx : scope.names.lookup x = some .local := by kernel_rfl) (hs : ∀ x, foldedSetIterable iter env x = pure x := by intro _; kernel_rfl)
    (hf : env.scope.kind = .function := by kernel_rfl) (hk : env.kindOf y = some .local := by kernel_rfl)
    (hsw : swapsWith (.ListComp elt [⟨.Name x px, iter, ifs, 0⟩] scope cpos) (some (.Name y py)) pos.line env = pure true := by kernel_rfl) :
    Tr P n X B env Γ O (.Assign [.Name y py] (.ListComp elt [⟨.Name x px, iter, ifs, 0⟩] scope cpos) pos :: rest) R :=
  tr_comp (ds := ns.map D.int) (p := ifI q) (f := onI g) (fun s st => cmpI (src s st) small (tests s st) flat (elt' s st) hclos hcell hkind hnames hx hs) hf hk (by rw [on_ints]; exact next) hsw
theorem tr_compS {y : Str} {ns : List (List Nat)} {q : List Nat → Bool} {g : List Nat → D} {px py cpos : Pos} (src : ∀ s, St P X B env Γ O s → Src P n (Mut X env O) env s.heap iter (ns.map D.str)) (small : ns.length ≤ 1000000)
    (tests : ∀ s, St P X B env Γ O s → ∀ k ∈ ns, ∀ C h', Sub s.heap h' → Vr P (Mut X env O) (compEnvC scope (clOf scope env) C env) h' x (.str k) → Tts P n (Mut X env O) (compEnvC scope (clOf scope env) C env) h' ifs (q k))
    (flat : ∀ k, Flat (g k)) (elt' : ∀ s, St P X B env Γ O s → ∀ k ∈ ns, q k = true → ∀ C h', Sub s.heap h' → Vr P (Mut X env O) (compEnvC scope (clOf scope env) C env) h' x (.str k) → Ev P n (Mut X env O) (compEnvC scope (clOf scope env) C env) h' elt (g k))
    (next : Tr P n X B env ((y, .list ((ns.filter q).map g)) :: Γ) O rest R)
    (hclos : closureFor scope env = pure (clOf scope env) := by kernel_rfl) (hcell : ∀ y ∈ scope.names, y.2 ≠ .cell := by decide +kernel) (hkind : scope.kind = .function := by kernel_rfl)
    (hnames : ∀ y ∈ scope.names, y.2 = .local → scope.names.lookup y.1 = some .local := by decide +kernel) (hx : scope.names.lookup x = some .local := by kernel_rfl) (hs : ∀ x, foldedSetIterable iter env x = pure x := by intro _; kernel_rfl)
    (hf : env.scope.kind = .function := by kernel_rfl) (hk : env.kindOf y = some .local := by kernel_rfl)
    (hsw : swapsWith (.ListComp elt [⟨.Name x px, iter, ifs, 0⟩] scope cpos) (some (.Name y py)) pos.line env = pure true := by kernel_rfl) :
    Tr P n X B env Γ O (.Assign [.Name y py] (.ListComp elt [⟨.Name x px, iter, ifs, 0⟩] scope cpos) pos :: rest) R :=
  tr_comp (ds := ns.map D.str) (p := ifS q) (f := onS g) (fun s st => cmpS (src s st) small (tests s st) flat (elt' s st) hclos hcell hkind hnames hx hs) hf hk (by rw [on_strs]; exact next) hsw
end
end

theorem tts_nil {P : Cx} {n : Nat} {X : XS} {env : Env} {h : Heap} : Tts P n X env h [] true := rfl
theorem tts_one {P : Cx} {n : Nat} {X : XS} {env : Env} {h : Heap} {e : Expr} {b : Bool} (x : Tt P n X env h e b) : Tts P n X env h [e] b := x

section
variable {P : Cx} {n : Nat} {X : XS} {B : Heap} {env : Env} {Γ : Gam} {O : Own} {R R₁ : Oc → Prop} {rest body orelse : List Stmt} {pos p : Pos} {e : Expr} {x : Str} {d : D}
theorem tr_setL (hx : Es P n X B env Γ O e d) (next : Tr P n X B env ((x, d) :: Γ) O rest R) (hf : env.scope.kind = .function := by kernel_rfl) (hk : env.kindOf x = some .local := by kernel_rfl)
    (hs : swapsWith e (some (.Name x p)) pos.line env = pure false := by kernel_rfl) : Tr P n X B env Γ O (.Assign [.Name x p] e pos :: rest) R := tr_set hx hf (.inl hk) next hs
theorem tr_setC (hx : Es P n X B env Γ O e d) (next : Tr P n X B env ((x, d) :: Γ) O rest R) (hf : env.scope.kind = .function := by kernel_rfl) (hk : env.kindOf x = some .cell := by kernel_rfl)
    (hc : (env.cells.lookup x).isSome = true := by kernel_rfl)
    (hs : swapsWith e (some (.Name x p)) pos.line env = pure false := by kernel_rfl) : Tr P n X B env Γ O (.Assign [.Name x p] e pos :: rest) R := tr_set hx hf (.inr ⟨hk, Option.isSome_iff_exists.mp hc⟩) next hs
theorem tr_augL {a b : Int} (hv : Γ.lookup x = some (.int a)) (hx : Es P n X B env Γ O e (.int b)) (next : Tr P n X B env ((x, .int (a + b)) :: Γ) O rest R) (hf : env.scope.kind = .function := by kernel_rfl) (hk : env.kindOf x = some .local := by kernel_rfl)
    (h1 : env.globals = mainGlobals := by kernel_rfl) (h2 : env.builtins = builtinsNs := by kernel_rfl) : Tr P n X B env Γ O (.AugAssign (.Name x p) .Add e pos :: rest) R := tr_aug hv hx hf (.inl hk) ⟨hf, h1, h2⟩ next
theorem tr_forL {px : Pos} {ds : List D} (I : Nat → Gam → Own → Prop) (R₁ : Oc → Prop) (once : CellsOnce env) (hsrc : ∀ s, St P X B env Γ O s → Src P n (Mut X env O) env s.heap e ds) (h0 : I 0 Γ O)
    (turn : ∀ i d Γ₁ O₁, ds[i]? = some d → I i Γ₁ O₁ → ∀ X' B', Tr P n X' B' env ((x, d) :: Γ₁) O₁ body fun oc => match oc with | .next Γ' O' => I (i + 1) Γ' O' | .brk Γ' O' => R₁ (.next Γ' O') | .ret d => R₁ (.ret d))
    (done : ∀ Γ₁ O₁, I ds.length Γ₁ O₁ → Tr P n X B env Γ₁ O₁ orelse R₁)
    (next : ∀ Γ' O', R₁ (.next Γ' O') → Tr P n X B env Γ' O' rest R) (hb : ∀ Γ' O', R₁ (.brk Γ' O') → R (.brk Γ' O')) (hr : ∀ d, R₁ (.ret d) → R (.ret d))
    (hf : env.scope.kind = .function := by kernel_rfl) (hk : env.kindOf x = some .local := by kernel_rfl)
    (hs : ∀ x, foldedSetIterable e env x = pure x := by intro _; kernel_rfl) :
    Tr P n X B env Γ O (.For (.Name x px) e body orelse pos :: rest) R := tr_for I once hsrc h0 hf (.inl hk) turn done next hb hr hs
theorem tr_forC {px : Pos} {ds : List D} (I : Nat → Gam → Own → Prop) (R₁ : Oc → Prop) (once : CellsOnce env) (hsrc : ∀ s, St P X B env Γ O s → Src P n (Mut X env O) env s.heap e ds) (h0 : I 0 Γ O)
    (turn : ∀ i d Γ₁ O₁, ds[i]? = some d → I i Γ₁ O₁ → ∀ X' B', Tr P n X' B' env ((x, d) :: Γ₁) O₁ body fun oc => match oc with | .next Γ' O' => I (i + 1) Γ' O' | .brk Γ' O' => R₁ (.next Γ' O') | .ret d => R₁ (.ret d))
    (done : ∀ Γ₁ O₁, I ds.length Γ₁ O₁ → Tr P n X B env Γ₁ O₁ orelse R₁)
    (next : ∀ Γ' O', R₁ (.next Γ' O') → Tr P n X B env Γ' O' rest R) (hb : ∀ Γ' O', R₁ (.brk Γ' O') → R (.brk Γ' O')) (hr : ∀ d, R₁ (.ret d) → R (.ret d))
    (hf : env.scope.kind = .function := by kernel_rfl) (hk : env.kindOf x = some .cell := by kernel_rfl) (hc : (env.cells.lookup x).isSome = true := by kernel_rfl)
    (hs : ∀ x, foldedSetIterable e env x = pure x := by intro _; kernel_rfl) :
    Tr P n X B env Γ O (.For (.Name x px) e body orelse pos :: rest) R := tr_for I once hsrc h0 hf (.inr ⟨hk, Option.isSome_iff_exists.mp hc⟩) turn done next hb hr hs
end
theorem flat_int {i : Int} : Flat (.int i) := trivial
theorem flat_str {i : List Nat} : Flat (.str i) := trivial
theorem flat_bool {i : Bool} : Flat (.bool i) := trivial
theorem bits_small {a : Int} (h : -1000000 ≤ a ∧ a ≤ 1000000) : Builtin.Int.intBits a ≤ 20 := by
  by_cases q : a = 0
  · subst q; decide
  · have hl : a.natAbs.log2 < 20 := (Nat.log2_lt (by omega)).mpr (by omega)
    unfold Builtin.Int.intBits
    split <;> omega
theorem ev_muls {P : Cx} {n : Nat} {X : XS} {env : Env} {h : Heap} {l r : Expr} {pos : Pos} {a b : Int} (hl : Ev P n X env h l (.int a)) (hr : Ev P n X env h r (.int b)) (ha : -1000000 ≤ a ∧ a ≤ 1000000) (hb : -1000000 ≤ b ∧ b ≤ 1000000) : Ev P n X env h (.BinOp l .Mult r pos) (.int (a * b)) :=
  ev_mul hl hr (mulOk_of_bits (bits_small ha) (bits_small hb) (by omega))
theorem src_up {P : Cx} {n : Nat} {X : XS} {env : Env} {h : Heap} {iter : Expr} {j k : Int} {r : Nat} (x : Ev P n X env h iter (.rng j k)) (hr : k = j + r) (hj : -1000000 ≤ j) (hk : k ≤ 1000000) : Src P n X env h iter ((ups j r).map D.int) := by
  have := src_rng x (by omega) hj hk
  rwa [show (k - j).toNat = r by omega] at this
end
section
section
variable {P : Cx} {n : Nat} {X : XS} {env : Env} {h : Heap} {l r e : Expr} {pos : Pos} {d : D}

/-- the last item -/
theorem ev_last {ds : List D} {i : Int} (hl : Ev P n X env h l (.list ds)) (hr : Ev P n X env h r (.int i)) (hi : i = -1) (hd : ds.getLast? = some d) (hx : ds.length ≤ 1000000)
    (hs : ∀ o i, subscripted r false o i = operate [o, i] (getItem o i) := by intro _ _; kernel_rfl) : Ev P n X env h (.Subscript l r pos) d := fun A s Q E rm a ret => by
  refine Subscript_ (hl.run rm a fun v h' tk k a' r₁ => hr.run rm a' fun w h'' tk' k' a'' r₂ => ?_)
  obtain ⟨b, vs, rfl, nx, hL, hR⟩ := r₁
  obtain ⟨u, rfl⟩ := r₂
  subst hi
  have hne : ds ≠ [] := by intro e; subst e; cases hd
  have hpos : 0 < ds.length := List.length_pos_iff.mpr hne
  have hz : vs.size = ds.length := by simpa using hR.length
  obtain ⟨v, hv, hd⟩ := hR.get (i := ds.length - 1) (d := d) (by rw [← hd, List.getLast?_eq_getElem?])
  have hL' := isList_at hL (fun o e => k' _ _ e)
  exact tail_any hL'.typeIs slot_list_getitem.lookup (wpAny_getItem_list_neg hL' (by omega) (by omega) (by omega) (by rw [show ((-1 : Int) + (vs.size : Int)).toNat = ds.length - 1 by omega]; simpa using hv) (ret _ _ _ (k.trans k') (hd.sub k'))) (hs _ _)

/-- an item of a dictionary of texts -/
theorem ev_ditem {kv : List (List Nat × List Nat)} {x y : List Nat} (hl : Ev P n X env h l (.dict kv)) (hr : Ev P n X env h r (.str x)) (hd : kv.lookup x = some y)
    (hs : ∀ o i, subscripted r false o i = operate [o, i] (getItem o i) := by intro _ _; kernel_rfl) : Ev P n X env h (.Subscript l r pos) (.str y) := fun A s Q E rm a ret => by
  refine Subscript_ (hl.run rm a fun v h' tk k a' r₁ => hr.run rm a' fun w h'' tk' k' a'' r₂ => ?_)
  obtain ⟨b, m, rfl, nx, hsm, hM, hK⟩ := r₁
  obtain ⟨u, rfl⟩ := r₂
  obtain ⟨t, ht⟩ := (hK x).2 y hd
  have hM' := mapOf_at hM (fun o e => k' _ _ e)
  exact tail_any hM'.typeIs slot_dict_getitem.lookup (wpAny_getItem_of (strKind_is P.prog P.w (Sx x) u) hM' ht (ret _ _ _ (k.trans k') ⟨t, rfl⟩)) (hs _ _)

/-- a bound of a slice -/
noncomputable def Pt (P : Cx) (n : Nat) (X : XS) (env : Env) (h : Heap) : Option Expr → Option Int → Prop
  | none, none => True
  | some e, some i => Ev P n X env h e (.int i)
  | _, _ => False
theorem Pt.run {e : Option Expr} {i : Option Int} (x : Pt P n X env h e i) {A : Around} {s : Shared} {Q E : Value → Shared → Prop} (rm : Room n A) (a : At X h s)
    (ret : ∀ v h' tk, Sub s.heap h' → At X h { s with heap := h', toks := tk } → IsPart v i → Q v { s with heap := h', toks := tk }) : wpAny (model P.prog P.w) A (evalPart e env) Q E s := by
  match e, i, x with
  | none, none, _ => rw [evalPart_none]; exact wpAny_pure (ret .none s.heap s.toks Sub.refl a .none)
  | some e, some i, x =>
    rw [evalPart_some]
    refine Tv.run x rm a fun v h' tk k a' r => ?_
    obtain ⟨t, rfl⟩ := r
    exact ret _ h' tk k a' (.int i t)
theorem rds_pick {h : Heap} {ds : List D} {vs : List Value} (hR : Rds P X h ds vs) (lo hi : Option Int) : Rds P X h ((ds.drop (kms_lo lo ds.length)).take (kms_hi hi ds.length - kms_lo lo ds.length)) (kms_pick vs lo hi) := by
  unfold kms_pick
  rw [hR.length]
  exact (hR.drop _).take _
theorem ev_lslice {ds es : List D} {i j : Option Int} {lo hi : Option Expr} {p : Pos} (hl : Ev P n X env h l (.list ds)) (h1 : Pt P n X env h lo i) (h2 : Pt P n X env h hi j) (hx : ds.length ≤ 1000000)
    (he : (ds.drop (kms_lo i ds.length)).take (kms_hi j ds.length - kms_lo i ds.length) = es) : Ev P n X env h (.Subscript l (.Slice lo hi none p) pos) (.list es) := fun A s Q E rm a ret => by
  refine Subscript_ (hl.run rm a fun v h' tk k a' r₁ => wpAny_Slice (h1.run rm a' fun w h'' tk' k' a'' r₂ => h2.run rm a'' fun w' h3 tk3 k3 a3 r₃ => wpAny_pure ?_))
  obtain ⟨b, vs, rfl, nx, hL, hR⟩ := r₁
  have kk := (k'.trans k3).trans (Sub.push (h := h3) { cls := .type "slice", data := .fields #[w, w', .none] })
  have hL' := isList_at hL (fun o e => kk _ _ e)
  have hz : vs.size = ds.length := by simpa using hR.length
  refine tail_any hL'.typeIs slot_list_getitem.lookup (wpAny_getItem_list_slice hL' (sl := h3.objs.size) ⟨_, Heap.get?_push_size _ rfl, rfl, rfl⟩ r₂ r₃ .none (by intro e; cases e) ?_ (by rw [hz, sizeLine_eq]; omega)) (ops := [_, _]) rfl
  refine ret _ _ _ (k.trans (kk.trans (Sub.push _))) ⟨_, _, rfl, ?_, ⟨_, Heap.get?_push_size _ rfl, rfl, _, rfl⟩, ?_⟩
  · have a4 : At X h { s with heap := h3.push { cls := .type "slice", data := .fields #[w, w', .none] }, toks := tk3 } := a3.step (Sub.push _) (Nat.le_refl _)
    exact a4.new
  · rw [kms_pick_eq, ← he]
    exact rds_pick (hR.sub (kk.trans (Sub.push _))) i j

/-- two lists, one behind the other -/
theorem ev_lcat {ds es : List D} (hl : Ev P n X env h l (.list ds)) (hr : Ev P n X env h r (.list es)) (hz : ds.length + es.length ≤ 1000000) : Ev P n X env h (.BinOp l .Add r pos) (.list (ds ++ es)) :=
  ev_binop hl hr fun A s v₁ v₂ rm k r₁ r₂ Q E ret => by
    obtain ⟨a, vs, rfl, nx, hL, hR⟩ := r₁; obtain ⟨b, ws, rfl, ny, hM, hS⟩ := r₂
    have z1 : vs.size = ds.length := by simpa using hR.length
    have z2 : ws.size = es.length := by simpa using hS.length
    obtain ⟨vs⟩ := vs; obtain ⟨ws⟩ := ws
    have fin := ret (.ref s.heap.objs.size) _ s.toks (Sub.push { cls := .type "list", data := .seq (vs ++ ws).toArray }) ⟨_, _, rfl, k.new, ⟨_, Heap.get?_push_size _ rfl, rfl, _, rfl⟩, (Rds.append hR hS).sub (Sub.push _)⟩
    obtain ⟨⟨cls, dd, data, sl⟩, ho, hc, n, hd⟩ := id hL
    obtain ⟨⟨cls2, dd2, data2, sl2⟩, ho2, hc2, n2, hd2⟩ := id hM
    simp only at hc hd hc2 hd2
    subst hc hd hc2 hd2
    have e : vs.toArray ++ ws.toArray = (vs ++ ws).toArray := by simp
    refine concat_meets ⟨_, ho, rfl⟩ ⟨_, ho2, rfl⟩ noFill_list_add seq_list_add PySem.F.slot_list_add PySem.F.entry_list_add (PySem.F.args_list_add_2 _ _) (list_addW a b vs.toArray ws.toArray n n2 dd dd2 sl sl2 (by simp at z1 z2; rw [sizeLine_eq]; simp; omega)) ⟨ho, ho2, ?_⟩
    rw [e]
    exact fin

/-! displays of dictionaries -/
inductive Prs (P : Cx) (n : Nat) (X : XS) (env : Env) (h : Heap) : List (Option Expr) → List Expr → List (List Nat × List Nat) → Prop
  | nil : Prs P n X env h [] [] []
  | cons {k v : Expr} {ks : List (Option Expr)} {vs : List Expr} {x y : List Nat} {kv : List (List Nat × List Nat)} : Ev P n X env h k (.str x) → Ev P n X env h v (.str y) → Prs P n X env h ks vs kv → Prs P n X env h (some k :: ks) (v :: vs) ((x, y) :: kv)
theorem Prs.run {ks : List (Option Expr)} {es : List Expr} {kv : List (List Nat × List Nat)} (x : Prs P n X env h ks es kv) : ∀ {A : Around} {s : Shared} {Q : List (Value × Value) → Shared → Prop} {E : Value → Shared → Prop}, Room n A → At X h s →
    (∀ vs kvs h' tk, Sub s.heap h' → At X h { s with heap := h', toks := tk } → Carries (strKind P.prog P.w) vs kvs → KV kvs kv → Q vs { s with heap := h', toks := tk }) →
    wpAny (model P.prog P.w) A (evalPairs (pairTrees ks es env pos)) Q E s := by
  induction x with
  | nil => intro A s Q E rm a ret; exact pairTrees_nil_walk (ret [] [] s.heap s.toks Sub.refl a trivial .nil)
  | @cons k v ks vs x y kv hk hv xs ih =>
    intro A s Q E rm a ret
    refine pairTrees_cons_walk (hk.run rm a fun kv' h' tk k a' r => hv.run rm a' fun v' h'' tk' k' a'' r' => ih rm a'' fun vs' kvs h3 tk3 k3 a3 C K => ?_)
    obtain ⟨t, rfl⟩ := r
    obtain ⟨u, rfl⟩ := r'
    exact ret _ ((Sx x, .str (Sx y) u) :: kvs) h3 tk3 (k.trans (k'.trans k3)) a3 ⟨strKind_is _ _ _ _, rfl, C⟩ (.cons x y u K)
theorem KV.keys {kvs : List (Str × Value)} {kv : List (List Nat × List Nat)} (K : KV kvs kv) : kvs.map (·.1) = (kv.map (·.1)).map Sx := by
  induction K with
  | nil => rfl
  | cons x y t r ih => simp [ih]
theorem nodup_sx {l : List (List Nat)} (h : l.Nodup) : (l.map Sx).Nodup := by
  induction l with
  | nil => exact List.nodup_nil
  | cons a r ih =>
    rw [List.map_cons, List.nodup_cons] at *
    refine ⟨fun hm => ?_, ih h.2⟩
    obtain ⟨b, hb, e⟩ := List.mem_map.mp hm
    exact h.1 (sx_inj e ▸ hb)
theorem big_of {W : Heap} {m : Str → Option Value} (g : W.Ns mainGlobals m) {h : Heap} (k : Sub W h) : (h.objs.size == sysModules) = false := by
  obtain ⟨o, _, _, ho, _⟩ := g
  have := Heap.lt_size (k _ _ ho)
  rw [beq_eq_false_iff_ne]
  show h.objs.size ≠ 1
  have : 3 < h.objs.size := this
  omega
/-- a display of texts by texts, as a new thing -/
theorem dict_walk (G : P.Good) {keys : List (Option Expr)} {values : List Expr} {kv : List (List Nat × List Nat)} (x : Prs P n X env h keys values kv) (hn : (kv.map (·.1)).Nodup) (kW : Sub P.W h)
    (hall : keys.all (·.isSome) = true) (hl : keys.length = values.length) (h0 : keys ≠ []) (hlen : keys.length ≤ 15) {A : Around} {s : Shared} {Q E : Value → Shared → Prop} (rm : Room n A) (a : At X h s)
    (ret : ∀ b kvs h' tk, Sub s.heap h' → s.heap.get? b = none → ¬ X b → s.toks ≤ tk → (b == sysModules) = false → h'.DictOf (strKind P.prog P.w) b kvs → KV kvs kv → Q (.ref b) { s with heap := h', toks := tk }) :
    wpAny (model P.prog P.w) A (eval (.Dict keys values pos) env) Q E s := by
  refine wpAny_Dict_walk (knd := strKind P.prog P.w) hall hl h0 hlen ?_
  have a1 : At X h { s with heap := s.heap.push { cls := .type "dict", data := .dict #[] } } := a.step (Sub.push _) (Nat.le_refl _)
  refine wpAny_with_toks (Nat.le_refl _) (x.run rm a1 fun vs kvs h' tk k a' C K ht => ?_)
  have hD : h'.DictOf (strKind P.prog P.w) s.heap.objs.size [] := by
    obtain ⟨o, ho, hd⟩ := Heap.dictOf_iff.mp (Heap.DictOf.new (knd := strKind P.prog P.w) s.heap)
    exact Heap.dictOf_iff.mpr ⟨o, k _ _ ho, hd⟩
  refine ⟨kvs, C, hD, fun h'' hm hs => ?_⟩
  rw [merged_nil_of_nodup _ (by rw [K.keys]; exact nodup_sx hn)] at hm
  refine ret s.heap.objs.size kvs h'' _ (fun b o e => (hs.2 b (Nat.ne_of_lt (Heap.lt_size e))).trans (k _ _ (Sub.push _ _ _ e))) (one_fresh Sub.refl (Nat.le_refl _)) a.new (Nat.le_trans ht (Nat.le_add_right _ _)) (big_of G.g (kW.trans a.sub)) hm K
theorem ev_dict (G : P.Good) {keys : List (Option Expr)} {values : List Expr} {kv : List (List Nat × List Nat)} (x : Prs P n X env h keys values kv) (hn : (kv.map (·.1)).Nodup) (kW : Sub P.W h)
    (hall : keys.all (·.isSome) = true := by kernel_rfl) (hl : keys.length = values.length := by kernel_rfl) (h0 : keys ≠ [] := by exact List.cons_ne_nil _ _) (hlen : keys.length ≤ 15 := by decide +kernel) : Ev P n X env h (.Dict keys values pos) (.dict kv) := fun A s Q E rm a ret =>
  dict_walk G x hn kW hall hl h0 hlen rm a fun b kvs h' tk k _ nx _ hb hD K => ret _ h' tk k ⟨b, _, rfl, nx, hb, hD.mapOf, K.look⟩

/-- .get of a dictionary of texts -/
theorem ev_dget {kv : List (List Nat × List Nat)} {x y : List Nat} {e₁ e₂ : Expr} {apos : Pos} (ho : Ev P n X env h l (.dict kv)) (h1 : Ev P n X env h e₁ (.str x)) (h2 : Ev P n X env h e₂ (.str y))
    (hbase : attributeBase l "get" env (eval l env) = eval l env := by kernel_rfl) (hs : backTo pos (starEach [e₁, e₂] env) = [e₁, e₂].map fun e => (false, eval e env) := by kernel_rfl) (hline : (apos.endLine == pos.line) = true := by kernel_rfl) :
    Ev P n X env h (.Call (.Attribute l "get" apos) [e₁, e₂] [] pos) (.str ((kv.lookup x).getD y)) := fun A s Q E rm a ret => by
  refine wpAny_Call_method_lateS hbase ?_ hline (ho.run rm a fun v h' tk k a' r => ?_)
  · rw [hs]; rfl
  · obtain ⟨b, m, rfl, nx, hsm, hM, hK⟩ := r
    refine ⟨"dict", "dict.get", PySem.F.plainAttrs_dict, PySem.F.slot_dict_get, PySem.F.type_dict_get, hM.typeIs, hM.noDict, ?_⟩
    rw [hs]
    refine callWith_builtin rfl (evalArgs_plain ((Evs.cons h1 (.cons h2 .nil)).run rm a' fun vs h'' tk' k' a'' r' => ?_))
    obtain ⟨v, w, rfl, ⟨t, rfl⟩, ⟨u, rfl⟩⟩ := r'.two
    have hM' := mapOf_at hM (fun o e => k' _ _ e)
    refine call_meetsIn PySem.F.slot_dict_get hM'.typeIs PySem.F.entry_dict_get (PySem.F.args_dict_get_3 _ _ _) (meets_dict_get_default (strKind P.prog P.w) b (strKind_is P.prog P.w (Sx x) t) hsm (.str (Sx y) u)) ⟨_, hM', ?_⟩
    have hr := hK x
    cases q : kv.lookup x with
    | none => rw [hr.1 q]; exact ret _ _ _ (k.trans k') ⟨u, by rw [q]; rfl⟩
    | some z => obtain ⟨t', e⟩ := hr.2 z q; rw [e]; exact ret _ _ _ (k.trans k') ⟨t', by rw [q]; rfl⟩
end
end
section
section
variable {P : Cx} {n : Nat} {X : XS} {B : Heap} {env : Env} {Γ Γ' : Gam} {O O' : Own} {s : Shared} {R R₁ : Oc → Prop} {rest body orelse : List Stmt} {e : Expr} {pos : Pos} {d : D}

/-- the last item of a list of the frame's own -/
theorem es_own_last {x : Str} {p : Pos} {i : Expr} {a : Addr} {ds : List D} {d : D} {k : Int} (hx : Γ.lookup x = some (.val (.ref a))) (hm : (a, .list ds) ∈ O) (hl : ds.getLast? = some d) (nd : NoRef d) (hz : ds.length ≤ 1000000) (F : Fe env)
    (hr : Es P n X B env Γ O i (.int k)) (hk : k = -1) (hd : (x == ("__debug__" : Str)) = false := by decide +kernel)
    (hs : ∀ o j, subscripted i false o j = operate [o, j] (getItem o j) := by intro _ _; kernel_rfl) : Es P n X B env Γ O (.Subscript (.Name x p) i pos) d := fun s st A s' Q E rm at0 ret => by
  refine Subscript_ (Tv.run (ev_name (n := n) F (st.vr hx) hd) rm at0 fun w h' tk k1 a' r₁ => Tv.run (hr s st) rm a' fun w' h'' tk' k2 a'' r₂ => ?_)
  rw [show w = .ref a from r₁]
  obtain ⟨u, rfl⟩ := r₂
  subst hk
  obtain ⟨_, _, _, vs, hP, hR⟩ := st.own a _ hm
  have hne : ds ≠ [] := by intro e; subst e; cases hl
  have hpos : 0 < ds.length := List.length_pos_iff.mpr hne
  have hsz : vs.size = ds.length := by simpa using hR.length
  obtain ⟨v', hv, hd'⟩ := hR.get (i := ds.length - 1) (d := d) (by rw [← hl, List.getLast?_eq_getElem?])
  have hL' : h''.IsList a vs := isList_at hP.isList (fun o e => a''.sub _ _ e)
  exact tail_any hL'.typeIs slot_list_getitem.lookup (wpAny_getItem_list_neg hL' (by omega) (by omega) (by omega) (by rw [show ((-1 : Int) + (vs.size : Int)).toNat = ds.length - 1 by omega]; simpa using hv) (ret _ _ _ (k1.trans k2) (nd.any hd'))) (hs _ _)

/-- an own thing within another: shut -/
theorem St.seal {a r : Addr} {d : D} {ds : List D} (st : St P X B env Γ ((a, d) :: (r, .list (ds ++ [.val (.ref a)])) :: O) s) : St P X B env Γ ((r, .list (ds ++ [d])) :: O) s := by
  obtain ⟨st0, r0⟩ := st.drop
  have mm : ∀ b, Mut X env ((r, .list (ds ++ [.val (.ref a)])) :: O) b ↔ Mut X env ((r, .list (ds ++ [d])) :: O) b := fun b =>
    ⟨fun y => (mut_cons y).elim (fun q => .inr (.inr (.inr ⟨.list (ds ++ [d]), q ▸ .head _⟩))) mut_tail, fun y => (mut_cons y).elim (fun q => .inr (.inr (.inr ⟨.list (ds ++ [.val (.ref a)]), q ▸ .head _⟩))) mut_tail⟩
  have kk : ∀ b o, ¬ Mut X env ((r, .list (ds ++ [.val (.ref a)])) :: O) b → s.heap.get? b = some o → ¬ Mut X env ((r, .list (ds ++ [d])) :: O) b ∧ s.heap.get? b = some o := fun b o nb e => ⟨fun y => nb ((mm b).mpr y), e⟩
  refine ⟨st0.W, st0.x0, st0.tp, st0.sub, st0.nl, st0.nc, ?_, fun b e hm => ?_, st0.apart⟩
  · obtain ⟨m, cm, F, C, V⟩ := st0.fr
    exact ⟨m, cm, F, C, fun x e q => let ⟨v, hv, r⟩ := V x e q; ⟨v, hv, r.mono kk⟩⟩
  · rcases List.mem_cons.mp hm with q | hm
    · cases q
      obtain ⟨h1, h2, h3, vs, hP, hR⟩ := st0.own r _ (.head _)
      refine ⟨h1, h2, h3, vs, hP, ?_⟩
      have hR' := hR.mono kk
      have hz := hR'.length
      have h1 := hR'.take ds.length
      have h2 := hR'.drop ds.length
      rw [List.take_left] at h1
      rw [List.drop_left] at h2
      obtain ⟨v, e1, e2⟩ := h2.one
      rw [← List.take_append_drop ds.length vs.toList, e1]
      rw [show v = .ref a from e2]
      exact h1.append ⟨_, [], rfl, r0.mono kk, rfl⟩
    · obtain ⟨h1, h2, h3, h4⟩ := st0.own b e (.tail _ hm)
      exact ⟨h1, h2, h3, h4.mono kk fun o q => q⟩

/-- append a new empty list of the frame's own -/
theorem tr_app_new {x : Str} {p lp : Pos} {r : Addr} {ds : List D} {apos cpos : Pos} (hx : Γ.lookup x = some (.val (.ref r))) (F : Fe env)
    (next : ∀ b, Tr P n X B env Γ ((b, .list []) :: (r, .list (ds ++ [.val (.ref b)])) :: O) rest R) (hz : ds.length ≤ 1000000) (hd : (x == ("__debug__" : Str)) = false := by decide +kernel)
    (hi : interactive env = false := by kernel_rfl) (hs : swapsWith (.Call (.Attribute (.Name x p) "append" apos) [.List [] lp] [] cpos) none pos.line env = pure false := by kernel_rfl)
    (hbase : attributeBase (.Name x p) "append" env (eval (.Name x p) env) = eval (.Name x p) env := by kernel_rfl)
    (hfew : ((backTo cpos (starEach [.List [] lp] env)).all (fun x => !x.1) && (backToKw cpos (keywordEach [] env)).all (fun x => x.1.isSome)
      && decide (([.List [] lp] : List Expr).length + ([] : List Keyword).length + (if ([] : List Keyword).isEmpty then 0 else 1) < 30)) = true := by kernel_rfl)
    (hline : (apos.endLine == cpos.line) = true := by kernel_rfl) (htrees : backTo cpos (starEach [.List [] lp] env) = [(false, eval (.List [] lp) env)] := by kernel_rfl)
    (he : backTo lp (starEach [] env) = [] := by kernel_rfl) :
    Tr P n X B env Γ ((r, .list ds) :: O) (.Expr (.Call (.Attribute (.Name x p) "append" apos) [.List [] lp] [] cpos) pos :: rest) R := fun A s Q E rm st ret => by
  have ho : Es P n X B env Γ ((r, .list ds) :: O) (.Name x p) (.val (.ref r)) := fun s st => ev_name F (st.vr hx) hd
  refine wpAny_execs_cons (wpAny_Expr (wpAny_Call_append hbase hfew hline htrees (ho.run st rm fun v h' tk k st' r₁ => ?_)) hi hs)
  rw [show v = .ref r from r₁]
  obtain ⟨_, _, _, vs, hP, hR⟩ := st'.own r _ (.head _)
  refine ⟨r, vs, rfl, hP, List_ ?_⟩
  rw [he]
  refine spliced_nil (wpAny_newObj_type ?_ (Nat.zero_le _))
  have st2 : St P X B env Γ ((h'.objs.size, .list []) :: (r, .list ds) :: O) { s with heap := h'.push { cls := .type "list", data := .seq #[] }, toks := tk } :=
    st'.take (Sub.push _) st'.tp (one_fresh Sub.refl (Nat.le_refl _)) ⟨#[], ⟨_, _, Heap.get?_push_size _ rfl, rfl, rfl, rfl⟩, rfl⟩
  have st2 := st2.flip
  obtain ⟨_, _, _, vs2, hP2, hR2⟩ := st2.own r _ (.head _)
  have hz2 : vs2.size = ds.length := by simpa using hR2.length
  have hvv : vs2 = vs := by
    have q1 := hP2.isList; have q2 := hP.isList
    obtain ⟨o1, g1, _, _, e1⟩ := q1
    obtain ⟨o2, g2, _, _, e2⟩ := q2
    have g3 : (h'.push { cls := .type "list", data := .seq #[] }).get? r = some o2 := Sub.push _ _ _ g2
    rw [show ({ s with heap := h'.push { cls := .type "list", data := .seq #[] }, toks := tk } : Shared).heap.get? r = some o2 from g3] at g1
    have g4 := Option.some.inj g1
    rw [← g4, e2] at e1
    injection e1 with e1
    exact e1.symm
  subst hvv
  refine list_append_plainL hP2 (fun h3 hP3 hs3 => ?_) (by rw [hz2, sizeLine_eq]; omega)
  have st3 := st2.change (d' := .list (ds ++ [.val (.ref h'.objs.size)])) (h' := h3) (tk := tk) hs3 st2.tp ⟨vs2.push (.ref h'.objs.size), hP3, ?_⟩
  · exact next _ A _ Q E rm st3.flip ret
  · have kk : ∀ b o, ¬ Mut X env ((r, .list ds) :: (h'.objs.size, .list []) :: O) b → (h'.push { cls := .type "list", data := .seq #[] }).get? b = some o → ¬ Mut X env ((r, .list (ds ++ [.val (.ref h'.objs.size)])) :: (h'.objs.size, .list []) :: O) b ∧ h3.get? b = some o := fun b o nb e => by
      have nba : b ≠ r := fun q => nb (.inr (.inr (.inr ⟨.list ds, by rw [q]; exact List.Mem.head _⟩)))
      exact ⟨fun y => (mut_cons y).elim nba fun y => nb (mut_tail y), (hs3.2 b nba).trans e⟩
    rw [Array.toList_push]
    exact Rds.append (hR2.mono kk) ⟨_, [], rfl, rfl, rfl⟩

/-- a, b, c, d = (.., [[]], .., ..) -/
theorem tr_start {elts : List Expr} {e₁ e₃ e₄ : Expr} {x₁ x₂ x₃ x₄ : Str} {d₁ d₃ d₄ : D} {k k2 : Nat} {tpos q₁ q₂ q₃ : Pos} (h1 : Es P n X B env Γ O e₁ d₁) (n1 : NoRef d₁)
    (h3 : ∀ O', Es P n X B env Γ O' e₃ d₃) (n3 : NoRef d₃) (h4 : ∀ O', Es P n X B env Γ O' e₄ d₄) (n4 : NoRef d₄) (hf : env.scope.kind = .function)
    (S : ∀ v, Stor env ((assignEach elts env).map (·.2)) [(x₁, d₁), (x₂, .val v), (x₃, d₃), (x₄, d₄)])
    (next : ∀ r a, Tr P n X B env ((x₄, d₄) :: (x₃, d₃) :: (x₂, .val (.ref r)) :: (x₁, d₁) :: Γ) ((a, .list []) :: (r, .list [.val (.ref a)]) :: O) rest R)
    (hstar : (assignEach elts env).findIdx? (·.1) = none := by kernel_rfl) (hl : (assignEach elts env).length = 4 := by kernel_rfl)
    (hs : swapsWithSole [.Tuple elts k tpos] (.Tuple [e₁, .List [.List [] q₁] q₂, e₃, e₄] k2 q₃) pos.line env = pure false := by kernel_rfl)
    (hw : swappedStores [.Tuple elts k tpos] (.Tuple [e₁, .List [.List [] q₁] q₂, e₃, e₄] k2 q₃) env = pure none := by kernel_rfl)
    (b1 : backTo q₃ (starEach [e₁, .List [.List [] q₁] q₂, e₃, e₄] env) = [e₁, .List [.List [] q₁] q₂, e₃, e₄].map fun e => (false, eval e env) := by kernel_rfl)
    (b2 : backTo q₂ (starEach [.List [] q₁] env) = [(false, eval (.List [] q₁) env)] := by kernel_rfl) (b3 : backTo q₁ (starEach [] env) = [] := by kernel_rfl) :
    Tr P n X B env Γ O (.Assign [.Tuple elts k tpos] (.Tuple [e₁, .List [.List [] q₁] q₂, e₃, e₄] k2 q₃) pos :: rest) R := fun A s Q E rm st ret => by
  refine wpAny_execs_cons (Assign_Tuple (Tuple_ ?_) hs hw)
  rw [b1]
  refine spliced_cons (h1.run st rm fun v₁ h₁ tk₁ k₁ st₁ r₁ => spliced_cons (List_ ?_))
  rw [b2]
  refine spliced_cons (List_ ?_)
  rw [b3]
  refine spliced_nil (wpAny_newObj_type (spliced_nil (wpAny_newObj_type ?_ (Nat.le_of_ble_eq_true rfl))) (Nat.zero_le _))
  have st₂ : St P X B env Γ ((h₁.objs.size, .list []) :: O) { s with heap := h₁.push { cls := .type "list", data := .seq #[] }, toks := tk₁ } :=
    st₁.take (Sub.push _) st₁.tp (one_fresh Sub.refl (Nat.le_refl _)) ⟨#[], ⟨_, _, Heap.get?_push_size _ rfl, rfl, rfl, rfl⟩, rfl⟩
  have st₃ : St P X B env Γ (((h₁.push { cls := .type "list", data := .seq #[] }).objs.size, .list [.val (.ref h₁.objs.size)]) :: (h₁.objs.size, .list []) :: O) { s with heap := (h₁.push { cls := .type "list", data := .seq #[] }).push { cls := .type "list", data := .seq #[.ref h₁.objs.size] }, toks := tk₁ } :=
    st₂.take (Sub.push _) st₂.tp (one_fresh Sub.refl (Nat.le_refl _)) ⟨#[.ref h₁.objs.size], ⟨_, _, Heap.get?_push_size _ rfl, rfl, rfl, rfl⟩, ⟨_, [], rfl, rfl, rfl⟩⟩
  have st₄ := st₃.flip
  refine spliced_cons ((h3 _).run st₄ rm fun v₃ h₃ tk₃ k₃ st₅ r₃ => spliced_cons ((h4 _).run st₅ rm fun v₄ h₄ tk₄ k₄ st₆ r₄ => spliced_nil (wpAny_newObj_type ?_ (Nat.le_of_ble_eq_true rfl))))
  have st₇ := st₆.keep (h' := h₄.push { cls := .type "tuple", data := .seq #[v₁, .ref (h₁.push { cls := .type "list", data := .seq #[] }).objs.size, v₃, v₄] }) (tk := tk₄) (Sub.push _) st₆.tp
  refine assign_Tuple_tuple rm.1 (items := #[v₁, .ref (h₁.push { cls := .type "list", data := .seq #[] }).objs.size, v₃, v₄]) ⟨_, Heap.get?_push_size _ rfl, rfl, _, rfl⟩ (by rw [hl]; rfl) hstar fun h'' he => ?_
  have k' : Sub (h₄.push { cls := .type "tuple", data := .seq #[v₁, .ref (h₁.push { cls := .type "list", data := .seq #[] }).objs.size, v₃, v₄] }) h'' := fun b o e => he b o (Nat.ne_of_lt (Heap.lt_size e)) e
  refine (S _).run hf (st₇.keep (tk := tk₄) k' st₇.tp) ⟨v₁, _, rfl, n1.any r₁, _, _, rfl, rfl, v₃, _, rfl, n3.any r₃, v₄, _, rfl, n4.any r₄, rfl⟩ fun h3 tk3 st8 => next _ _ A _ Q E rm st8 ret
end
end
section
section
variable {prog : Program} {w : World} {A : Around} {E : Value → Shared → Prop} {s : Shared} {d : Addr} {c : Nat} {f : Int → Option Value}
open Builtin Builtin.Str

theorem look_hit {x : Str} {t : Tok} {Q : Mapped → Shared → Prop} (hm : s.heap.MapOf (intKind prog w) d f) (hf : f c = some (.str x t)) (h : ∀ h' tk, Sub s.heap h' → Q (.text x) { s with heap := h', toks := tk }) :
    wpAny (model prog w) A (tableLookup (.ref d) c) Q E s := by
  unfold tableLookup
  refine wpAny_bind (wpAny_attempt ?_)
  refine wpAny_bind (wpAny_mkInt ?_)
  refine wpAny_getItem_of (intKind_is prog w _ _) hm hf ?_
  exact wpAny_bind (wpAny_pure (wpAny_bind (wpAny_pure (wpAny_pure (h _ _ Sub.refl)))))
theorem look_miss {Q : Mapped → Shared → Prop} (hA : A.handled = none) (hd : (d == sysModules) = false) (hm : s.heap.MapOf (intKind prog w) d f) (hf : f c = none) (h : ∀ h' tk, Sub s.heap h' → Q .keep { s with heap := h', toks := tk }) :
    wpAny (model prog w) A (tableLookup (.ref d) c) Q E s := by
  unfold tableLookup
  refine wpAny_bind (wpAny_attempt ?_)
  refine wpAny_bind (wpAny_mkInt ?_)
  refine wpAny_getItem_missing_of (intKind_is prog w _ _) hd hA hm hf fun h' e ne => ?_
  obtain ⟨ob, t, ho, hc, hdd⟩ := ne.there
  refine wpAny_bind (wpAny_isInstance (T := "KeyError") (b := true) ⟨ob, ho, hc⟩ (by rfl) ?_)
  refine wpAny_bind (wpAny_rule ?_)
  exact wpAny_pure (h _ _ ne.keeps)
end
section
variable {prog : Program} {w : World} {A : Around} {E : Value → Shared → Prop} {s : Shared} {d : Addr} {c : Nat} {f : Int → Option Value}
open Builtin Builtin.Str

theorem map_sub {h h' : Heap} (hm : h.MapOf (intKind prog w) d f) (k : Sub h h') : h'.MapOf (intKind prog w) d f := let ⟨o, es, ep, ho, r⟩ := hm; ⟨o, es, ep, k _ _ ho, r⟩
theorem translate_hit {x : Str} {t u : Tok} {Q : Value → Shared → Prop} (hA : A.handled = none) (hm : s.heap.MapOf (intKind prog w) d f) (hf : f c = some (.str x u))
    (hx : x.length = 2) (h : ∀ t' h' tk, Sub s.heap h' → Q (.str x t') { s with heap := h', toks := tk }) :
    wpAny (model prog w) A (call (.builtin "str.translate") [.str (Sx [c]) t, .ref d]) Q E s := by
  refine wpAny_call (codeAny_call_builtin PySem.F.slot_str_translate.plain PySem.F.entry_str_translate (PySem.F.slot_str_translate.check _ _ _ _ _ _ _ _ (typeIs_str _ _ _) (PySem.F.args_str_translate_2 _ _) ?_))
  show wpAny _ _ _ _ _ _
  unfold Builtin.«str.translate»
  refine wpAny_bind (wpAny_of_eq (a := (.str (Sx [c]) t, Sx [c], .ref d)) rfl ?_)
  have hlen : ((Sx [c]).length == 0) = false := rfl
  dsimp only
  rw [hlen]
  rw [if_neg Bool.false_ne_true]
  generalize (#[c].all fun x => decide (x < 128)) = fast
  rw [← Array.forIn_toList, show #[c].toList = [c] from rfl, List.forIn_cons]
  dsimp only
  rw [if_neg (show ¬ (tooLong 0 = true) by decide)]
  have hf1 : (x.length == 1 && x.cps.all fun x => decide (x < 128)) = false := by rw [hx]; rfl
  have hfold : (⟨([x] : List Str).reverse.foldl (fun acc p => acc ++ p.cps) #[]⟩ : Str) = x := by cases x; simp
  cases fast with
  | false =>
    rw [if_neg Bool.false_ne_true, if_neg Bool.false_ne_true]
    refine wpAny_bind (wpAny_bind (wpAny_bind (look_hit hm hf fun h1 tk1 k1 => wpAny_pure ?_)))
    dsimp only
    rw [List.forIn_nil]
    refine wpAny_pure ?_
    dsimp only
    rw [hfold, hx, if_neg (show ¬ (tooLong (0 + 2) = true) by decide)]
    exact wpAny_bind (wpAny_mkStr (wpAny_pure (h _ _ _ k1)) (by rw [hx]; decide))
  | true => 
    rw [if_pos rfl]
    refine wpAny_bind (wpAny_bind (wpAny_bind (look_hit hm hf fun h1 tk1 k1 => ?_)))
    dsimp only
    rw [hf1, if_neg Bool.false_ne_true]
    refine wpAny_bind (wpAny_pure ?_)
    refine wpAny_bind (wpAny_rule ?_)
    rw [if_neg Bool.false_ne_true]
    refine wpAny_bind (look_hit (map_sub hm k1) hf fun h2 tk2 k2 => wpAny_pure ?_)
    dsimp only
    rw [List.forIn_nil]
    refine wpAny_pure ?_
    dsimp only
    rw [hfold, hx, if_neg (show ¬ (tooLong (0 + 2) = true) by decide)]
    exact wpAny_bind (wpAny_mkStr (wpAny_pure (h _ _ _ (k1.trans k2))) (by rw [hx]; decide))
theorem translate_miss {t : Tok} {Q : Value → Shared → Prop} (hA : A.handled = none) (hm : s.heap.MapOf (intKind prog w) d f) (hd : (d == sysModules) = false) (hf : f c = none)
    (h : ∀ t' h' tk, Sub s.heap h' → Q (.str (Sx [c]) t') { s with heap := h', toks := tk }) :
    wpAny (model prog w) A (call (.builtin "str.translate") [.str (Sx [c]) t, .ref d]) Q E s := by
  refine wpAny_call (codeAny_call_builtin PySem.F.slot_str_translate.plain PySem.F.entry_str_translate (PySem.F.slot_str_translate.check _ _ _ _ _ _ _ _ (typeIs_str _ _ _) (PySem.F.args_str_translate_2 _ _) ?_))
  show wpAny _ _ _ _ _ _
  unfold Builtin.«str.translate»
  refine wpAny_bind (wpAny_of_eq (a := (.str (Sx [c]) t, Sx [c], .ref d)) rfl ?_)
  have hlen : ((Sx [c]).length == 0) = false := rfl
  dsimp only
  rw [hlen]
  rw [if_neg Bool.false_ne_true]
  generalize (#[c].all fun x => decide (x < 128)) = fast
  rw [← Array.forIn_toList, show #[c].toList = [c] from rfl, List.forIn_cons]
  dsimp only
  rw [if_neg (show ¬ (tooLong 0 = true) by decide)]
  cases fast with
  | false =>
    rw [if_neg Bool.false_ne_true, if_neg Bool.false_ne_true]
    refine wpAny_bind (wpAny_bind (wpAny_bind (look_miss hA hd hm hf fun h1 tk1 k1 => wpAny_pure ?_)))
    dsimp only
    rw [List.forIn_nil]
    refine wpAny_pure ?_
    dsimp only
    rw [if_neg (show ¬ (tooLong (0 + 1) = true) by decide)]
    exact wpAny_bind (wpAny_mkStr (wpAny_pure (h _ _ _ k1)) (Nat.le_of_ble_eq_true rfl))
  | true => 
    rw [if_pos rfl]
    refine wpAny_bind (wpAny_bind (wpAny_bind (look_miss hA hd hm hf fun h1 tk1 k1 => ?_)))
    dsimp only
    refine wpAny_bind (wpAny_pure (wpAny_pure ?_))
    dsimp only
    rw [List.forIn_nil]
    refine wpAny_pure ?_
    dsimp only
    rw [if_neg (show ¬ (tooLong (0 + 1) = true) by decide)]
    exact wpAny_bind (wpAny_mkStr (wpAny_pure (h _ _ _ k1)) (Nat.le_of_ble_eq_true rfl))
end
end
section
theorem slot_md : Slot "method_descriptor" "__get__" "method_descriptor.__get__" :=
  .of (owner := "method_descriptor") (n := "__get__") (by rw [typeLookup_type, builtinLookup_eq_fast]; kernel_rfl) (by decide +kernel) (by decide +kernel) (by decide +kernel)
    (by first | exact .inl (by decide +kernel) | exact .inr (by decide +kernel)) (by rw [isSubtype_type]; kernel_rfl)
theorem entry_md : entryFor table "method_descriptor.__get__" = some Builtin.«method_descriptor.__get__» := entryFor_of_tree (by kernel_rfl)
theorem args_md (a b c : Value) : argsOk "method_descriptor.__get__" ⟨[a, b, c], []⟩ := by unfold argsOk; kernel_rfl
theorem lk_append : typeLookup (.type "list") "append" = pure (some (.builtin "list.append")) := by rw [typeLookup_type, builtinLookup_eq_fast]; kernel_rfl
theorem type_append : typeOf (.builtin "list.append") = pure (.type "method_descriptor") := by show builtinType _ = _; rw [builtinType_eq_fast]; kernel_rfl
theorem md_set : typeLookup (.type "method_descriptor") "__set__" = pure none := by rw [typeLookup_type, builtinLookup_eq_fast]; kernel_rfl
theorem md_delete : typeLookup (.type "method_descriptor") "__delete__" = pure none := by rw [typeLookup_type, builtinLookup_eq_fast]; kernel_rfl
theorem sub_ll : isSubtype (.type "list") (.type (".".intercalate ("list.append".cutAt '.').dropLast)) = pure true := by
  rw [show ".".intercalate ("list.append".cutAt '.').dropLast = "list" by decide +kernel, isSubtype_type]; kernel_rfl
section
variable {prog : Program} {w : World} {A : Around} {E : Value → Shared → Prop} {h : Heap} {g : Array GenState} {d : Drawn} {t : Nat} {os : OsState} {a : Addr} {o : Obj}
theorem md_get {R : Result → Shared → Prop} (hx : h.get? a = some o) (hc : o.cls = .type "list") (hq : R (.ok (.ret (.ref h.objs.size))) ⟨h.push (bound a), g, d, t, os⟩) :
    codeAny (model prog w) A (.call (.builtin "method_descriptor.__get__") ⟨[.builtin "list.append", .ref a, .type "list"], []⟩) R ⟨h, g, d, t, os⟩ := by
  have hT : (⟨h, g, d, t, os⟩ : Shared).TypeIs (.ref a) "list" := ⟨_, hx, hc⟩
  have hT5 : (⟨h, g, d, t, os⟩ : Shared).TypeIs (.builtin "list.append") "method_descriptor" := type_append
  have f8 := sub_ll
  refine codeAny_call_builtin slot_md.plain entry_md (slot_md.check _ _ _ _ _ _ _ _ hT5 (args_md _ _ _) ?_)
  repeat (any_goals (first | assumption | wp_step))

theorem append_entry {tk : Tok} {Q : Fin → Shared → Prop} {xs : Array Value} {k : Nat} (hx : h.get? a = some o) (hc : o.cls = .type "list") (hdat : o.data = .seq xs k) (hd : o.dict = none) (hq : Q (.done (.ret (.ref h.objs.size))) ⟨h.push (bound a), g, d, t, os⟩) :
    wpAny (model prog w) A (Builtin.«object.__getattribute__» ⟨[.ref a, .str "append" tk], []⟩) Q E ⟨h, g, d, t, os⟩ := by
  have hT : (⟨h, g, d, t, os⟩ : Shared).TypeIs (.ref a) "list" := ⟨_, hx, hc⟩
  have hT5 : (⟨h, g, d, t, os⟩ : Shared).TypeIs (.builtin "list.append") "method_descriptor" := type_append
  obtain ⟨c, dct, dat, sl⟩ := o
  simp only at hc hdat hd
  subst hc hdat hd
  have f4 := lk_append
  have f5 := type_append
  have f6 := slot_md.lookup
  have f7 := md_set
  have f8 := md_delete
  unfold Builtin.«object.__getattribute__»
  repeat (any_goals (first | assumption | wp_step))
  refine md_get hx rfl ?_
  repeat (any_goals (first | assumption | wp_step))

theorem append_call {tk : Tok} {R : Result → Shared → Prop} {xs : Array Value} {k : Nat} (hx : h.get? a = some o) (hc : o.cls = .type "list") (hdat : o.data = .seq xs k) (hd : o.dict = none) (hq : R (.ok (.ret (.ref h.objs.size))) ⟨h.push (bound a), g, d, t, os⟩) :
    codeAny (model prog w) A (.call (.builtin "list.__getattribute__") ⟨[.ref a, .str "append" tk], []⟩) R ⟨h, g, d, t, os⟩ :=
  codeAny_call_builtin F.slot_list_getattribute.plain am_entry_list_getattribute (F.slot_list_getattribute.check _ _ _ _ _ _ _ _ (show (⟨h, g, d, t, os⟩ : Shared).TypeIs (.ref a) "list" from ⟨_, hx, hc⟩) (F.args_list_getattribute_2 _ _) (append_entry hx hc hdat hd hq))

theorem get_append {Q : Value → Shared → Prop} {xs : Array Value} {k : Nat} (hx : h.get? a = some o) (hc : o.cls = .type "list") (hdat : o.data = .seq xs k) (hd : o.dict = none) (hq : Q (.ref h.objs.size) ⟨h.push (bound a), g, d, t + 1, os⟩) :
    wpAny (model prog w) A (getAttr (.ref a) "append" true) Q E ⟨h, g, d, t, os⟩ := by
  obtain ⟨c, dct, dat, sl⟩ := o
  simp only at hc hdat hd
  subst hc hdat hd
  have hT : ∀ tk', (⟨h, g, d, tk', os⟩ : Shared).TypeIs (.ref a) "list" := fun _ => ⟨_, hx, rfl⟩
  have f3 := F.slot_list_getattribute.lookup
  have f4 := F.slot_list_getattribute.bind (.ref a)
  unfold getAttr getAttrBy
  repeat (any_goals (first | assumption | exact hT _ | wp_step))
  refine append_call hx rfl rfl rfl ?_
  repeat (any_goals (first | assumption | wp_step))
end
end
section
theorem mro_object : mroOf (.type "object") = pure [.type "object"] := by rw [mroOf_type]; kernel_rfl
theorem lookup_object_new : typeLookup (.type "object") "__new__" = pure (some (.builtin "object.__new__")) := by rw [typeLookup_type, builtinLookup_eq_fast]; kernel_rfl
theorem slot_object_init : Slot "object" "__init__" "object.__init__" :=
  .of (owner := "object") (n := "__init__") (by rw [typeLookup_type, builtinLookup_eq_fast]; kernel_rfl) (by decide +kernel) (by decide +kernel) (by decide +kernel)
    (by first | exact .inl (by decide +kernel) | exact .inr (by decide +kernel)) (by rw [isSubtype_type]; kernel_rfl)
theorem called_object : TypeCalled "object" "object.__new__" "object.__init__" :=
  ⟨by decide +kernel, by decide +kernel, ⟨_, _, mro_object⟩, madeBy_type mro_object lookup_object_new (by decide +kernel), by decide +kernel, by rw [isSubtype_type]; kernel_rfl, slot_object_init⟩
theorem entry_object_new : entryFor table "object.__new__" = some Builtin.«object.__new__» := entryFor_of_tree (by kernel_rfl)
theorem args_object_init1 (obj : Value) : argsOk "object.__init__" ⟨[obj], []⟩ := by unfold argsOk; kernel_rfl
noncomputable def objObj : Obj := { cls := .type "object", data := .plain }
theorem object_init0 {self : Value} : Meets (Builtin.«object.__init__» ⟨[self], []⟩) (fun _ R s => R (.ok (.ret .none)) s) := by
  refine Meets.of_wp fun prog w A R s hs => ?_
  exact wpAny_pure ⟨_, rfl, hs⟩
theorem object_new0 : Meets (Builtin.«object.__new__» ⟨[.type "object"], []⟩) (fun _ R s => R (.ok (.ret (.ref s.heap.objs.size))) { s with heap := s.heap.push objObj }) := by
  refine Meets.of_wp fun prog w A R s hs => ?_
  have hmade : Bind.madeHere "object.__new__" (.type "object") = pure () := by first | rfl | kernel_rfl
  have hty : isType (.type "object") = pure true := by first | rfl | kernel_rfl | (unfold isType; rw [isSubtype_type]; kernel_rfl)
  unfold Builtin.«object.__new__»
  dsimp only
  refine wpAny_bind (wpAny_of_eq hty ?_)
  rw [if_neg (by decide), if_neg (by decide +kernel)]
  refine wpAny_bind (wpAny_of_eq hmade ?_)
  rw [if_neg (by decide), if_neg (by decide +kernel)]
  refine wpAny_bind (wpAny_pure ?_)
  refine wpAny_bind (wpAny_newObj_type ?_)
  rw [if_neg (by decide +kernel)]
  exact wpAny_pure ⟨_, rfl, hs⟩
theorem call_object {prog : Program} {w : World} {A : Around} {E : Value → Shared → Prop} {s : Shared} {Q : Value → Shared → Prop} (h : Q (.ref s.heap.objs.size) { s with heap := s.heap.push objObj }) : wpAny (model prog w) A (call (.type "object") []) Q E s :=
  callType_meets called_object (by kernel_rfl) (by kernel_rfl) entry_object_new F.entry_object_init object_new0
    (Q₁ := fun obj s₁ => obj = .ref s.heap.objs.size ∧ s₁ = { s with heap := s.heap.push objObj }) ⟨rfl, rfl⟩ fun obj s₁ hq => by
      obtain ⟨rfl, rfl⟩ := hq
      exact ⟨⟨_, Heap.get?_push_size _ rfl, rfl⟩, args_object_init1 _, _, object_init0, rfl, h⟩
end
section
section
variable {P : Cx} {n : Nat} {X : XS} {env : Env} {h : Heap} {e : Expr} {pos np : Pos} {f : Str}
theorem ev_isinst_str {e' : Expr} {x : List Nat} (hf : Ev P n X env h (.Name f np) (.val (.builtin "isinstance"))) (hx : Ev P n X env h e (.str x)) (hy : Ev P n X env h e' (.val (.type "str"))) (hs : backTo pos (starEach [e, e'] env) = [e, e'].map fun e => (false, eval e env) := by kernel_rfl) :
    Ev P n X env h (.Call (.Name f np) [e, e'] [] pos) (.bool true) :=
  ev_callb hf (.cons hx (.cons hy .nil)) (fun A s vs rm a r Q E ret => by
    obtain ⟨v, w, rfl, ⟨t, rfl⟩, hw⟩ := r.two
    rw [show w = .type "str" from hw]
    exact IsiPair.str_str (ret _ _ _ Sub.refl rfl)) hs

/-- a written text around a name's -/
theorem ev_fstr {a b : Str} {x la lb : List Nat} {k1 k2 : Nat} {p1 p2 p3 : Pos} (hx : Ev P n X env h e (.str x)) (ha : a = Sx la) (hb : b = Sx lb) (hl : la.length + x.length + lb.length ≤ 100000) :
    Ev P n X env h (.JoinedStr [.Constant (.str a) k1 p1, .FormattedValue e (-1) none p2, .Constant (.str b) k2 p3] pos) (.str (la ++ x ++ lb)) := fun A s Q E rm at0 ret => by
  refine wpAny_JoinedStr ?_
  show wpAny (model P.prog P.w) A (eval (.Constant (.str a) k1 p1) env) _ E s
  refine Constant_str ⟨a, _, rfl, ?_, ?_⟩
  · rw [show (Str.empty ++ a : Str) = Sx la by rw [ha]; show Sx [] ++ _ = _; rw [sx_cat]; rfl, sx_len, sizeLine_eq]; omega
  show wpAny (model P.prog P.w) A (eval (.FormattedValue e (-1) none p2) env) _ E _
  refine wpAny_FormattedValue_plain (hx.run rm (at0.step Sub.refl (by simp)) fun v h' tk k a' r => ?_)
  obtain ⟨t, rfl⟩ := r
  have e1 : (Str.empty ++ a : Str) = Sx la := by rw [ha]; show Sx [] ++ _ = _; rw [sx_cat]; rfl
  refine SB.field_str (fun t' tk' => ?_) (by rw [sx_len, sizeLine_eq]; omega)
  refine ⟨_, _, rfl, ?_, ?_⟩
  · rw [e1, sx_cat, sx_len, sizeLine_eq, List.length_append]; omega
  show wpAny (model P.prog P.w) A (eval (.Constant (.str b) k2 p3) env) _ E _
  have e2 : (Str.empty ++ a ++ Sx x ++ b : Str) = Sx (la ++ x ++ lb) := by rw [e1, sx_cat, hb, sx_cat]
  refine Constant_str ⟨b, _, rfl, ?_, ?_, ?_⟩
  · rw [e2, sx_len, sizeLine_eq, List.length_append, List.length_append]; omega
  · rw [e2, sx_len, sizeLine_eq, List.length_append, List.length_append]; omega
  · rw [e2]; exact ret _ h' _ k ⟨_, rfl⟩
end

section
variable {P : Cx} {n : Nat} {X : XS} {B : Heap} {env : Env} {Γ Γ' : Gam} {O O' : Own} {s : Shared} {R R₁ : Oc → Prop} {rest body orelse : List Stmt} {e : Expr} {pos : Pos} {d : D}

/-- x = object() -/
theorem tr_obj {x f : Str} {p np cpos : Pos} (hf' : Es P n X B env Γ O (.Name f np) (.val (.type "object"))) (next : ∀ a, Tr P n X B env ((x, .val (.ref a)) :: Γ) O rest R) (hf : env.scope.kind = .function := by kernel_rfl) (hk : env.kindOf x = some .local := by kernel_rfl)
    (hs : swapsWith (.Call (.Name f np) [] [] cpos) (some (.Name x p)) pos.line env = pure false := by kernel_rfl) (he : backTo cpos (starEach [] env) = [] := by kernel_rfl) :
    Tr P n X B env Γ O (.Assign [.Name x p] (.Call (.Name f np) [] [] cpos) pos :: rest) R := fun A s Q E rm st ret => by
  refine wpAny_execs_cons (wpAny_Assign_Name (wpAny_Call_NameR (hf'.run st rm fun v h' tk k st' r => ?_)) hs)
  rw [show v = .type "object" from r, he]
  refine PySem.callWith_type rfl (evalArgs_nil3 (call_object ?_))
  have st2 : St P X B env Γ O { s with heap := h'.push objObj, toks := tk } := st'.keep (Sub.push _) st'.tp
  exact st2.store (d := .val (.ref h'.objs.size)) hf (.inl hk) rfl fun h'' tk' st'' _ => next _ A _ Q E rm st'' ret

/-- the bound append of a list of the frame's own -/
theorem es_bound {x : Str} {xp apos : Pos} {a : Addr} {ds : List D} (hx : Γ.lookup x = some (.val (.ref a))) (hm : (a, .list ds) ∈ O) (F : Fe env) (hd : (x == ("__debug__" : Str)) = false := by decide +kernel) :
    Es P n X B env Γ O (.Attribute (.Name x xp) "append" apos) (.meth a) := fun s st A s' Q E rm at0 ret => by
  refine Attribute_name (Tv.run (ev_name (n := n) F (st.vr hx) hd) rm at0 fun w h' tk k1 a' r₁ => ?_)
  rw [show w = .ref a from r₁]
  obtain ⟨_, _, _, vs, ⟨o, m, ho, hc, hdn, hdat⟩, hR⟩ := st.own a _ hm
  have ho' : h'.get? a = some o := a'.sub _ _ ho
  exact get_append ho' hc hdat hdn (ret _ _ _ (k1.trans (Sub.push _)) ⟨_, rfl, a'.new, Heap.get?_push_size _ rfl⟩)
end

theorem entry_la : entryFor table "list.append" = some Builtin.«list.append» := entryFor_of_tree (by kernel_rfl)
theorem quiet_la {as : Args} : (Code.builtin "list.append" as).quiet = true := Code.quiet_builtin _ (by decide +kernel)
section
variable {prog : Program} {w : World} {M : Model} {A : Around} {E : Value → Shared → Prop} {s : Shared} {a m : Addr} {v : Value}
theorem wpAny_of_loadHead {o : Obj} {Q : Obj → Shared → Prop} (ho : s.heap.get? a = some o) (h : Q o s) : wpAny M A (loadHead a) Q E s := by
  obtain ⟨hp, g, d, t, os⟩ := s
  repeat (any_goals (first | assumption | wp_step))
theorem sig_append : Manifest.signature? "list.append" = some ⟨.oneArg, "list.append", "append", .self, [⟨"object", .posOnly, true⟩]⟩ := by kernel_rfl
theorem kind_append : builtinKind "list.append" = some .method := by kernel_rfl
theorem args_append : Bind.checkArgs "list.append" ⟨.oneArg, "list.append", "append", .self, [⟨"object", .posOnly, true⟩]⟩ ⟨[.ref a, v], []⟩ = pure () := by first | rfl | kernel_rfl
theorem check_append {o : Obj} {xs : Array Value} {k : Nat} {Q : Unit → Shared → Prop} (ho : s.heap.get? a = some o) (hc : o.cls = .type "list") (hdat : o.data = .seq xs k) (h : Q () s) : wpAny M A (checkBoundCall "list.append" ⟨[.ref a, v], []⟩) Q E s := by
  have hT : s.TypeIs (.ref a) "list" := ⟨_, ho, hc⟩
  have f1 : isSubtype (.type "list") (.type "module") = pure false := by rw [isSubtype_type]; kernel_rfl
  unfold checkBoundCall
  rw [sig_append, kind_append]
  dsimp only
  rw [if_neg (by decide)]
  refine wpAny_bind (wpAny_isInstance hT f1 ?_)
  rw [if_neg (by decide +kernel)]
  refine wpAny_bind (m := isType (.ref a)) (wpAny_bind (wpAny_of_loadHead ho (wpAny_pure ?_)))
  rw [hdat]
  dsimp only
  rw [if_neg Bool.false_ne_true]
  refine wpAny_bind (wpAny_typeOf hT ?_)
  refine wpAny_of_eq (a := ()) ?_ h
  first | rfl | kernel_rfl
theorem call_bound {its : Array Value} {Q : Value → Shared → Prop} (hm : s.heap.get? m = some (bound a)) (hl : PlainL s.heap a its) (hQ : ∀ h', PlainL h' a (its.push v) → Heap.SameBut a s.heap h' → Q .none { s with heap := h' })
    (hsz : its.size ≤ sizeLine) : wpAny (model prog w) A (call (.ref m) [v]) Q E s := by
  obtain ⟨o, k, ho, hc, hdn, hdat⟩ := id hl
  refine wpAny_call (codeAny_of_tree ?_)
  show wpAny _ A.in1 (callAny (.ref m) ⟨[v], []⟩) _ _ s
  simp only [callAny]
  refine wpAny_bind (wpAny_load hm ?_)
  simp only [bound, show (Value.type "builtin_function_or_method" == Value.type "method" || Value.type "builtin_function_or_method" == Value.type "builtin_function_or_method" || Value.type "builtin_function_or_method" == Value.type "method-wrapper") = true by decide, if_true]
  refine KFB.if_so (by decide) ?_
  refine wpAny_bind (check_append ho hc hdat ?_)
  refine wpAny_bind (wpAny_pure (wpAny_pure ?_))
  refine ⟨quiet_la, codeAny_builtin entry_la ?_⟩
  obtain ⟨n', hd'⟩ := Obj.data_mapSeq hdat (·.push v)
  show wpAny _ _ (updateSeq a (·.push v) >>= fun _ => ret .none) _ _ s
  refine wpAny_bind (wpAny_updateSeq ho hdat ?_ (by first | exact hsz | simpa using hsz))
  refine wpAny_pure ?_
  refine hQ _ ?_ (Heap.SameBut.update ..)
  refine ⟨_, n', Heap.get?_update_self _ ho (Obj.isFreed_of_seq hd'), (Obj.cls_mapSeq ..).trans hc, ?_, hd'⟩
  obtain ⟨c, d, dt, sl⟩ := o
  subst hdat
  exact hdn
end
end
section
section
variable {P : Cx} {n : Nat} {X : XS} {B : Heap} {env : Env} {Γ Γ' : Gam} {O O' : Own} {s : Shared} {R R₁ : Oc → Prop} {rest body orelse : List Stmt} {e : Expr} {pos : Pos} {d : D}
/-- add(x), where add is the bound append of the first own list -/
theorem tr_add {f : Str} {np cpos : Pos} {a : Addr} {ds : List D} (hx : Γ.lookup f = some (.meth a)) (he : Es P n X B env Γ ((a, .list ds) :: O) e d) (hz : ds.length ≤ 1000000) (next : Tr P n X B env Γ ((a, .list (ds ++ [d])) :: O) rest R) (F : Fe env)
    (hd : (f == ("__debug__" : Str)) = false := by decide +kernel) (hi : interactive env = false := by kernel_rfl) (hs : swapsWith (.Call (.Name f np) [e] [] cpos) none pos.line env = pure false := by kernel_rfl)
    (ht : backTo cpos (starEach [e] env) = [(false, eval e env)] := by kernel_rfl) :
    Tr P n X B env Γ ((a, .list ds) :: O) (.Expr (.Call (.Name f np) [e] [] cpos) pos :: rest) R := fun A s Q E rm st ret => by
  have hf : Es P n X B env Γ ((a, .list ds) :: O) (.Name f np) (.meth a) := fun s st => ev_name F (st.vr hx) hd
  refine wpAny_execs_cons (wpAny_Expr (wpAny_Call_NameR (hf.run st rm fun v h' tk k st' r => ?_)) hi hs)
  obtain ⟨m, rfl, nm, hm⟩ := r
  rw [ht]
  have call : ∀ {Q : Value → Shared → Prop} {E : Value → Shared → Prop}, (∀ v h2 tk2, Sub h' h2 → St P X B env Γ ((a, .list ds) :: O) { s with heap := h2, toks := tk2 } → Rd P (Mut X env ((a, .list ds) :: O)) h2 d v → wpAny (model P.prog P.w) A (call (.ref m) [v]) Q E { s with heap := h2, toks := tk2 }) →
      wpAny (model P.prog P.w) A (callWith cpos (.ref m) [] [(false, eval e env)] []) Q E { s with heap := h', toks := tk } := fun {Q E} hq => by
    unfold callWith
    refine wpAny_bind (wpAny_holding (evalArgs_plain (spliced_cons (he.run st' rm fun v h2 tk2 k2 st2 r2 => spliced_nil (wpAny_bind (wpAny_standAt ?_))))))
    dsimp only
    refine wpAny_bind (m := keeperOf (.ref m)) ?_
    unfold keeperOf
    refine wpAny_bind (wpAny_load (k2 _ _ hm) ?_)
    simp only [bound, show (Value.type "builtin_function_or_method" != Value.type "method") = true by decide, show (Value.type "builtin_function_or_method" == Value.type "builtin_function_or_method" || Value.type "builtin_function_or_method" == Value.type "method-wrapper") = true by decide, if_true]
    refine wpAny_pure ?_
    exact wpAny_bind (wpAny_mono (hq v h2 tk2 k2 st2 r2) (fun r s₂ hr => wpAny_bind (wpAny_holding (wpAny_point (wpAny_pure hr)))) fun _ _ x => x)
  refine call fun y h2 tk2 k2 st2 r2 => ?_
  obtain ⟨_, _, _, vs2, hP2, hR2⟩ := st2.own a _ (.head _)
  have hz2 : vs2.size = ds.length := by simpa using hR2.length
  refine call_bound (k2 _ _ hm) hP2 (fun h3 hP3 hs3 => ?_) (by rw [hz2, sizeLine_eq]; omega)
  have st3 := st2.change (d' := .list (ds ++ [d])) (h' := h3) (tk := tk2) hs3 st2.tp ⟨vs2.push y, hP3, ?_⟩
  · exact next A _ Q E rm st3 ret
  · have kk : ∀ b o, ¬ Mut X env ((a, .list ds) :: O) b → h2.get? b = some o → ¬ Mut X env ((a, .list (ds ++ [d])) :: O) b ∧ h3.get? b = some o := fun b o nb e => by
      have nba : b ≠ a := fun q => nb (.inr (.inr (.inr ⟨.list ds, by rw [q]; exact List.Mem.head _⟩)))
      exact ⟨fun y => (mut_cons y).elim nba fun y => nb (mut_tail y), (hs3.2 b nba).trans e⟩
    rw [Array.toList_push]
    exact Rds.append (hR2.mono kk) ⟨y, [], rfl, r2.mono kk, rfl⟩

/-- whether an own list holds anything -/
theorem ts_own {x : Str} {p : Pos} {a : Addr} {ds : List D} (hx : Γ.lookup x = some (.val (.ref a))) (hm : (a, .list ds) ∈ O) (hz : ds.length ≤ 1000000) (F : Fe env) (hd : (x == ("__debug__" : Str)) = false := by decide +kernel)
    (he : ∀ whole, isTrue (.Name x p) env whole = (do let v ← whole; standAt (Expr.Name x p).pos; holding [v] (truthy v)) := by intro _; kernel_rfl) : Ts P n X B env Γ O (.Name x p) (!ds.isEmpty) := fun s st A s' Q E rm at0 ret => by
  refine isTrue_plain (Tv.run (ev_name (n := n) F (st.vr hx) hd) rm at0 fun w h' tk k1 a' r₁ => ?_) (he _)
  rw [show w = .ref a from r₁]
  obtain ⟨_, _, _, vs, hP, hR⟩ := st.own a _ hm
  have hL' : h'.IsList a vs := isList_at hP.isList (fun o e => a'.sub _ _ e)
  have hsz : vs.size = ds.length := by simpa using hR.length
  refine wpAny_truthy_list hL' (by omega) ?_
  have : (!vs.isEmpty) = (!ds.isEmpty) := by
    congr 1
    rw [Bool.eq_iff_iff, Array.isEmpty_iff_size_eq_zero, hsz, List.isEmpty_iff_length_eq_zero]
  rw [this]
  exact ret h' _ k1
end

/-- the table of the signs that get a sign ahead -/
structure Sp (P : Cx) : Prop where
  at_ : ∃ d f, P.mg (Str.ofString "_special_chars_map") = some (.ref d) ∧ (d == sysModules) = false ∧ P.W.MapOf (intKind P.prog P.w) d f ∧ ∀ c : Nat, (c ∈ [40, 41, 91, 93, 123, 125, 63, 42, 43, 45, 124, 94, 36, 92, 46, 38, 126, 35, 32, 9, 10, 13, 11, 12] → ∃ t, f c = some (.str (Sx [92, c]) t)) ∧ (c ∉ [40, 41, 91, 93, 123, 125, 63, 42, 43, 45, 124, 94, 36, 92, 46, 38, 126, 35, 32, 9, 10, 13, 11, 12] → f c = none)
noncomputable def escOne (c : Nat) : List Nat := if c ∈ special then [92, c] else [c]

theorem ev_trans {P : Cx} {n : Nat} {X : XS} {env : Env} {h : Heap} {l : Expr} {pos apos np : Pos} {c : Nat} (W : P.Good) (S : Sp P) (kW : Sub P.W h) (F : Fe env) (ho : Ev P n X env h l (.str [c])) (hx : env.kindOf (Str.ofString "_special_chars_map") = some .globalImplicit := by kernel_rfl)
    (hbase : attributeBase l "translate" env (eval l env) = eval l env := by kernel_rfl) (hs : backTo pos (starEach [.Name (Str.ofString "_special_chars_map") np] env) = [.Name (Str.ofString "_special_chars_map") np].map fun e => (false, eval e env) := by kernel_rfl) (hline : (apos.endLine == pos.line) = true := by kernel_rfl) :
    Ev P n X env h (.Call (.Attribute l "translate" apos) [.Name (Str.ofString "_special_chars_map") np] [] pos) (.str (escOne c)) := by
  obtain ⟨d, f, h1, h2, h3, h4⟩ := S.at_
  refine ev_smeth PySem.F.slot_str_translate PySem.F.type_str_translate ho (.cons (ev_glob W F kW hx h1) .nil) (fun A s t vs rm a r Q E ret => ?_) hbase hs hline rfl (by decide)
  obtain ⟨v, rfl, hv⟩ := r.one
  rw [show v = .ref d from hv]
  have hm := map_sub h3 (kW.trans a.sub)
  have hr : A.handled = none := rm.1
  by_cases q : c ∈ special
  · obtain ⟨u, hu⟩ := (h4 c).1 q
    refine translate_hit hr hm hu rfl fun t' h' tk k => ret _ h' tk k ⟨t', ?_⟩
    unfold escOne; rw [if_pos q]
  · refine translate_miss hr hm h2 ((h4 c).2 q) fun t' h' tk k => ret _ h' tk k ⟨t', ?_⟩
    unfold escOne; rw [if_neg q]
end
section
noncomputable def put (kv : List (List Nat × List Nat)) (x y : List Nat) : List (List Nat × List Nat) :=
  if kv.any (fun p => p.1 == x) then kv.map (fun p => if p.1 == x then (p.1, y) else p) else kv ++ [(x, y)]
theorem KV.snoc {kvs : List (Str × Value)} {kv : List (List Nat × List Nat)} (K : KV kvs kv) (x y : List Nat) (t : Tok) : KV (kvs ++ [(Sx x, .str (Sx y) t)]) (kv ++ [(x, y)]) := by
  induction K with
  | nil => exact .cons x y t .nil
  | cons a b u r ih => exact .cons a b u ih
theorem KV.any {kvs : List (Str × Value)} {kv : List (List Nat × List Nat)} (K : KV kvs kv) (x : List Nat) : (kvs.any fun p => decide (p.1 = Sx x)) = kv.any (fun p => p.1 == x) := by
  induction K with
  | nil => rfl
  | cons a b u r ih =>
    rw [List.any_cons, List.any_cons, ih]
    congr 1
    rw [Bool.eq_iff_iff, decide_eq_true_iff, beq_iff_eq]
    exact sx_eq
theorem KV.over {kvs : List (Str × Value)} {kv : List (List Nat × List Nat)} (K : KV kvs kv) (x y : List Nat) (t : Tok) : KV (kvs.map fun p => if p.1 = Sx x then (p.1, .str (Sx y) t) else p) (kv.map fun p => if p.1 == x then (p.1, y) else p) := by
  induction K with
  | nil => exact .nil
  | cons a b u r ih =>
    rw [List.map_cons, List.map_cons]
    by_cases q : a = x
    · subst q
      rw [if_pos rfl, if_pos (by simp)]
      exact .cons a y t ih
    · rw [if_neg (fun e => q (sx_inj e)), if_neg (by simpa using q)]
      exact .cons a b u ih
theorem KV.put {kvs : List (Str × Value)} {kv : List (List Nat × List Nat)} (K : KV kvs kv) (x y : List Nat) (t : Tok) : KV (stored kvs (Sx x) (.str (Sx y) t)) (put kv x y) := by
  unfold stored Mine.put
  rw [K.any]
  split
  · exact K.over x y t
  · exact K.snoc x y t

section
variable {P : Cx} {n : Nat} {X : XS} {B : Heap} {env : Env} {Γ Γ' : Gam} {O O' : Own} {s : Shared} {R R₁ : Oc → Prop} {rest body orelse : List Stmt} {e : Expr} {pos : Pos} {d : D}
/-- a store into the first own dictionary -/
theorem store_item {o i : Expr} {p : Pos} {a : Addr} {kv : List (List Nat × List Nat)} {x y : List Nat} {t : Tok} (ho : Es P n X B env Γ ((a, .dict kv) :: O) o (.val (.ref a))) (hi : Es P n X B env Γ ((a, .dict kv) :: O) i (.str x)) (hz : kv.length ≤ 1000)
    {A : Around} {Q : Unit → Shared → Prop} {E : Value → Shared → Prop} (rm : Room n A) (st : St P X B env Γ ((a, .dict kv) :: O) s)
    (h : ∀ h' tk, St P X B env Γ ((a, .dict (put kv x y)) :: O) { s with heap := h', toks := tk } → Q () { s with heap := h', toks := tk }) :
    wpAny (model P.prog P.w) A (assign (.Subscript o i p) env (.str (Sx y) t)) Q E s := by
  rw [assign_Subscript]
  refine wpAny_bind (wpAny_holding (ho.run st rm fun v h' tk k st' r => wpAny_bind (wpAny_holding (hi.run st' rm fun w h2 tk2 k2 st2 r2 => wpAny_bind (wpAny_standAt (wpAny_bind (wpAny_holding ?_)))))))
  rw [show v = .ref a from r]
  obtain ⟨u, rfl⟩ := r2
  obtain ⟨_, _, _, kvs, hb, hD, K⟩ := st2.own a _ (.head _)
  refine wpAny_setItem_pairs (strKind_is P.prog P.w (Sx x) u) hD (fun h3 hD3 hs3 => wpAny_releaseD ?_) (by rw [K.length, sizeLine_eq]; omega)
  exact h _ _ (st2.change (d' := .dict (put kv x y)) hs3 (Nat.zero_le _) ⟨_, hb, hD3, K.put x y t⟩)

/-- two stores into the first own dictionary -/
theorem tr_store2 {o₁ i₁ o₂ i₂ : Expr} {p₁ p₂ tpos : Pos} {k : Nat} {a : Addr} {kv : List (List Nat × List Nat)} {x₁ y₁ x₂ y₂ : List Nat} (hx : Es P n X B env Γ ((a, .dict kv) :: O) e (.tup [.str y₁, .str y₂]))
    (h1 : Es P n X B env Γ ((a, .dict kv) :: O) o₁ (.val (.ref a))) (g1 : Es P n X B env Γ ((a, .dict kv) :: O) i₁ (.str x₁)) (h2 : Es P n X B env Γ ((a, .dict (put kv x₁ y₁)) :: O) o₂ (.val (.ref a))) (g2 : Es P n X B env Γ ((a, .dict (put kv x₁ y₁)) :: O) i₂ (.str x₂))
    (next : Tr P n X B env Γ ((a, .dict (put (put kv x₁ y₁) x₂ y₂)) :: O) rest R) (hz : kv.length ≤ 100) (hz2 : (put kv x₁ y₁).length ≤ 100)
    (hstar : (assignEach [.Subscript o₁ i₁ p₁, .Subscript o₂ i₂ p₂] env).findIdx? (·.1) = none := by kernel_rfl)
    (hs : swapsWithSole [.Tuple [.Subscript o₁ i₁ p₁, .Subscript o₂ i₂ p₂] k tpos] e pos.line env = pure false := by kernel_rfl)
    (hw : swappedStores [.Tuple [.Subscript o₁ i₁ p₁, .Subscript o₂ i₂ p₂] k tpos] e env = pure none := by kernel_rfl)
    (hf : (assignEach [.Subscript o₁ i₁ p₁, .Subscript o₂ i₂ p₂] env).map (·.2) = [fun v => assign (.Subscript o₁ i₁ p₁) env v, fun v => assign (.Subscript o₂ i₂ p₂) env v] := by kernel_rfl) :
    Tr P n X B env Γ ((a, .dict kv) :: O) (.Assign [.Tuple [.Subscript o₁ i₁ p₁, .Subscript o₂ i₂ p₂] k tpos] e pos :: rest) R := fun A s Q E rm st ret => by
  refine wpAny_execs_cons (Assign_Tuple (hx.run st rm fun v h' tk k st' r => ?_) hs hw)
  obtain ⟨t, vs, rfl, nx, hT, hR⟩ := r
  obtain ⟨v, w, e1, ⟨t1, hv⟩, ⟨t2, hw'⟩⟩ := hR.two
  have hz' : vs.size = 2 := by simpa using hR.length
  refine assign_Tuple_tuple rm.1 hT (by rw [hz']; rfl) hstar fun h'' he => ?_
  have k' : Sub h' h'' := fun b o e => he b o (Nat.ne_of_lt (Heap.lt_size e)) e
  rw [hf, e1, hv, hw']
  refine assignInOrder_cons (store_item (y := y₁) h1 g1 (by omega) rm (st'.keep (tk := tk) k' st'.tp) fun h3 tk3 st3 => ?_)
  refine assignInOrder_cons (store_item (y := y₂) h2 g2 (by omega) rm st3 fun h4 tk4 st4 => ?_)
  exact assignInOrder_nil (next A _ Q E rm st4 ret)

/-- x = [{..}, {..}] : the first of the two is the frame's own -/
theorem tr_tabs (G : P.Good) {x : Str} {p lp q₀ q₁ : Pos} {k₀ k₁ : List (Option Expr)} {v₀ v₁ : List Expr} {kv₀ kv₁ : List (List Nat × List Nat)} (h0 : ∀ s, St P X B env Γ O s → Prs P n (Mut X env O) env s.heap k₀ v₀ kv₀) (h1 : ∀ a s, St P X B env Γ ((a, .dict kv₀) :: O) s → Prs P n (Mut X env ((a, .dict kv₀) :: O)) env s.heap k₁ v₁ kv₁)
    (n0 : (kv₀.map (·.1)).Nodup) (n1 : (kv₁.map (·.1)).Nodup) (hf : env.scope.kind = .function) (hk : env.kindOf x = some .local)
    (next : ∀ a, Tr P n X B env ((x, .list [.val (.ref a), .dict kv₁]) :: Γ) ((a, .dict kv₀) :: O) rest R)
    (a0 : k₀.all (·.isSome) = true := by kernel_rfl) (b0 : k₀.length = v₀.length := by kernel_rfl) (c0 : k₀ ≠ [] := by exact List.cons_ne_nil _ _) (d0 : k₀.length ≤ 15 := by decide +kernel)
    (a1 : k₁.all (·.isSome) = true := by kernel_rfl) (b1 : k₁.length = v₁.length := by kernel_rfl) (c1 : k₁ ≠ [] := by exact List.cons_ne_nil _ _) (d1 : k₁.length ≤ 15 := by decide +kernel)
    (hs : swapsWith (.List [.Dict k₀ v₀ q₀, .Dict k₁ v₁ q₁] lp) (some (.Name x p)) pos.line env = pure false := by kernel_rfl)
    (hb : backTo lp (starEach [.Dict k₀ v₀ q₀, .Dict k₁ v₁ q₁] env) = [.Dict k₀ v₀ q₀, .Dict k₁ v₁ q₁].map fun e => (false, eval e env) := by kernel_rfl) :
    Tr P n X B env Γ O (.Assign [.Name x p] (.List [.Dict k₀ v₀ q₀, .Dict k₁ v₁ q₁] lp) pos :: rest) R := fun A s Q E rm st ret => by
  refine wpAny_execs_cons (wpAny_Assign_Name (List_ ?_) hs)
  rw [hb]
  refine spliced_cons (dict_walk G (h0 s st) n0 st.kW a0 b0 c0 d0 rm st.at fun a kvs h₁ tk₁ k1 na nx ht hbig hD K => ?_)
  have st₁ : St P X B env Γ ((a, .dict kv₀) :: O) { s with heap := h₁, toks := tk₁ } := st.take k1 (Nat.zero_le _) na ⟨kvs, hbig, hD, K⟩
  refine spliced_cons (dict_walk G (h1 a _ st₁) n1 st₁.kW a1 b1 c1 d1 rm st₁.at fun b kvs₂ h₂ tk₂ k2 nb nx2 ht2 hbig2 hD2 K2 => spliced_nil (wpAny_newObj_type ?_ (Nat.le_of_ble_eq_true rfl)))
  have st₂ := st₁.keep (h' := h₂.push { cls := .type "list", data := .seq #[.ref a, .ref b] }) (tk := tk₂) (k2.trans (Sub.push _)) (Nat.zero_le _)
  have nL : ¬ Mut X env ((a, .dict kv₀) :: O) h₂.objs.size := fun y => by
    obtain ⟨o, ho⟩ := st₁.mut _ y
    have : h₂.get? h₂.objs.size = some o := k2 _ _ ho
    exact absurd (Heap.lt_size this) (Nat.lt_irrefl _)
  refine St.store (d := .list [.val (.ref a), .dict kv₁]) st₂ hf (.inl hk) ⟨_, _, rfl, nL, ⟨_, Heap.get?_push_size _ rfl, rfl, _, rfl⟩, _, _, rfl, rfl, _, _, rfl, ?_, rfl⟩ fun h3 tk3 st3 _ => next _ A _ Q E rm st3 ret
  have hM := hD2.mapOf
  exact ⟨b, _, rfl, nx2, hbig2, mapOf_at hM fun o e => Sub.push _ _ _ e, K2.look⟩

theorem tt_int {env : Env} {h : Heap} {i : Int} (x : Ev P n X env h e (.int i)) (he : ∀ whole, isTrue e env whole = (do let v ← whole; standAt e.pos; holding [v] (truthy v)) := by intro _; kernel_rfl) : Tt P n X env h e (i != 0) :=
  fun A s Q E rm k ret => isTrue_plain (x.run rm k fun v h' tk k' _ r => by obtain ⟨t, rfl⟩ := r; exact PyProof.Rows.truthy_int (ret h' tk k')) (he _)
end
end
section
open AutoSeq1 (wpAny_loadPart')
/-- what a for with a tuple target goes through -/
structure WT (prog : Program) (w : World) (W : Heap) (A : Around) (I : Addr) (fp wr : List Addr) (n : Nat) (Pt : Nat → List Value → Prop) (St : Nat → Heap → Prop) (Mid : Nat → Addr → Heap → Prop) : Prop where
  sub : ∀ b ∈ wr, b ∈ fp
  frame : ∀ i h h', St i h → (∀ b ∈ fp, ∀ o, h.get? b = some o → h'.get? b = some o) → Sub W h' → St i h'
  item : ∀ i (s : Shared) (Q : Option Value → Shared → Prop) (E : Value → Shared → Prop), i < n → St i s.heap →
    (∀ T vals h' tk, Pt i vals → IsTup h' T vals.toArray → T ∉ wr → Mid i T h' → (∀ b o, b ∉ wr → s.heap.get? b = some o → h'.get? b = some o) → s.toks ≤ tk → Q (some (.ref T)) { s with heap := h', toks := tk }) →
    wpAny (model prog w) A (pyNext (.ref I)) Q E s
  go : ∀ (elts : List Expr) (k : Nat) (pos : Pos) i T (s : Shared) (Q : Unit → Shared → Prop) (E : Value → Shared → Prop), Mid i T s.heap →
    (∀ h', St (i + 1) h' → (∀ b o, b ∉ wr → s.heap.get? b = some o → h'.get? b = some o) → Q () { s with heap := h' }) →
    wpAny (model prog w) A (letOwnedTupleGo (.Tuple elts k pos) (.ref I) (.ref T)) Q E s
  done : ∀ (s : Shared) (Q : Option Value → Shared → Prop) (E : Value → Shared → Prop), St n s.heap →
    (∀ h' tk, (∀ b o, b ∉ wr → s.heap.get? b = some o → h'.get? b = some o) → s.toks ≤ tk → Q none { s with heap := h', toks := tk }) → wpAny (model prog w) A (pyNext (.ref I)) Q E s
section
variable {prog : Program} {w : World} {A : Around} {E : Value → Shared → Prop} {s : Shared}
/-- a step of an enumerate, whatever it numbers -/
theorem enum_step {e it : Addr} {i : Nat} {x old : Value} {Q : Value → Shared → Prop} {G : Heap → Prop}
    (he : IsEnum s.heap e it i old) (hne : e ≠ it) (hG : ∀ h h', G h → (∀ o, h.get? it = some o → h'.get? it = some o) → G h')
    (next : ∀ (Q : Value → Shared → Prop), (∀ h', G h' → Heap.SameBut it s.heap h' → Q x { s with heap := h' }) → wpAny (model prog w) A (Builtin.SmallTypes.nextOf (.ref it)) Q E s)
    (hQ : ∀ h', IsEnumOut h' e it ((i : Int) + 1) x s.heap.objs.size → G h' →
      h'.get? s.heap.objs.size = some { cls := .type "tuple", data := .seq #[.int i s.toks, x] } → h'.objs.size = s.heap.objs.size + 1 →
      (∀ b o, b ≠ e → b ≠ it → s.heap.get? b = some o → h'.get? b = some o) → Q (.ref s.heap.objs.size) { s with heap := h', toks := s.toks + 1 }) :
    wpAny (model prog w) A (Builtin.«enumerate.__next__» ⟨[.ref e], []⟩) (fun fin s' => ∃ v, fin = .done (.ret v) ∧ Q v s') E s := by
  obtain ⟨hp, g, d, tk, os⟩ := s
  show wpAny _ _ (field (.ref e) 2 >>= _) _ _ _
  refine wpAny_bind (wpAny_field he rfl (x := .ref it) rfl ?_)
  refine wpAny_bind (next _ fun h₁ g₁ hs₁ => ?_)
  replace hs₁ : Heap.SameBut it hp h₁ := hs₁
  have he₁ : IsEnum h₁ e it i old := (hs₁.2 e hne).trans he
  show wpAny _ _ (field (.ref e) 3 >>= _) _ _ ⟨h₁, g, d, tk, os⟩
  refine wpAny_bind (wpAny_field he₁ rfl (x := rawInt i) rfl ?_)
  show wpAny _ _ (field (.ref e) 4 >>= _) _ _ ⟨h₁, g, d, tk, os⟩
  refine wpAny_bind (wpAny_field he₁ rfl (x := .none) rfl ?_)
  show wpAny _ _ (mkInt i >>= _) _ _ ⟨h₁, g, d, tk, os⟩
  refine wpAny_bind (wpAny_mkInt ?_)
  show wpAny _ _ (setField (.ref e) 3 (rawInt ((i : Int) + 1)) >>= _) _ _ ⟨h₁, g, d, tk + 1, os⟩
  refine wpAny_bind (wpAny_setField_rec he₁ (by simp) fun h₂ he₂ hs₂ => ?_)
  replace hs₂ : Heap.SameBut e h₁ h₂ := hs₂
  replace he₂ : IsEnum h₂ e it ((i : Int) + 1) old := he₂
  show wpAny _ _ (setField (.ref e) 4 .none >>= _) _ _ ⟨h₂, g, d, tk + 1, os⟩
  refine wpAny_bind (wpAny_setField_rec he₂ (by simp) fun h₃ he₃ hs₃ => ?_)
  replace hs₃ : Heap.SameBut e h₂ h₃ := hs₃
  replace he₃ : IsEnum h₃ e it ((i : Int) + 1) old := he₃
  show wpAny _ _ (newTuple [.int i tk, x] >>= _) _ _ ⟨h₃, g, d, tk + 1, os⟩
  refine wpAny_bind (wpAny_newTuple ?_)
  have hsz : h₃.objs.size = hp.objs.size := by rw [hs₃.1, hs₂.1, hs₁.1]
  have hel : e < hp.objs.size := Heap.lt_size he
  have g₃ : G h₃ := hG _ _ (hG _ _ g₁ fun o q => (hs₂.2 it hne.symm).trans q) fun o q => (hs₃.2 it hne.symm).trans q
  have he₄ : IsEnum (h₃.push { cls := .type "tuple", data := .seq #[.int i tk, x] }) e it ((i : Int) + 1) old := Heap.get?_push_of_some _ he₃
  have g₄ : G (h₃.push { cls := .type "tuple", data := .seq #[.int i tk, x] }) := hG _ _ g₃ fun o q => Heap.get?_push_of_some _ q
  have ht₄ : (h₃.push { cls := .type "tuple", data := .seq #[.int i tk, x] }).get? hp.objs.size = some { cls := .type "tuple", data := .seq #[.int i tk, x] } := by rw [← hsz]; exact Heap.get?_push_size _ rfl
  have hz₄ : (h₃.push { cls := .type "tuple", data := .seq #[.int i tk, x] }).objs.size = hp.objs.size + 1 := by rw [Heap.size_push, hsz]
  have hk₄ : ∀ b o, b ≠ e → b ≠ it → hp.get? b = some o → (h₃.push { cls := .type "tuple", data := .seq #[.int i tk, x] }).get? b = some o := fun b o hbe hbi hb =>
    Heap.get?_push_of_some _ ((hs₃.2 b hbe).trans ((hs₂.2 b hbe).trans ((hs₁.2 b hbi).trans hb)))
  generalize h₃.push { cls := .type "tuple", data := .seq #[.int i tk, x] } = h₄ at he₄ g₄ ht₄ hz₄ hk₄ ⊢
  show wpAny _ _ (Builtin.SmallTypes.ownedTupleIsFree (.ref e) >>= _) _ _ ⟨h₄, g, d, tk + 1, os⟩
  rw [hsz]
  refine wpAny_bind ?_
  unfold Builtin.SmallTypes.ownedTupleIsFree
  refine wpAny_bind (wpAny_field he₄ rfl (x := .none) rfl (wpAny_pure ?_))
  simp only [if_true]
  refine wpAny_bind (wpAny_rule ?_)
  refine wpAny_bind (wpAny_field he₄ rfl (x := old) rfl ?_)
  refine wpAny_bind (wpAny_setField_rec he₄ (by simp) fun h₅ he₅ hs₅ => ?_)
  replace hs₅ : Heap.SameBut e h₄ h₅ := hs₅
  replace he₅ : IsEnum h₅ e it ((i : Int) + 1) x := he₅
  show wpAny _ _ (Builtin.SmallTypes.ownedTupleHandOut (.ref e) (.ref hp.objs.size) >>= _) _ _ ⟨h₅, g, d, tk + 1, os⟩
  refine wpAny_bind ?_
  unfold Builtin.SmallTypes.ownedTupleHandOut
  refine wpAny_bind (wpAny_setField_rec he₅ (by simp) fun h₆ he₆ hs₆ => ?_)
  replace hs₆ : Heap.SameBut e h₅ h₆ := hs₆
  replace he₆ : IsEnumOut h₆ e it ((i : Int) + 1) x hp.objs.size := he₆
  refine wpAny_setField_rec he₆ (by simp) fun h₇ he₇ hs₇ => ?_
  replace hs₇ : Heap.SameBut e h₆ h₇ := hs₇
  replace he₇ : IsEnumOut h₇ e it ((i : Int) + 1) x hp.objs.size := he₇
  refine wpAny_bind (wpAny_letGo (wpAny_pure ⟨_, rfl, hQ h₇ he₇ ?_ ?_ ?_ ?_⟩))
  · exact hG _ _ g₄ fun o q => (hs₇.2 it hne.symm).trans ((hs₆.2 it hne.symm).trans ((hs₅.2 it hne.symm).trans q))
  · exact (hs₇.2 _ (Nat.ne_of_gt hel)).trans ((hs₆.2 _ (Nat.ne_of_gt hel)).trans ((hs₅.2 _ (Nat.ne_of_gt hel)).trans ht₄))
  · rw [hs₇.1, hs₆.1, hs₅.1, hz₄]
  · exact fun b o hbe hbi hb => (hs₇.2 b hbe).trans ((hs₆.2 b hbe).trans ((hs₅.2 b hbe).trans (hk₄ b o hbe hbi hb)))

theorem next_tup {it t : Addr} {i : Nat} {items} {x : Value} {Q : Value → Shared → Prop} (hit : s.heap.IsTupleIter it t i)
    (ht : s.heap.IsTuple t items) (hx : items[i]? = some x)
    (hQ : ∀ h', h'.IsTupleIter it t (i + 1) → Heap.SameBut it s.heap h' → Q x { s with heap := h' }) :
    wpAny (model prog w) A (Builtin.SmallTypes.nextOf (.ref it)) Q E s := by
  obtain ⟨o, ho, hc, hd⟩ := id hit
  obtain ⟨ol, hol, _, nl, hdl⟩ := ht
  unfold Builtin.SmallTypes.nextOf
  refine wpAny_bind (wpAny_callSpecial?_slot (name := Str.ofString "__next__") hit.typeIs F.slot_tuple_iterator_next
    (wpAny_call_entry F.slot_tuple_iterator_next hit.typeIs F.entry_tuple_iterator_next ?_ (F.args_tuple_iterator_next_1 _)))
  show wpAny _ _ (field (.ref it) 0 >>= _) _ _ s
  refine wpAny_bind (wpAny_field ho hd (x := .ref t) rfl ?_)
  show wpAny _ _ (if (Value.ref t == Value.none) = true then _ else _) _ _ s
  rw [if_neg (show ¬ ((Value.ref t == Value.none) = true) from Bool.false_ne_true)]
  show wpAny _ _ (field (.ref it) 1 >>= _) _ _ s
  refine wpAny_bind (wpAny_field ho hd (x := .int i 0) rfl ?_)
  show wpAny _ _ (seqItems? (.ref t) >>= _) _ _ s
  refine wpAny_bind (wpAny_seqItems hol hdl ?_)
  simp only [Int.toNat_natCast, hx]
  refine wpAny_bind (wpAny_setField ho hd (by simp) (wpAny_pure ⟨x, rfl, wpAny_pure (hQ _ ?_ (Heap.SameBut.update ..))⟩))
  exact ⟨_, Heap.get?_update_self _ ho (Obj.isFreed_of_fields (Obj.data_mapFields hd _)), (Obj.cls_mapFields ..).trans hc, by
    rw [Obj.data_mapFields hd]; simp [rawInt]⟩
theorem next_tup_end {it t : Addr} {i : Nat} {items} {Q : Value → Shared → Prop} (hh : A.handled = none)
    (hit : s.heap.IsTupleIter it t i) (hl : s.heap.IsTuple t items) (hx : items[i]? = none)
    (hE : ∀ h' e, Heap.ExtBut it s.heap h' → (∃ o, h'.get? e = some o ∧ o.cls = .type "StopIteration") → E (.ref e) { s with heap := h' }) :
    wpAny (model prog w) A (Builtin.SmallTypes.nextOf (.ref it)) Q E s := by
  obtain ⟨o, ho, hc, hd⟩ := id hit
  obtain ⟨ol, hol, _, nl, hdl⟩ := hl
  unfold Builtin.SmallTypes.nextOf
  refine wpAny_bind (wpAny_callSpecial?_slot (name := Str.ofString "__next__") hit.typeIs F.slot_tuple_iterator_next
    (wpAny_call_entry F.slot_tuple_iterator_next hit.typeIs F.entry_tuple_iterator_next ?_ (F.args_tuple_iterator_next_1 _)))
  show wpAny _ _ (field (.ref it) 0 >>= _) _ _ s
  refine wpAny_bind (wpAny_field ho hd (x := .ref t) rfl ?_)
  show wpAny _ _ (if (Value.ref t == Value.none) = true then _ else _) _ _ s
  rw [if_neg (show ¬ ((Value.ref t == Value.none) = true) from Bool.false_ne_true)]
  show wpAny _ _ (field (.ref it) 1 >>= _) _ _ s
  refine wpAny_bind (wpAny_field ho hd (x := .int i 0) rfl ?_)
  show wpAny _ _ (seqItems? (.ref t) >>= _) _ _ s
  refine wpAny_bind (wpAny_seqItems hol hdl ?_)
  simp only [Int.toNat_natCast, hx]
  refine wpAny_bind (wpAny_rule (wpAny_bind (wpAny_setField ho hd (by simp) ?_)))
  show wpAny _ _ (newExc (.type "StopIteration") [] >>= _) _ _ _
  refine wpAny_bind ?_
  simp only [newExc, newTuple]
  refine wpAny_bind (wpAny_newObj_type ?_ (by size_fits))
  refine wpAny_bind (m := firstArgMember _ _) (wpAny_of_eq (a := Value.none) (by first | rfl | (simp only [firstArgMember]; rfl)) ?_)
  refine wpAny_newObj_type ?_ (by size_fits)
  simp only [raiseNew]
  refine wpAny_bind (wpAny_handled ?_)
  first | rw [show A.in1.handled = none from hh] | rw [hh]
  refine wpAny_bind (wpAny_pure (wpAny_throw ?_))
  exact hE _ _ (((Heap.SameBut.update ..).extBut.push _).push _) ⟨_, Heap.get?_push_size _ rfl, rfl⟩

theorem wt_enum {prog : Program} {w : World} {W : Heap} {A : Around} (hh : A.handled = none) (e it t : Addr) (hei : e ≠ it) (hte : t ≠ e) (hti : t ≠ it) (items : Array Value) (hW : W.IsTuple t items) :
    WT prog w W A e [e, it] [e, it] items.size (fun i vals => ∃ tk x, items[i]? = some x ∧ vals = [.int i tk, x])
      (fun i h => (∃ old, IsEnum h e it i old) ∧ h.IsTupleIter it t i ∧ h.IsTuple t items)
      (fun i T h => (∃ x, IsEnumOut h e it ((i : Int) + 1) x T) ∧ h.IsTupleIter it t (i + 1) ∧ h.IsTuple t items) where
  sub := fun b hb => hb
  frame := fun i h h' hst hk hs => by
    obtain ⟨⟨old, he⟩, hit, hl⟩ := hst
    exact ⟨⟨old, hk e (by simp) _ he⟩, hit.at fun o x => hk it (by simp) o x, hW.at fun o x => hs t o x⟩
  item := fun i s Q E hi hst hQ => by
    obtain ⟨⟨old, he⟩, hit, hl⟩ := hst
    have hx : items[i]? = some items[i] := Array.getElem?_eq_getElem hi
    have hT : s.TypeIs (.ref e) "enumerate" := ⟨_, he, rfl⟩
    have helt : e < s.heap.objs.size := Heap.lt_size he
    have hilt : it < s.heap.objs.size := by obtain ⟨_, x, _⟩ := hit; exact Heap.lt_size x
    unfold pyNext
    refine wpAny_bind (wpAny_attempt (wpAny_callSpecial?_slot (name := Str.ofString "__next__") hT F.slot_enumerate_next
      (wpAny_call_entry F.slot_enumerate_next hT F.entry_enumerate_next
        (enum_step (x := items[i]) (G := fun h => h.IsTupleIter it t (i + 1)) he hei (fun h h' g k => g.at k) (fun Q hq => next_tup hit hl hx hq) fun h' a b c d k => wpAny_pure ?_) (F.args_enumerate_next_1 _))))
    exact hQ s.heap.objs.size [.int i s.toks, items[i]] h' (s.toks + 1) ⟨_, _, hx, rfl⟩ ⟨_, c, rfl, _, rfl⟩ (by simp; exact ⟨Nat.ne_of_gt helt, Nat.ne_of_gt hilt⟩)
      ⟨⟨_, a⟩, b, hl.at fun o x => k t o hte hti x⟩ (fun b o hb x => k b o (fun e' => hb (by simp [e'])) (fun e' => hb (by simp [e'])) x) (Nat.le_succ _)
  go := fun elts k pos i T s Q E hm hQ => by
    obtain ⟨⟨x, ho⟩, hit, hl⟩ := hm
    refine wpAny_letOwnedTupleGo_enum ho fun h' he' hs' => hQ h' ⟨⟨x, by simpa using he'⟩, hit.at fun o y => (hs'.2 it hei.symm).trans y, hl.at fun o y => (hs'.2 t hte).trans y⟩ fun b o hb y => ?_
    exact (hs'.2 b fun e' => hb (by simp [e'])).trans y
  done := fun s Q E hst hQ => by
    obtain ⟨⟨old, he⟩, hit, hl⟩ := hst
    have hT : s.TypeIs (.ref e) "enumerate" := ⟨_, he, rfl⟩
    unfold pyNext
    refine wpAny_bind (wpAny_attempt (wpAny_callSpecial?_slot (name := Str.ofString "__next__") hT F.slot_enumerate_next
      (wpAny_call_entry F.slot_enumerate_next hT F.entry_enumerate_next ?_ (F.args_enumerate_next_1 _))))
    show wpAny _ _ (field (.ref e) 2 >>= _) _ _ _
    refine wpAny_bind (wpAny_field he rfl (x := .ref it) rfl ?_)
    refine wpAny_bind (next_tup_end hh hit hl (Array.getElem?_eq_none (Nat.le_refl _)) fun h' x he' hx' => ?_)
    obtain ⟨o, ho, hc⟩ := hx'
    refine wpAny_bind (wpAny_isInstance (T := "StopIteration") (b := true) ⟨o, ho, hc⟩ isSubtype_stop ?_)
    exact wpAny_pure (hQ h' s.toks (fun b o hb y => he' b o (fun e' => hb (by simp [e'])) y) (Nat.le_refl _))

/-- a tuple of tuples -/
theorem wt_tup {prog : Program} {w : World} {W : Heap} {A : Around} (hh : A.handled = none) (I t : Addr) (hne : t ≠ I) (items : Array Value) (rows : List (Addr × List Value)) (hr : items.toList = rows.map fun r => .ref r.1) (hI : ∀ r ∈ rows, r.1 ≠ I) (hW : W.IsTuple t items) (hRW : ∀ r ∈ rows, IsTup W r.1 r.2.toArray) :
    WT prog w W A I [I] [I] items.size (fun i vals => ∃ T, rows[i]? = some (T, vals))
      (fun i h => h.IsTupleIter I t i ∧ h.IsTuple t items ∧ ∀ r ∈ rows, IsTup h r.1 r.2.toArray)
      (fun i T h => h.IsTupleIter I t (i + 1) ∧ h.IsTuple t items ∧ ∀ r ∈ rows, IsTup h r.1 r.2.toArray) where
  sub := fun b hb => by simp at hb; simp [hb]
  frame := fun _ _ _ st hk hs => ⟨st.1.at fun o e => hk I (by simp) o e, hW.at fun o e => hs t o e, fun r hr => isTup_at (hRW r hr) fun o e => hs r.1 o e⟩
  item := fun i s Q E hi st hQ => by
    have hlen : items.size = rows.length := by have := congrArg List.length hr; simpa using this
    have hir : i < rows.length := by omega
    have hx : items[i]? = some (.ref rows[i].1) := by
      have := congrArg (fun l => l[i]?) hr
      simpa [hir] using this
    refine wpAny_pyNext_tuple_item st.1 st.2.1 hx fun h' hit' hs' => ?_
    have hm := List.getElem_mem hir
    have keep : ∀ r ∈ rows, IsTup h' r.1 r.2.toArray := fun r hr => isTup_at (st.2.2 r hr) fun o e => (hs'.2 _ (hI r hr)).trans e
    exact hQ rows[i].1 rows[i].2 h' s.toks ⟨rows[i].1, List.getElem?_eq_getElem hir⟩ (keep _ hm) (by simp; exact hI _ hm) ⟨hit', st.2.1.at fun o e => (hs'.2 t hne).trans e, keep⟩ (fun b o hb e => (hs'.2 b fun e' => hb (by simp [e'])).trans e) (Nat.le_refl _)
  go := fun elts k pos i T s Q E hm hQ => by
    obtain ⟨⟨o, ho, hc, hd⟩, h2, h3⟩ := id hm
    unfold letOwnedTupleGo
    refine wpAny_bind (wpAny_load ho ?_)
    rw [hc, hd]
    dsimp only
    rw [if_neg (by simp)]
    exact wpAny_pure (hQ s.heap hm fun b o _ q => q)
  done := fun s Q E st hQ => wpAny_pyNext_tuple_end hh st.1 st.2.1 (by simp) fun h' he' => hQ h' s.toks (fun b o hb e => he' b o (fun h => hb (by simp [h])) e) (Nat.le_refl _)
end

set_option maxHeartbeats 1000000 in
theorem enum_newT (l : Addr) (items : Array Value) (n : Nat) (dct : Option Addr) (sl : Array (Option Value)) :
    Meets (Builtin.«enumerate.__new__» ⟨[.type "enumerate", .ref l], []⟩) (fun _ R s => s.heap.get? l = some { cls := .type "tuple", dict := dct, data := .seq items n, slots := sl } ∧
      R (.ok (.ret (.ref (s.heap.push { cls := .type "tuple_iterator", data := .fields #[.ref l, .int 0 0] }).objs.size)))
        { s with heap := (s.heap.push { cls := .type "tuple_iterator", data := .fields #[.ref l, .int 0 0] }).push { cls := .type "enumerate", data := .fields #[.none, .bool false, .ref s.heap.objs.size, rawInt 0, .none, .none] } }) :=
  .of_wp fun prog w A R s h => by
    obtain ⟨hp, g, d, tk, os⟩ := s; obtain ⟨hl, h⟩ := h
    have hsub := sub_enumerate
    have hL : Heap.IsTuple (Shared.heap ⟨hp, g, d, tk, os⟩) l items := ⟨_, hl, rfl, n, rfl⟩
    wp_walk using wpAny_loadPart' hl
    refine wpAny_stack_any fun st => wpAny_pure ?_
    split
    · rename_i c _ _ _ _ _
      cases (c == Value.type "enumerate")
      · wp_walk using wpAny_loadPart' hl, wpAny_pyIter_tuple hL
        exact ⟨_, rfl, h⟩
      · wp_walk using wpAny_loadPart' hl, wpAny_pyIter_tuple hL
        exact ⟨_, rfl, h⟩
    · wp_walk using wpAny_loadPart' hl, wpAny_pyIter_tuple hL
      exact ⟨_, rfl, h⟩
theorem call_enumT {prog : Program} {w : World} {A : Around} {E : Value → Shared → Prop} {s : Shared} {l : Addr} {items : Array Value} {Q : Value → Shared → Prop} (hL : s.heap.IsTuple l items)
    (h : ∀ h', IsEnum h' (s.heap.objs.size + 1) s.heap.objs.size 0 .none → h'.IsTupleIter s.heap.objs.size l 0 → Sub s.heap h' → Q (.ref (s.heap.objs.size + 1)) { s with heap := h' }) :
    wpAny (model prog w) A (call (.type "enumerate") [.ref l]) Q E s := by
  obtain ⟨⟨c, dct, dt, sl⟩, hl, hc, n, hd⟩ := hL
  replace hc : c = .type "tuple" := hc
  replace hd : dt = .seq items n := hd
  subst hc hd
  refine callType_new F.called_enumerate (by decide) (F.typeCall_enumerate_1 _) (F.newCall_enumerate_1 _) (fun obj => F.args_object_init_2 obj _) F.entry_enumerate_new
    (enum_newT l items n dct sl) ⟨hl, ?_⟩
  have hz : (s.heap.push { cls := .type "tuple_iterator", data := .fields #[.ref l, .int 0 0] }).objs.size = s.heap.objs.size + 1 := Heap.size_push ..
  show _ ∧ _
  rw [hz]
  have he : IsEnum ((s.heap.push { cls := .type "tuple_iterator", data := .fields #[.ref l, .int 0 0] }).push
      { cls := .type "enumerate", data := .fields #[.none, .bool false, .ref s.heap.objs.size, rawInt 0, .none, .none] }) (s.heap.objs.size + 1) s.heap.objs.size 0 .none := by
    have := Heap.get?_push_size (s.heap.push { cls := .type "tuple_iterator", data := .fields #[.ref l, .int 0 0] })
      (o := { cls := .type "enumerate", data := .fields #[.none, .bool false, .ref s.heap.objs.size, rawInt 0, .none, .none] }) rfl
    rw [hz] at this; exact this
  exact ⟨⟨_, he, rfl⟩, h _ he ⟨_, Heap.get?_push_of_some _ (Heap.get?_push_size _ rfl), rfl, rfl⟩ fun b o x => Heap.get?_push_of_some _ (Heap.get?_push_of_some _ x)⟩
end
section
theorem zip_self : ∀ (ps : Gam), (ps.map (·.1)).zip (ps.map (·.2)) = ps
  | [] => rfl
  | (x, d) :: ps => by rw [List.map_cons, List.map_cons, List.zip_cons_cons, zip_self ps]
/-- something to go through with a tuple target -/
noncomputable def SrcT (P : Cx) (n : Nat) (X : XS) (env : Env) (h : Heap) (iter : Expr) (ds : List (List D)) : Prop :=
  ∀ (A : Around) (s : Shared) (Q E : Value → Shared → Prop), Room n A → At X h s →
    (∀ I fp wr Pt St Mid h' tk, Sub s.heap h' → At X h { s with heap := h', toks := tk } → (∀ A' : Around, A'.handled = none → WT P.prog P.w P.W A' I fp wr ds.length Pt St Mid) → St 0 h' →
      (∀ i v, Pt i v → ∃ d, ds[i]? = some d ∧ Rds P (fun a => X a ∨ a ∈ wr) h' d v) → (∀ b ∈ fp, (∃ o, h'.get? b = some o) ∧ ¬ X b) → (∀ b ∈ wr, s.heap.get? b = none) → (∀ i h, St i h → ∀ b ∈ wr, ∃ o, h.get? b = some o) → Q (.ref I) { s with heap := h', toks := tk }) →
    wpAny (model P.prog P.w) A (eval iter env) (fun xv s₁ => wpAny (model P.prog P.w) A (pyIter xv) Q E s₁) E s
section
variable {P : Cx} {n : Nat} {X : XS} {B : Heap} {env : Env} {Γ Γ' : Gam} {O O' : Own} {s : Shared} {R R₁ : Oc → Prop} {rest body orelse : List Stmt} {e : Expr} {pos : Pos} {d : D}
/-- a for with a tuple target -/
theorem tr_forT {elts : List Expr} {kk₀ : Nat} {tpos : Pos} {names : List Str} {ds : List (List D)} (I : Nat → Gam → Own → Prop) (once : CellsOnce env) (hsrc : ∀ s, St P X B env Γ O s → SrcT P n (Mut X env O) env s.heap e ds) (h0 : I 0 Γ O)
    (hf : env.scope.kind = .function) (S : ∀ dl ∈ ds, ∃ ps : Gam, ps.map (·.2) = dl ∧ Stor env ((assignEach elts env).map (·.2)) ps ∧ ps.map (·.1) = names)
    (hstar : (assignEach elts env).findIdx? (·.1) = none) (hl : (assignEach elts env).length = names.length)
    (turn : ∀ i d Γ₁ O₁, ds[i]? = some d → I i Γ₁ O₁ → ∀ X' B', Tr P n X' B' env ((names.zip d).reverse ++ Γ₁) O₁ body fun oc => match oc with | .next Γ' O' => I (i + 1) Γ' O' | .brk Γ' O' => R₁ (.next Γ' O') | .ret d => R₁ (.ret d))
    (done : ∀ Γ₁ O₁, I ds.length Γ₁ O₁ → Tr P n X B env Γ₁ O₁ orelse R₁)
    (next : ∀ Γ' O', R₁ (.next Γ' O') → Tr P n X B env Γ' O' rest R) (hb : ∀ Γ' O', R₁ (.brk Γ' O') → R (.brk Γ' O')) (hr : ∀ d, R₁ (.ret d) → R (.ret d))
    (hs : ∀ x, foldedSetIterable e env x = pure x := by intro _; kernel_rfl) :
    Tr P n X B env Γ O (.For (.Tuple elts kk₀ tpos) e body orelse pos :: rest) R := fun A s Q E rm st ret => by
  have fin := fin_of (A := A) (Q := Q) (E := E) rm next hb hr ret
  refine wpAny_execs_cons (wpAny_For (hsrc s st A s _ E rm st.at fun J fp wr Pv St₀ Mid h₀ tk₀ k₀ a₀ W hst hit hfp hwr hex => ?_) hs)
  have hz : s.toks ≤ s.toks := Nat.le_refl _
  have bw : ∀ a ∈ wr, B.get? a = none := fun a ha => by
    cases q : B.get? a with
    | none => rfl
    | some o => have := hwr a ha; rw [st.sub _ _ q] at this; cases this
  have wX : ∀ b o, P.W.get? b = some o → b ∉ wr := fun b o e hm => by have := st.W _ _ e; rw [bw b hm] at this; cases this
  have xX : ∀ a, X a → a ∉ wr := fun a y hm => by obtain ⟨o, ho⟩ := st.x0 a y; rw [bw a hm] at ho; cases ho
  have npw : ∀ b ∈ fp, b ∉ places env O := fun b hb hm => (hfp b hb).2 (mut_places once (.inr hm))
  have wfp := (W A rm.1).sub
  -- the start, over all that stands
  have st₀ : St P (fun a => X a ∨ a ∈ wr) (hideAll h₀ (places env O)) env Γ O { s with heap := h₀, toks := tk₀ } := by
    have kk : ∀ b o, ¬ Mut X env O b → s.heap.get? b = some o → ¬ Mut (fun a => X a ∨ a ∈ wr) env O b ∧ h₀.get? b = some o := fun b o nb e =>
      ⟨fun y => by
        rcases y with (y | y) | y
        · exact nb (.inl y)
        · rw [hwr b y] at e; cases e
        · exact nb (.inr y), k₀ _ _ e⟩
    have nB : ∀ {b o}, B.get? b = some o → b ∉ places env O := fun {b o} e hm => by rw [st.hc once b hm] at e; cases e
    refine ⟨fun b o e => hideAll_get _ (k₀ _ _ (st.kW _ _ e)) (nB (st.W _ _ e)), fun a y => ?_, a₀.tp, fun b o e => of_hideAll _ e, hideAll_none _ (.head _), fun x c e => hideAll_none _ ?_, ?_, fun a e hm => ?_, st.apart⟩
    · rcases y with y | y
      · obtain ⟨o, ho⟩ := st.x0 a y; exact ⟨o, hideAll_get _ (k₀ _ _ (st.sub _ _ ho)) (nB ho)⟩
      · obtain ⟨o, ho⟩ := (hfp a (wfp a y)).1; exact ⟨o, hideAll_get _ ho (npw a (wfp a y))⟩
    · exact .tail _ (List.mem_append_left _ (List.mem_map.mpr ⟨(x, c), mem_of_lookup e, rfl⟩))
    · obtain ⟨m, cm, F, C, V⟩ := st.fr
      exact ⟨m, cm, F.keeps k₀, C.keeps k₀, fun x d e => let ⟨v, hv, r⟩ := V x d e; ⟨v, hv, r.mono kk⟩⟩
    · obtain ⟨h1, h2, h3, h4⟩ := st.own a e hm
      exact ⟨hideAll_none _ (.tail _ (List.mem_append_right _ (List.mem_map.mpr ⟨(a, e), hm, rfl⟩))), h2, h3, h4.mono kk fun o q => k₀ _ _ q⟩
  -- what stays all along
  let B₀ : Heap := hideAll h₀ (places env O ++ wr)
  have b0 : ∀ {b o}, B₀.get? b = some o → h₀.get? b = some o ∧ b ∉ places env O ∧ b ∉ wr := fun {b o} e =>
    ⟨of_hideAll _ e, (fun hm => by rw [show B₀.get? b = none from hideAll_none _ (List.mem_append_left _ hm)] at e; cases e), (fun hm => by rw [show B₀.get? b = none from hideAll_none _ (List.mem_append_right _ hm)] at e; cases e)⟩
  have bB : Sub B B₀ := fun b o e => hideAll_get _ (k₀ _ _ (st.sub _ _ e)) fun hm => by
    rcases List.mem_append.mp hm with hm | hm
    · have q := st.hc once b hm; rw [q] at e; cases e
    · have q := bw b hm; rw [q] at e; cases e
  have item : ∀ {i v Γ₁ O₁ B₁} {s₁ : Shared}, Pv i v → St P (fun a => X a ∨ a ∈ wr) B₁ env Γ₁ O₁ s₁ → Sub B₀ B₁ → ∃ d, ds[i]? = some d ∧ Rds P (Mut (fun a => X a ∨ a ∈ wr) env O₁) s₁.heap d v := fun {i v Γ₁ O₁ B₁ s₁} hv st₁ kb => by
    obtain ⟨d, hd, hr⟩ := hit i v hv
    refine ⟨d, hd, hr.mono fun a o na e => ?_⟩
    have hp : a ∉ places env O := fun hm => na (.inl (mut_places once (.inr hm)))
    have hw : a ∉ wr := fun hm => na (.inr hm)
    have gB : B₀.get? a = some o := hideAll_get _ e (fun hm => (List.mem_append.mp hm).elim hp hw)
    refine ⟨fun y => ?_, st₁.sub _ _ (kb _ _ gB)⟩
    rcases places_mut y with (y | y) | y
    · exact na (.inl (.inl y))
    · exact hw y
    · have := kb _ _ gB; rw [st₁.hc once a y] at this; cases this
  refine codeAny_forLoop_any (fun k s' => ∃ h' tk Γ₁ O₁ B₁ i, s' = { s with heap := h', toks := tk } ∧ I i Γ₁ O₁ ∧ St P (fun a => X a ∨ a ∈ wr) B₁ env Γ₁ O₁ s' ∧ Sub B₀ B₁ ∧ St₀ i h' ∧ (∀ b ∈ fp, ∃ o, B₁.get? b = some o) ∧ i ≤ ds.length ∧ k = ds.length + 1 - i) ?_ (ds.length + 1)
    ⟨h₀, tk₀, Γ, O, _, 0, rfl, h0, st₀, fun b o e => hideAll_get _ (b0 e).1 (b0 e).2.1, hst, fun b hb => let ⟨o, ho⟩ := (hfp b hb).1; ⟨o, hideAll_get _ ho (npw b hb)⟩, Nat.zero_le _, rfl⟩
  rintro k s' ⟨h₁, tk₁, Γ₁, O₁, B₁, i, rfl, hI, st₁, kb, hsti, hfB, hi, rfl⟩
  have np₁ : ∀ b ∈ fp, b ∉ places env O₁ := fun b hb hm => by obtain ⟨o, ho⟩ := hfB b hb; rw [st₁.hc once b hm] at ho; cases ho
  have hexA : ∀ {h₂ : Heap}, (∀ b o, b ∉ wr → h₁.get? b = some o → h₂.get? b = some o) → (∀ b ∈ wr, ∃ o, h₂.get? b = some o) → ∀ b ∈ fp, ∃ o, h₂.get? b = some o := fun {h₂} hk hw b hb => by
    by_cases hm : b ∈ wr
    · exact hw b hm
    · obtain ⟨o, ho⟩ := hfB b hb; exact ⟨o, hk _ _ hm (st₁.sub _ _ ho)⟩
  have kb₂ : ∀ {h₂ : Heap}, (∀ b o, b ∉ wr → h₁.get? b = some o → h₂.get? b = some o) → Sub B₀ (hideAll h₂ (places env O₁)) := fun {h₂} hk b o e =>
    hideAll_get _ (hk _ _ (b0 e).2.2 (st₁.sub _ _ (kb _ _ e))) fun hm => by have := kb _ _ e; rw [st₁.hc once b hm] at this; cases this
  by_cases hlt : i < ds.length
  · refine (W A rm.1).item i _ _ _ hlt hsti fun T v h₂' tk₂ hP hT hTw hmid hk₂' ht₂ => ?_
    refine (W A rm.1).go _ _ _ i T _ _ _ hmid fun h₂ hst₂ hkk => ?_
    have hk₂ : ∀ b o, b ∉ wr → h₁.get? b = some o → h₂.get? b = some o := fun b o hb e => hkk b o hb (hk₂' b o hb e)
    have hT₂ : IsTup h₂ T v.toArray := isTup_at hT fun o e => hkk T o hTw e
    have hw₂ := hex (i + 1) h₂ hst₂
    have st₂ := st₁.turned once ht₂ hk₂ hw₂ (fun b hb => np₁ b (wfp b hb)) xX wX
    obtain ⟨d, hd, hr⟩ := item hP st₂ (kb₂ hk₂)
    obtain ⟨ps, hps, hS, hnm⟩ := S d (List.mem_of_getElem? hd)
    have hvl : v.toArray.size = names.length := by rw [List.size_toArray, hr.length, ← hps, ← hnm, List.length_map, List.length_map]
    refine assign_Tuple_tuple (s := { s with heap := h₂, toks := tk₂ }) rm.1 hT₂ (by rw [hl, hvl]) hstar fun h₂a hea => ?_
    have k2a : Sub h₂ h₂a := fun b o e => hea b o (Nat.ne_of_lt (Heap.lt_size e)) e
    have st₂a := st₂.keep (tk := tk₂) k2a (Nat.zero_le _)
    refine hS.run hf st₂a (by rw [hps]; exact hr.sub k2a) fun h₃ tk₃ st₃ => ?_
    have hz : ps = names.zip d := by rw [← hnm, ← hps]; exact (zip_self ps).symm
    rw [hz] at st₃
    refine turn i d Γ₁ O₁ hd hI _ _ A _ _ _ rm st₃ fun oc f h₄ tk₄ r ok => ?_
    cases oc with
    | next Γ' O' =>
      obtain ⟨rfl, st₄⟩ := ok
      refine ⟨ds.length + 1 - (i + 1), by omega, h₄, tk₄, Γ', O', _, i + 1, rfl, r, st₄, kb₂ hk₂, ?_, fun b hb => ?_, hlt, rfl⟩
      · refine (W A rm.1).frame _ _ _ hst₂ (fun b hb o e => ?_) st₄.kW
        exact st₄.sub _ _ (hideAll_get _ e (np₁ b hb))
      · obtain ⟨o, ho⟩ := hexA hk₂ hw₂ b hb
        exact ⟨o, hideAll_get _ ho (np₁ b hb)⟩
    | brk Γ' O' =>
      obtain ⟨rfl, st₄⟩ := ok
      exact fin (.next Γ' O') .next _ _ r ⟨rfl, (st₄.less_x fun a y => .inl y).base (bB.trans (kb₂ hk₂)) st.W st.x0⟩
    | ret d => obtain ⟨v, rfl, k1, k2⟩ := ok; exact fin (.ret d) (.ret v) _ _ r ⟨v, rfl, (bB.trans (kb₂ hk₂)).trans k1, k2.weak fun a y => .inl y⟩
  · have hin : i = ds.length := by omega
    subst hin
    refine (W A rm.1).done _ _ _ hsti fun h₂ tk₂ hk₂ ht₂ => ?_
    exact done Γ₁ O₁ hI A _ _ _ rm (st₁.ended once ht₂ hk₂ (fun b hb => np₁ b (wfp b hb)) (fun b o e => kb _ _ (bB _ _ e)) (fun b o e hm => by rw [bw b hm] at e; cases e) st.W st.x0) fin
end
end
section
section
variable {P : Cx} {n : Nat} {X : XS} {env : Env} {h : Heap} {e : Expr} {pos np : Pos} {f : Str}
theorem fresh_of {s : Shared} {h₁ : Heap} {b : Addr} (k : Sub s.heap h₁) (hb : h₁.objs.size ≤ b) : s.heap.get? b = none := one_fresh k hb
/-- a tuple that stands in the text's own world -/
theorem srcT_tup {t : Addr} {items : Array Value} {rows : List (Addr × List Value)} {ds : List (List D)} (hx : Ev P n X env h e (.val (.ref t))) (kW : Sub P.W h) (hW : P.W.IsTuple t items) (hr : items.toList = rows.map fun r => .ref r.1) (hRW : ∀ r ∈ rows, IsTup P.W r.1 r.2.toArray)
    (hd : ∀ (i : Nat) T vals, rows[i]? = some (T, vals) → ∃ d, ds[i]? = some d ∧ ∀ X h, Rds P X h d vals) (hl : ds.length = items.size) : SrcT P n X env h e ds := fun A s Q E rm a ret => by
  refine hx.run rm a fun v h' tk k a' r => ?_
  rw [show v = .ref t from r]
  have kW' : Sub P.W h' := kW.trans (a.sub.trans k)
  have hT : Heap.IsTuple h' t items := hW.at fun o x => kW' t o x
  refine wpAny_pyIter_tuple hT ?_
  have hne : ∀ b, (∃ o, P.W.get? b = some o) → b ≠ h'.objs.size := fun b ⟨o, ho⟩ q => absurd (Heap.lt_size (kW' b o ho)) (by rw [q]; exact Nat.lt_irrefl _)
  have htI : t ≠ h'.objs.size := hne t (let ⟨o, ho, _⟩ := hW; ⟨o, ho⟩)
  have hRI : ∀ r ∈ rows, r.1 ≠ h'.objs.size := fun r hm => hne r.1 (isTup_got (hRW r hm))
  have wt := fun (A' : Around) (hA : A'.handled = none) => wt_tup (prog := P.prog) (w := P.w) (W := P.W) hA h'.objs.size t htI items rows hr hRI hW hRW
  rw [← hl] at wt
  refine ret _ _ _ _ _ _ _ tk (k.trans (Sub.push _)) (a'.step (Sub.push _) (Nat.le_refl _)) wt ⟨⟨_, Heap.get?_push_size _ rfl, rfl, rfl⟩, hT.push _, fun r hm => isTup_at (hRW r hm) fun o x => Sub.push _ _ _ (kW' _ _ x)⟩ ?_ ?_ ?_ ?_
  · rintro i v ⟨T, hT'⟩
    obtain ⟨d, h1, h2⟩ := hd i T v hT'
    exact ⟨d, h1, h2 _ _⟩
  · intro b hb
    rw [List.mem_singleton.mp hb]
    exact ⟨⟨_, Heap.get?_push_size _ rfl⟩, a'.new⟩
  · intro b hb
    rw [List.mem_singleton.mp hb]
    exact one_fresh k (Nat.le_refl _)
  · intro i h₃ st b hb
    rw [List.mem_singleton.mp hb]
    obtain ⟨o, ho, _⟩ := st.1
    exact ⟨o, ho⟩

/-- enumerate over a tuple that stands in the text's own world -/
theorem srcT_enum {t : Addr} {items : Array Value} (hf : Ev P n X env h (.Name f np) (.val (.type "enumerate"))) (hx : Ev P n X env h e (.val (.ref t))) (kW : Sub P.W h) (hW : P.W.IsTuple t items)
    (hs : backTo pos (starEach [e] env) = [e].map fun e => (false, eval e env) := by kernel_rfl) (hp : ([e].map fun e => (false, eval e env)).any (·.1) = false := by kernel_rfl) :
    SrcT P n X env h (.Call (.Name f np) [e] [] pos) ((List.range items.size).map fun i => [.int (i : Nat), .val (items.getD i .none)]) := fun A s Q E rm a ret => by
  refine wpAny_Call_NameR (hf.run rm a fun v h' tk k a' r => ?_)
  rw [show v = .type "enumerate" from r, hs]
  refine PySem.callWith_type hp (evalArgs_plain ((Evs.cons hx .nil).run rm a' fun vs h'' tk' k' a'' r' => ?_))
  obtain ⟨v, rfl, hv⟩ := r'.one
  rw [show v = .ref t from hv]
  have kW' : Sub P.W h'' := kW.trans (a.sub.trans (k.trans k'))
  have hT : Heap.IsTuple h'' t items := hW.at fun o x => kW' t o x
  refine call_enumT hT fun h₃ he hit k₃ => ?_
  refine wpAny_pyIter_enum he ?_
  have hlt : t < h''.objs.size := let ⟨o, ho, _⟩ := hT; Heap.lt_size ho
  have got : ∀ b ∈ [h''.objs.size + 1, h''.objs.size], ∃ o, h₃.get? b = some o := fun b hb => by
    rcases List.mem_cons.mp hb with rfl | hb
    · exact ⟨_, he⟩
    · rw [List.mem_singleton.mp hb]; obtain ⟨o, ho, _⟩ := hit; exact ⟨o, ho⟩
  have new : ∀ b ∈ [h''.objs.size + 1, h''.objs.size], h''.objs.size ≤ b := fun b hb => by
    rcases List.mem_cons.mp hb with rfl | hb
    · exact Nat.le_succ _
    · rw [List.mem_singleton.mp hb]; exact Nat.le_refl _
  have kk : Sub s.heap h'' := k.trans k'
  have wt := fun (A' : Around) (hA : A'.handled = none) => wt_enum (prog := P.prog) (w := P.w) (W := P.W) hA (h''.objs.size + 1) h''.objs.size t (Nat.succ_ne_self _) (Nat.ne_of_lt (Nat.lt_succ_of_lt hlt)) (Nat.ne_of_lt hlt) items hW
  rw [← show ((List.range items.size).map fun i => [D.int (i : Nat), D.val (items.getD i .none)]).length = items.size by rw [List.length_map, List.length_range]] at wt
  refine ret _ _ _ _ _ _ h₃ tk' (kk.trans k₃) (a''.step k₃ (Nat.le_refl _)) wt ⟨⟨_, he⟩, hit, hT.at fun o x => k₃ t o x⟩ ?_ ?_ ?_ ?_
  · rintro i v ⟨tk₉, x, hx', rfl⟩
    have hi : i < items.size := by
      rcases Nat.lt_or_ge i items.size with q | q
      · exact q
      · rw [Array.getElem?_eq_none q] at hx'; cases hx'
    refine ⟨[.int (i : Nat), .val (items.getD i .none)], by simp [hi], _, _, rfl, ⟨tk₉, rfl⟩, _, _, rfl, ?_, rfl⟩
    show x = items.getD i .none
    rw [Array.getElem?_eq_getElem hi] at hx'
    injection hx' with hx'
    rw [← hx']
    simp [Array.getD, hi]
  · intro b hb
    refine ⟨got b hb, fun y => ?_⟩
    obtain ⟨o, ho⟩ := a''.xo b y
    exact absurd (Heap.lt_size ho) (Nat.not_lt.mpr (new b hb))
  · intro b hb
    exact one_fresh kk (new b hb)
  · rintro i h₄ ⟨⟨old, he'⟩, hit', _⟩ b hb
    rcases List.mem_cons.mp hb with rfl | hb
    · exact ⟨_, he'⟩
    · rw [List.mem_singleton.mp hb]; obtain ⟨o, ho, _⟩ := hit'; exact ⟨o, ho⟩
end
end
local macro_rules | `(tactic| k_asm) => `(tactic| first | assumption | exact St.kW (by assumption) | exact (St.kW (by assumption)).trans (by assumption) | omega | decide)
local macro_rules | `(tactic| k_mem) => `(tactic| first
  | assumption
  | with_reducible exact look_here
  | (with_reducible refine look_there ?_ ?_; (focus decide +kernel); k_mem))
local macro_rules | `(tactic| ktr_rel) => `(tactic| first
  | with_reducible exact ev_int
  | with_reducible exact ev_none
  | (with_reducible refine ev_name ⟨(by kernel_rfl), (by kernel_rfl), (by kernel_rfl)⟩ (St.vr (by assumption) ?_); k_mem)
  | (with_reducible refine ev_name ⟨(by kernel_rfl), (by kernel_rfl), (by kernel_rfl)⟩ ?_; assumption)
  | (with_reducible refine ev_name ⟨(by kernel_rfl), (by kernel_rfl), (by kernel_rfl)⟩ (Vr.free (by assumption) (St.vr (by assumption) ?_) (by assumption)); k_mem)
  | (with_reducible refine ev_bltn (by assumption) ⟨(by kernel_rfl), (by kernel_rfl), (by kernel_rfl)⟩ (by k_asm) (by first | exact blt_len | exact blt_range | exact blt_sum | exact blt_list | exact blt_isinstance | exact blt_object | exact blt_enumerate | exact blt_str))
  | with_reducible exact ev_strL _ (by decide +kernel)
  | (with_reducible refine' ev_add ?e0 ?e1; (case e0 => ktr_rel); (case e1 => ktr_rel))
  | (with_reducible refine' ev_sub ?e0 ?e1; (case e0 => ktr_rel); (case e1 => ktr_rel))
  | (with_reducible refine' ev_uneg ?e0; (case e0 => ktr_rel))
  | (with_reducible refine' ev_muls ?e0 ?e1 ?s0 ?s1; (case e0 => ktr_rel); (case e1 => ktr_rel); (case s0 => k_asm); (case s1 => k_asm))
  | (with_reducible refine' ev_fdiv ?e0 ?e1 ?s0 ?s1; (case e0 => ktr_rel); (case e1 => ktr_rel); (case s0 => k_asm); (case s1 => k_asm))
  | (with_reducible refine' ev_mod ?e0 ?e1 ?s0; (case e0 => ktr_rel); (case e1 => ktr_rel); (case s0 => k_asm))
  | (with_reducible refine' ev_range1 ?e0 ?e1; (case e0 => ktr_rel); (case e1 => ktr_rel))
  | (with_reducible refine' ev_range2 ?e0 ?e1 ?e2; (case e0 => ktr_rel); (case e1 => ktr_rel); (case e2 => ktr_rel))
  | (with_reducible refine' ev_len_str ?e0 ?e1 ?s0; (case e0 => ktr_rel); (case e1 => ktr_rel); (case s0 => k_asm))
  | (with_reducible refine' ev_len_list ?e0 ?e1 ?s0; (case e0 => ktr_rel); (case e1 => ktr_rel); (case s0 => k_asm))
  | (with_reducible refine' src_up (j := 0) ?e0 ?s0 ?s1 ?s2; (case e0 => ktr_rel); (case s0 => k_asm); (case s1 => k_asm); (case s2 => k_asm))
  | (with_reducible refine' src_up ?e0 ?s0 ?s1 ?s2; (case e0 => ktr_rel); (case s0 => k_asm); (case s1 => k_asm); (case s2 => k_asm))
  | (with_reducible refine' src_str ?e0; (case e0 => ktr_rel))
  | (with_reducible refine' src_list ?e0; (case e0 => ktr_rel))
  | (with_reducible refine' tt_cm ?e0; (case e0 => ktr_rel))
  | (with_reducible refine' ev_cm ?e0; (case e0 => ktr_rel))
  | (with_reducible refine' cm_ieq ?e0 ?e1; (case e0 => ktr_rel); (case e1 => ktr_rel))
  | (with_reducible refine' cm_ine ?e0 ?e1; (case e0 => ktr_rel); (case e1 => ktr_rel))
  | (with_reducible refine' cm_ilt ?e0 ?e1; (case e0 => ktr_rel); (case e1 => ktr_rel))
  | (with_reducible refine' cm_ile ?e0 ?e1; (case e0 => ktr_rel); (case e1 => ktr_rel))
  | (with_reducible refine' cm_seq ?e0 ?e1; (case e0 => ktr_rel); (case e1 => ktr_rel))
  | (with_reducible refine' cm_sne ?e0 ?e1; (case e0 => ktr_rel); (case e1 => ktr_rel))
  | (with_reducible refine' tt_not ?e0; (case e0 => ktr_rel)))
section
/-- one sign of a written text, at a place that is 0 or 1 -/
noncomputable def bit (x : Int) (k : Nat) : Int := x / 15 / 2 ^ k % 2
theorem bit_cases (x : Int) (k : Nat) : bit x k = 0 ∨ bit x k = 1 := by unfold bit; omega
noncomputable def lawSeg (x : Int) (i : Nat) : List Nat :=
  [[45, 114].getD (bit x (8 - 3 * i)).toNat 0] ++ [[45, 119].getD (bit x (7 - 3 * i)).toNat 0] ++
  [([[45, 120, 83, 115], [45, 120, 83, 115], [45, 120, 84, 116]].getD i []).getD (bit x (6 - 3 * i) + 2 * bit x (11 - i)).toNat 0]
noncomputable def lawMode (x : Int) : List Nat := [[100, 45, 108].getD (x % 3).toNat 0] ++ lawSeg x 0 ++ lawSeg x 1 ++ lawSeg x 2

theorem getD_some {l : List Nat} {i : Nat} (h : i < l.length) : l[i]? = some (l.getD i 0) := by
  rw [List.getD_eq_getElem?_getD, List.getElem?_eq_getElem h]; rfl
theorem mem_ups {k j : Int} {n : Nat} (hk : k ∈ ups j n) : j ≤ k ∧ k < j + n := by
  unfold ups at hk
  obtain ⟨i, hi, rfl⟩ := List.mem_map.mp hk
  have := List.mem_range.mp hi
  omega
theorem pow_room {b : Int} {k : Int} (hb : Builtin.Int.intBits b ≤ 64) (hk : k < 20) (h0 : 0 ≤ k) : (Builtin.Int.intBits b : Int) * k ≤ 2 ^ 27 := by
  have : (Builtin.Int.intBits b : Int) * k ≤ 64 * 20 := Int.mul_le_mul (by omega) (by omega) (by omega) (by omega)
  omega

noncomputable def sgn3 : List (List Nat) := [[45, 120, 83, 115], [45, 120, 83, 115], [45, 120, 84, 116]]
theorem sgn3_len {i : Nat} (h : i < 3) : (sgn3.getD i []).length = 4 := by match i, h with | 0, _ | 1, _ | 2, _ => rfl
theorem sgn3_get {i : Nat} (h : i < 3) : ([.str [45, 120, 83, 115], .str [45, 120, 83, 115], .str [45, 120, 84, 116]] : List D)[(0 + (i : Int)).toNat]? = some (.str (sgn3.getD i [])) := by match i, h with | 0, _ | 1, _ | 2, _ => rfl
noncomputable def modeTx (x : Int) (i : Nat) : List Nat := ((List.range i).map (lawSeg x)).foldl (· ++ ·) [[100, 45, 108].getD (x % 3).toNat 0]
theorem modeTx_len (x : Int) {i : Nat} (h : i < 3) : (modeTx x i).length ≤ 1000 := by match i, h with | 0, _ | 1, _ | 2, _ => simp [modeTx, List.range_succ, lawSeg]
theorem modeTx_succ (x : Int) (i : Nat) : modeTx x (i + 1) = modeTx x i ++ [[45, 114].getD (bit x (8 - 3 * i)).toNat 0] ++ [[45, 119].getD (bit x (7 - 3 * i)).toNat 0] ++ [(sgn3.getD i []).getD (bit x (6 - 3 * i) + 2 * bit x (11 - i)).toNat 0] := by
  unfold modeTx; rw [List.range_succ, List.map_append, List.foldl_append]
  show _ ++ lawSeg x i = _
  simp only [lawSeg, sgn3, List.append_assoc]
theorem mode_cn {P : Cx} (W : Wd P) (x : Int) : Cn P 1 (Str.ofString "_law_mode") [.int x] (.str (lawMode x)) := by
  have e : recOf (Str.ofString "_law_mode") = recOf (Str.ofString "_law_mode") := rfl
  conv at e => rhs; whnf
  refine cn_of W [(Str.ofString "x", .int x)] [Str.ofString "x"] rfl (List.cons_ne_nil _ _) e ?_ rfl ?_ (by decide +kernel) (by decide +kernel) ?_
  · intro pm cd doc vs h; match vs, h with | [v], _ => rfl
  · intro n x hx; rw [List.mem_singleton.mp hx]; exact .inr ⟨by kernel_rfl, by kernel_rfl⟩
  intro X B L a cd once
  clear e
  dsimp only at once ⊢
  with_reducible refine tr_compI (ns := ups 0 12) (q := fun _ => true) (g := fun k => .int (bit x k.toNat)) (fun s st => ?_) ?_ (fun s st k hk C h' kk V => tts_nil) (fun k => flat_int) (fun s st k hk _ C h' kk V => ?_) ?_
  · exact src_rng (j := 0) (k := 12) (by ktr_rel) (by decide) (by decide) (by decide)
  · decide
  · have hk' := mem_ups hk
    have hp : (2 : Int) ^ k.toNat < 2 ^ 20 ∧ 0 < (2 : Int) ^ k.toNat := by
      have : k.toNat < 12 := by omega
      generalize k.toNat = j at *
      match j, this with
      | 0, _ | 1, _ | 2, _ | 3, _ | 4, _ | 5, _ | 6, _ | 7, _ | 8, _ | 9, _ | 10, _ | 11, _ => decide
    exact ev_mod (a := x / 15 / 2 ^ k.toNat) (b := 2) (ev_fdiv (by ktr_rel) (ev_pow (by ktr_rel) (by ktr_rel) hk'.1 (pow_room (by decide +kernel) (by omega) hk'.1)) hp.2 hp.1) (by ktr_rel) (by decide)
  have hbits : ((ups 0 12).filter fun _ => true).map (fun k => D.int (bit x k.toNat)) = [0, 1, 2, 3, 4, 5, 6, 7, 8, 9, 10, 11].map fun k => D.int (bit x k) := rfl
  rw [hbits]
  have hb : ∀ {j : Int} {k : Nat}, j = k → k < 12 → ([0, 1, 2, 3, 4, 5, 6, 7, 8, 9, 10, 11].map fun k => D.int (bit x k))[j.toNat]? = some (D.int (bit x k)) := fun {j k} e hk => by
    subst e
    match k, hk with
    | 0, _ | 1, _ | 2, _ | 3, _ | 4, _ | 5, _ | 6, _ | 7, _ | 8, _ | 9, _ | 10, _ | 11, _ => rfl
  have hlen : ([0, 1, 2, 3, 4, 5, 6, 7, 8, 9, 10, 11].map fun k => D.int (bit x k)).length ≤ 1000000 := by simp
  generalize ([0, 1, 2, 3, 4, 5, 6, 7, 8, 9, 10, 11].map fun k => D.int (bit x k)) = bits at hb hlen ⊢
  with_reducible refine tr_setL (d := .str [[100, 45, 108].getD (x % 3).toNat 0]) (fun s st => ?_) ?_
  · exact ev_chr (x := [100, 45, 108]) (i := x % 3) (by ktr_rel) (by ktr_rel) (by omega) (getD_some (by simp; omega)) (by decide)
  with_reducible refine tr_forL (ds := (ups 0 3).map D.int) (fun i Γ O => Γ.lookup (Str.ofString "text") = some (.str (modeTx x i)) ∧ Γ.lookup (Str.ofString "bits") = some (.list bits) ∧ O = []) (fun oc => ∃ Γ, oc = .next Γ [] ∧ Γ.lookup (Str.ofString "text") = some (.str (lawMode x))) once (fun s st => src_rng (j := 0) (k := 3) (by ktr_rel) (by decide) (by decide) (by decide)) ⟨look_here, (by k_mem), rfl⟩ ?_ ?_ ?_ ?_ ?_
  · rintro i d Γ₁ O₁ hd ⟨h1, h2, rfl⟩ X' B'
    have hi : i < 3 := by
      rcases Nat.lt_or_ge i 3 with q | q
      · exact q
      · rw [List.getElem?_eq_none (by simpa [ups_length] using q)] at hd; cases hd
    rw [List.getElem?_map, ups_get hi] at hd
    cases hd
    have c1 := bit_cases x (8 - 3 * i)
    have c2 := bit_cases x (7 - 3 * i)
    have c3 := bit_cases x (6 - 3 * i)
    have c4 := bit_cases x (11 - i)
    have hTx : (modeTx x i).length ≤ 1000 := modeTx_len x hi
    with_reducible refine tr_setL (d := .str (modeTx x (i + 1))) (fun s st => ?_) (tr_nil ⟨look_here, ?_, rfl⟩)
    · rw [modeTx_succ]
      with_reducible refine ev_cat (ev_cat (ev_cat ?_ ?_ ?_) ?_ ?_) ?_ ?_
      · ktr_rel
      · with_reducible refine ev_chr (x := [45, 114]) (i := bit x (8 - 3 * i)) ?_ (ev_item (i := 8 - 3 * (0 + i)) ?_ ?_ ?_ (hb ?_ ?_) hlen) ?_ (getD_some ?_) ?_ <;> first | ktr_rel | k_asm | (simp; omega)
      · simp; omega
      · with_reducible refine ev_chr (x := [45, 119]) (i := bit x (7 - 3 * i)) ?_ (ev_item (i := 7 - 3 * (0 + i)) ?_ ?_ ?_ (hb ?_ ?_) hlen) ?_ (getD_some ?_) ?_ <;> first | ktr_rel | k_asm | (simp; omega)
      · simp; omega
      · have hl := sgn3_len hi
        with_reducible refine ev_chr (x := sgn3.getD i []) (i := bit x (6 - 3 * i) + 2 * bit x (11 - i)) ?_ ?_ ?_ (getD_some ?_) ?_
        · with_reducible refine ev_item (ds := [.str [45, 120, 83, 115], .str [45, 120, 83, 115], .str [45, 120, 84, 116]]) (i := 0 + i) (ev_list (.cons ?_ (.cons ?_ (.cons ?_ .nil)))) ?_ ?_ ?_ ?_
          iterate 4 ktr_rel
          · omega
          · exact sgn3_get hi
          · decide
        · with_reducible refine ev_add (ev_item (i := 6 - 3 * (0 + i)) ?_ ?_ ?_ (hb ?_ ?_) hlen) (ev_muls ?_ (ev_item (i := 11 - (0 + i)) ?_ ?_ ?_ (hb ?_ ?_) hlen) ?_ ?_) <;> first | ktr_rel | k_asm
        · omega
        · omega
        · omega
      · simp; omega
    · refine look_there (by decide +kernel) (look_there (by decide +kernel) h2)
  · rintro Γ₁ O₁ ⟨h1, h2, rfl⟩
    exact tr_nil ⟨Γ₁, rfl, h1⟩
  · rintro Γ' O' ⟨Γ, e, h⟩
    cases e
    exact tr_ret (fun s st => by ktr_rel) rfl
  · rintro Γ' O' ⟨Γ, e, h⟩; cases e
  · rintro d ⟨Γ, e, h⟩; cases e
end
section
noncomputable def lawTail (x : Int) : List Nat := [[], [9], [39], [9]].getD (x % 4).toNat []
noncomputable def lawRow (x : Int) : List Nat := lawMode x ++ [32] ++ ((ups 0 (x / 3 % 5).toNat).map fun k => [[38, 60, 62, 34, 46, 10, 13].getD (x / 15 / 7 ^ k.toNat % 7).toNat 0]).flatten ++ lawTail x
noncomputable def lawPat (y : Int) : List Nat := [[100, 45, 108, 63, 42].getD (y % 5).toNat 0] ++ [63, 63, 63, 63, 63, 63, 63, 63, 63] ++ [32] ++ ((ups 0 (y / 5 % 7).toNat).map fun k => [[42, 38, 60, 62, 34, 46].getD (y / 35 / 6 ^ k.toNat % 6).toNat 0]).flatten
theorem flat_ones {α : Type} {f : α → Nat} : ∀ (l : List α), (l.map fun k => [f k]).flatten.length = l.length
  | [] => rfl
  | a :: l => by simp [flat_ones l]
theorem mode_len (x : Int) : (lawMode x).length = 10 := by simp [lawMode, lawSeg]
theorem pow7 {k : Int} (h : 0 ≤ k ∧ k < 5) : (7 : Int) ^ k.toNat < 2 ^ 20 ∧ 0 < (7 : Int) ^ k.toNat := by
  have : k.toNat < 5 := by omega
  generalize k.toNat = j at *
  match j, this with
  | 0, _ | 1, _ | 2, _ | 3, _ | 4, _ => decide
theorem pow6 {k : Int} (h : 0 ≤ k ∧ k < 7) : (6 : Int) ^ k.toNat < 2 ^ 20 ∧ 0 < (6 : Int) ^ k.toNat := by
  have : k.toNat < 7 := by omega
  generalize k.toNat = j at *
  match j, this with
  | 0, _ | 1, _ | 2, _ | 3, _ | 4, _ | 5, _ | 6, _ => decide
theorem tail_get (x : Int) : ([.str [], .str [9], .str [39], .str [9]] : List D)[(x % 4).toNat]? = some (.str (lawTail x)) := by
  have : x % 4 = 0 ∨ x % 4 = 1 ∨ x % 4 = 2 ∨ x % 4 = 3 := by omega
  unfold lawTail
  rcases this with h | h | h | h <;> rw [h] <;> rfl

theorem tail_len (x : Int) : (lawTail x).length ≤ 1 := by
  have : x % 4 = 0 ∨ x % 4 = 1 ∨ x % 4 = 2 ∨ x % 4 = 3 := by omega
  unfold lawTail
  rcases this with h | h | h | h <;> rw [h] <;> decide
theorem all_filter {α : Type} {l : List α} : l.filter (fun _ => true) = l := List.filter_eq_self.mpr fun _ _ => rfl
set_option maxHeartbeats 2000000 in
theorem row_cn {P : Cx} (W : Wd P) (x : Int) : Cn P 2 (Str.ofString "_law_row") [.int x] (.str (lawRow x)) := by
  have e : recOf (Str.ofString "_law_row") = recOf (Str.ofString "_law_row") := rfl
  conv at e => rhs; whnf
  refine cn_of W [(Str.ofString "x", .int x)] [Str.ofString "x"] rfl (by decide +kernel) e ?_ rfl ?_ (by decide +kernel) (by decide +kernel) ?_
  · intro pm cd doc vs h; match vs, h with | [v0], _ => rfl
  · exact fun n => List.forall_mem_cons.mpr ⟨.inr ⟨by kernel_rfl, by kernel_rfl⟩, fun _ h => nomatch h⟩
  intro X B L a cd once
  clear e
  dsimp only at once ⊢
  have hm : x / 3 % 5 = ((x / 3 % 5).toNat : Int) := by omega
  have hl := mode_len x
  have ht := tail_len x
  generalize hr : (x / 3 % 5).toNat = r at hm
  have hr5 : r < 5 := by omega
  with_reducible refine tr_ret (d := .str (lawRow x)) (fun s st => ?_) rfl
  unfold lawRow
  rw [hr]
  with_reducible refine ev_cat (ev_cat (ev_cat ?_ ?_ ?_) ?_ ?_) ?_ ?_
  · with_reducible exact ev_calln W ⟨(by kernel_rfl), (by kernel_rfl), (by kernel_rfl)⟩ st.kW (mode_cn W x) (.cons (by ktr_rel) .nil)
  · ktr_rel
  · simp; omega
  · have hc := flat_ones (f := fun k => [38, 60, 62, 34, 46, 10, 13].getD (x / 15 / 7 ^ k.toNat % 7).toNat 0) (ups 0 r)
    rw [ups_length] at hc
    with_reducible refine ev_join (by ktr_rel) (ev_compI (ns := ups 0 r) (q := fun _ => true) (g := fun k => .str [[38, 60, 62, 34, 46, 10, 13].getD (x / 15 / 7 ^ k.toNat % 7).toNat 0]) ?_ ?_ (fun k hk C h' kk V => tts_nil) (fun k => flat_str) (fun k hk _ C h' kk V => ?_)) ?_ ?_
    · ktr_rel
    · rw [ups_length]; omega
    · have hk' := mem_ups hk
      have hp := pow7 (k := k) (by omega)
      with_reducible refine ev_chr (x := [38, 60, 62, 34, 46, 10, 13]) (i := x / 15 / 7 ^ k.toNat % 7) ?_ (ev_mod (ev_fdiv ?_ (ev_pow ?_ ?_ hk'.1 (pow_room (by decide +kernel) (by omega) hk'.1)) hp.2 hp.1) ?_ ?_) ?_ (getD_some ?_) ?_
      iterate 5 ktr_rel
      · decide
      · omega
      · simp; omega
      · decide
    · rw [all_filter, List.map_map]; rfl
    · rw [hc, List.length_map, ups_length]; omega
  · have hc := flat_ones (f := fun k => [38, 60, 62, 34, 46, 10, 13].getD (x / 15 / 7 ^ k.toNat % 7).toNat 0) (ups 0 r)
    rw [ups_length] at hc
    simp only [List.length_append, List.length_singleton]; omega
  · with_reducible refine ev_item (ds := [.str [], .str [9], .str [39], .str [9]]) (i := x % 4) (ev_list (.cons ?_ (.cons ?_ (.cons ?_ (.cons ?_ .nil))))) ?_ ?_ (tail_get x) ?_
    iterate 5 ktr_rel
    · omega
    · decide
  · have hc := flat_ones (f := fun k => [38, 60, 62, 34, 46, 10, 13].getD (x / 15 / 7 ^ k.toNat % 7).toNat 0) (ups 0 r)
    rw [ups_length] at hc
    simp only [List.length_append, List.length_singleton]; omega

set_option maxHeartbeats 2000000 in
theorem pat_cn {P : Cx} (W : Wd P) (y : Int) : Cn P 1 (Str.ofString "_law_pattern") [.int y] (.str (lawPat y)) := by
  have e : recOf (Str.ofString "_law_pattern") = recOf (Str.ofString "_law_pattern") := rfl
  conv at e => rhs; whnf
  refine cn_of W [(Str.ofString "y", .int y)] [Str.ofString "y"] rfl (by decide +kernel) e ?_ rfl ?_ (by decide +kernel) (by decide +kernel) ?_
  · intro pm cd doc vs h; match vs, h with | [v0], _ => rfl
  · exact fun n => List.forall_mem_cons.mpr ⟨.inr ⟨by kernel_rfl, by kernel_rfl⟩, fun _ h => nomatch h⟩
  intro X B L a cd once
  clear e
  dsimp only at once ⊢
  have hm : y / 5 % 7 = ((y / 5 % 7).toNat : Int) := by omega
  generalize hr : (y / 5 % 7).toNat = r at hm
  have hr5 : r < 7 := by omega
  have hc := flat_ones (f := fun k => [42, 38, 60, 62, 34, 46].getD (y / 35 / 6 ^ k.toNat % 6).toNat 0) (ups 0 r)
  rw [ups_length] at hc
  with_reducible refine tr_ret (d := .str (lawPat y)) (fun s st => ?_) rfl
  unfold lawPat
  rw [hr]
  with_reducible refine ev_cat (ev_cat (ev_cat ?_ ?_ ?_) ?_ ?_) ?_ ?_
  · with_reducible refine ev_chr (x := [100, 45, 108, 63, 42]) (i := y % 5) ?_ ?_ ?_ (getD_some ?_) ?_
    · ktr_rel
    · ktr_rel
    · omega
    · simp; omega
    · decide
  · exact ev_eq (ev_rep (x := [63]) (k := 9) (by ktr_rel) (by ktr_rel) (by unfold MulOk; decide +kernel)) (by congr 1)
  · simp
  · ktr_rel
  · simp
  · with_reducible refine ev_join (by ktr_rel) (ev_compI (ns := ups 0 r) (q := fun _ => true) (g := fun k => .str [[42, 38, 60, 62, 34, 46].getD (y / 35 / 6 ^ k.toNat % 6).toNat 0]) ?_ ?_ (fun k hk C h' kk V => tts_nil) (fun k => flat_str) (fun k hk _ C h' kk V => ?_)) ?_ ?_
    · ktr_rel
    · rw [ups_length]; omega
    · have hk' := mem_ups hk
      have hp := pow6 (k := k) (by omega)
      with_reducible refine ev_chr (x := [42, 38, 60, 62, 34, 46]) (i := y / 35 / 6 ^ k.toNat % 6) ?_ (ev_mod (ev_fdiv ?_ (ev_pow ?_ ?_ hk'.1 (pow_room (by decide +kernel) (by omega) hk'.1)) hp.2 hp.1) ?_ ?_) ?_ (getD_some ?_) ?_
      iterate 5 ktr_rel
      · decide
      · omega
      · simp; omega
      · decide
    · rw [all_filter, List.map_map]; rfl
    · rw [hc, List.length_map, ups_length]; omega
  · simp only [List.length_append, List.length_cons, List.length_nil]; omega
end
section
theorem src_sgn {P : Cx} {n : Nat} {X : XS} {env : Env} {h : Heap} {iter : Expr} {y : List Nat} (x : Ev P n X env h iter (.str y)) : Src P n X env h iter ((y.map fun c => [c]).map D.str) := by
  rw [List.map_map]; exact src_str x
abbrev Run := List (List Nat)
noncomputable def dRun (r : Run) : D := .list (r.map D.str)
noncomputable def stands (run : Run) (w : List Nat) (p : Nat) : Bool :=
  decide ((p : Int) + run.length ≤ w.length) && (((ups 0 run.length).filter fun k => !([[], [w.getD (p + k.toNat) 0]].any (· == run.getD k.toNat []))) == [])
theorem get_getD {α : Type} {l : List α} {i : Nat} {d : α} (h : i < l.length) : l[i]? = some (l.getD i d) := by
  rw [List.getD_eq_getElem?_getD, List.getElem?_eq_getElem h]; rfl
set_option maxHeartbeats 2000000 in
theorem stands_cn {P : Cx} (W : Wd P) (run : Run) (w : List Nat) (p : Nat) (hr : run.length ≤ 1000) (hw : w.length ≤ 1000) (hp : p ≤ 1000) : Cn P 1 (Str.ofString "_law_stands") [.list (run.map D.str), .str w, .int p] (.bool (stands run w p)) := by
  have e : recOf (Str.ofString "_law_stands") = recOf (Str.ofString "_law_stands") := rfl
  conv at e => rhs; whnf
  refine cn_of W [(Str.ofString "run", .list (run.map D.str)), (Str.ofString "word", .str w), (Str.ofString "place", .int p)] [Str.ofString "run", Str.ofString "word", Str.ofString "place"] rfl (by decide +kernel) e ?_ rfl ?_ (by decide +kernel) (by decide +kernel) ?_
  · intro pm cd doc vs h; match vs, h with | [v0, v1, v2], _ => rfl
  · exact fun n => List.forall_mem_cons.mpr ⟨.inr ⟨by kernel_rfl, by kernel_rfl⟩, List.forall_mem_cons.mpr ⟨.inr ⟨by kernel_rfl, by kernel_rfl⟩, List.forall_mem_cons.mpr ⟨.inr ⟨by kernel_rfl, by kernel_rfl⟩, fun _ h => nomatch h⟩⟩⟩
  intro X B L a cd once
  clear e
  dsimp only at once ⊢
  with_reducible refine tr_ret (d := .bool (stands run w p)) (fun s st => ?_) rfl
  unfold stands
  with_reducible refine ev_and2 (ev_cm (cm_ile (ev_add ?_ (ev_eq (ev_len_list (ds := run.map D.str) ?_ ?_ ?_) ?_)) ?_)) (fun hc => ev_cm (cm_Leq (ms := []) (ev_compI (ns := ups 0 run.length) (q := fun k => !([[], [w.getD (p + k.toNat) 0]].any (· == run.getD k.toNat []))) (g := D.int) ?_ ?_ (fun k hk C h' kk V => tts_one (tt_cm ?_)) (fun k => flat_int) (fun k hk _ C h' kk V => ?_)) (ev_list .nil) rfl rfl))
  · ktr_rel
  · ktr_rel
  · ktr_rel
  · rw [List.length_map]; omega
  · rw [List.length_map]
  · ktr_rel
  · with_reducible refine src_up (j := 0) (k := run.length) (ev_range1 ?_ (ev_eq (ev_len_list (ds := run.map D.str) ?_ ?_ ?_) ?_)) ?_ ?_ ?_
    iterate 3 ktr_rel
    · rw [List.length_map]; omega
    · rw [List.length_map]
    · omega
    · omega
    · omega
  · rw [ups_length]; omega
  · have hk' := mem_ups hk
    have hc' := of_decide_eq_true hc
    with_reducible refine cm_sninl (x := run.getD k.toNat []) (ss := [[], [w.getD (p + k.toNat) 0]]) (ev_item (ds := run.map D.str) (i := k) ?_ ?_ ?_ ?_ ?_) (ev_list (.cons ?_ (.cons (ev_chr (x := w) (i := p + k) ?_ (ev_add ?_ ?_) ?_ ?_ ?_) .nil))) rfl
    · ktr_rel
    · ktr_rel
    · omega
    · rw [List.getElem?_map, get_getD (d := []) (by omega)]; rfl
    · rw [List.length_map]; omega
    · ktr_rel
    · ktr_rel
    · ktr_rel
    · ktr_rel
    · omega
    · rw [show ((p : Int) + k).toNat = p + k.toNat by omega]; exact getD_some (by omega)
    · omega
  · ktr_rel

noncomputable def written (kv : List (List Nat × List Nat)) (y : List Nat) : List Nat := (y.map fun c => (kv.lookup [c]).getD [c]).flatten
set_option maxHeartbeats 2000000 in
theorem written_cn {P : Cx} (W : Wd P) (kv : List (List Nat × List Nat)) (y : List Nat) (hy : y.length ≤ 1000) (hl : (written kv y).length ≤ 50000) : Cn P 1 (Str.ofString "_law_written") [.dict kv, .str y] (.str (written kv y)) := by
  have e : recOf (Str.ofString "_law_written") = recOf (Str.ofString "_law_written") := rfl
  conv at e => rhs; whnf
  refine cn_of W [(Str.ofString "table", .dict kv), (Str.ofString "text", .str y)] [Str.ofString "table", Str.ofString "text"] rfl (by decide +kernel) e ?_ rfl ?_ (by decide +kernel) (by decide +kernel) ?_
  · intro pm cd doc vs h; match vs, h with | [v0, v1], _ => rfl
  · exact fun n => List.forall_mem_cons.mpr ⟨.inr ⟨by kernel_rfl, by kernel_rfl⟩, List.forall_mem_cons.mpr ⟨.inl (by kernel_rfl), fun _ h => nomatch h⟩⟩
  intro X B L a cd once
  clear e
  dsimp only at once ⊢
  with_reducible refine tr_ret (d := .str (written kv y)) (fun s st => ?_) rfl
  unfold written
  with_reducible refine ev_join (ls := y.map fun c => (kv.lookup [c]).getD [c]) ?_ (ev_compS (ns := y.map fun c => [c]) (q := fun _ => true) (g := fun s => .str ((kv.lookup s).getD s)) (src_sgn ?_) ?_ (fun k hk C h' kk V => tts_nil) (fun k => flat_str) (fun k hk _ C h' kk V => ev_if (tt_cm (cm_in_dict (kv := kv) (x := k) ?_ ?_)) (fun hc => ?_) (fun hc => ?_))) ?_ ?_
  · ktr_rel
  · ktr_rel
  · rw [List.length_map]; omega
  · ktr_rel
  · ktr_rel
  · obtain ⟨z, hz⟩ := Option.isSome_iff_exists.mp hc
    rw [hz, Option.getD_some]
    with_reducible refine ev_ditem (kv := kv) (x := k) ?_ ?_ hz
    · ktr_rel
    · ktr_rel
  · rw [Option.isSome_eq_false_iff, Option.isNone_iff_eq_none] at hc
    rw [hc, Option.getD_none]
    ktr_rel
  · rw [all_filter, List.map_map, List.map_map]; rfl
  · have : (y.map fun c => (kv.lookup [c]).getD [c]).length = y.length := List.length_map ..
    unfold written at hl; omega

noncomputable def fitStep (w : List Nat) (c : Nat) (pl : List Int) : List Int :=
  if c = 42 then (if (pl != []) = true then ups (pl.getD 0 0) (w.length + 1 - (pl.getD 0 0).toNat) else [])
  else (pl.filter fun k => decide (k < (w.length : Int)) && ([[63], [w.getD k.toNat 0]].any (· == [c]) && true)).map (· + 1)
noncomputable def fits (p w : List Nat) : Bool := (p.foldl (fun pl c => fitStep w c pl) [0]).any (· == (w.length : Int))
noncomputable def Places (w : List Nat) (pl : List Int) : Prop := pl.length ≤ w.length + 1 ∧ ∀ k ∈ pl, 0 ≤ k ∧ k ≤ w.length
theorem Places.step {w : List Nat} {c : Nat} {pl : List Int} (h : Places w pl) : Places w (fitStep w c pl) := by
  unfold fitStep
  split
  · split
    · rename_i hn
      have : 0 ≤ pl.getD 0 0 ∧ pl.getD 0 0 ≤ w.length := by
        cases pl with
        | nil => exact absurd hn (by decide)
        | cons a r => exact h.2 a (.head _)
      refine ⟨by rw [ups_length]; omega, fun k hk => ?_⟩
      have := mem_ups hk
      omega
    · exact ⟨by simp, fun k hk => by cases hk⟩
  · refine ⟨by rw [List.length_map]; exact Nat.le_trans (List.length_filter_le _ _) h.1, fun k hk => ?_⟩
    obtain ⟨j, hj, rfl⟩ := List.mem_map.mp hk
    obtain ⟨h1, h2⟩ := List.mem_filter.mp hj
    have := h.2 j h1
    have h3 := (Bool.and_eq_true _ _ ▸ h2).1
    have := of_decide_eq_true h3
    omega
theorem Places.fold {w : List Nat} : ∀ {p : List Nat} {pl : List Int}, Places w pl → Places w (p.foldl (fun pl c => fitStep w c pl) pl)
  | [], pl, h => h
  | c :: p, pl, h => Places.fold (p := p) h.step
theorem Places.zero (w : List Nat) : Places w [0] := ⟨by simp, fun k hk => by rw [List.mem_singleton.mp hk]; omega⟩
set_option maxHeartbeats 2000000 in
theorem fits_cn {P : Cx} (W : Wd P) (pat w : List Nat) (hw : w.length ≤ 1000) : Cn P 1 (Str.ofString "_law_fits") [.str pat, .str w] (.bool (fits pat w)) := by
  have e : recOf (Str.ofString "_law_fits") = recOf (Str.ofString "_law_fits") := rfl
  conv at e => rhs; whnf
  refine cn_of W [(Str.ofString "pattern", .str pat), (Str.ofString "word", .str w)] [Str.ofString "pattern", Str.ofString "word"] rfl (by decide +kernel) e ?_ rfl ?_ (by decide +kernel) (by decide +kernel) ?_
  · intro pm cd doc vs h; match vs, h with | [v0, v1], _ => rfl
  · exact fun n => List.forall_mem_cons.mpr ⟨.inl (by kernel_rfl), List.forall_mem_cons.mpr ⟨.inr ⟨by kernel_rfl, by kernel_rfl⟩, fun _ h => nomatch h⟩⟩
  intro X B L a cd once
  clear e
  dsimp only at once ⊢
  with_reducible refine tr_setL (d := .list ([0].map D.int)) (fun s st => ev_list (.cons ?_ .nil)) ?_
  · ktr_rel
  with_reducible refine tr_forC (ds := (pat.map fun c => [c]).map D.str) (fun i Γ O => Γ.lookup (Str.ofString "places") = some (.list (((pat.take i).foldl (fun pl c => fitStep w c pl) [0]).map D.int)) ∧ Γ.lookup (Str.ofString "word") = some (.str w) ∧ O = []) (fun oc => ∃ Γ, oc = .next Γ [] ∧ Γ.lookup (Str.ofString "places") = some (.list ((pat.foldl (fun pl c => fitStep w c pl) [0]).map D.int)) ∧ Γ.lookup (Str.ofString "word") = some (.str w)) once (fun s st => src_sgn ?_) ⟨?_, ?_, rfl⟩ ?_ ?_ ?_ ?_ ?_
  · ktr_rel
  · exact look_here
  · k_mem
  · rintro i d Γ₁ O₁ hd ⟨h1, h2, rfl⟩ X' B'
    rw [List.map_map, List.getElem?_map] at hd
    obtain ⟨c, hc, rfl⟩ := Option.map_eq_some_iff.mp hd
    have hpl : Places w ((pat.take i).foldl (fun pl c => fitStep w c pl) [0]) := (Places.zero w).fold
    have hstep : (pat.take (i + 1)).foldl (fun pl c => fitStep w c pl) [0] = fitStep w c ((pat.take i).foldl (fun pl c => fitStep w c pl) [0]) := by
      rw [List.take_add_one, hc, List.foldl_append]; rfl
    rw [hstep]
    clear hstep hd
    generalize (pat.take i).foldl (fun pl c => fitStep w c pl) [0] = pl at h1 hpl ⊢
    have hlen := hpl.1
    show Tr P 0 X' B' _ ((Str.ofString "sign", .str [c]) :: Γ₁) [] _ _
    have hbe : ([c] == [42]) = decide (c = 42) := by rw [Bool.eq_iff_iff]; simp
    with_reducible refine tr_if (b := decide (c = 42)) (fun s st => tt_eq (tt_cm (cm_seq (x := [c]) (y := [42]) ?_ ?_)) hbe) (R₁ := fun oc => ∃ Γ', oc = .next Γ' [] ∧ Γ'.lookup (Str.ofString "places") = some (.list ((fitStep w c pl).map D.int)) ∧ Γ'.lookup (Str.ofString "word") = some (.str w)) (fun hc => ?_) (fun hc => ?_) ?_ ?_ ?_
    · ktr_rel
    · ktr_rel
    · have hc' := of_decide_eq_true hc
      have hfs : fitStep w c pl = if (pl != []) = true then ups (pl.getD 0 0) (w.length + 1 - (pl.getD 0 0).toNat) else [] := by unfold fitStep; rw [if_pos hc']
      with_reducible refine tr_setL (d := .list ((fitStep w c pl).map D.int)) (fun s st => ev_if (c := pl != []) (tt_cm (cm_Lne (ms := []) ?_ (ev_list .nil) rfl rfl)) (fun hn => ?_) (fun hn => ?_)) (tr_nil ⟨_, rfl, look_here, ?_⟩)
      · refine ev_name ⟨by kernel_rfl, by kernel_rfl, by kernel_rfl⟩ (St.vr (by assumption) (look_there (by decide +kernel) h1))
      · rw [hfs, if_pos hn]
        have hp0 : 0 ≤ pl.getD 0 0 ∧ pl.getD 0 0 ≤ w.length ∧ 0 < pl.length := by
          cases pl with
          | nil => exact absurd hn (by decide)
          | cons a r => exact ⟨(hpl.2 a (.head _)).1, (hpl.2 a (.head _)).2, Nat.succ_pos _⟩
        have q : (((w.length : Int) + 1) - pl.getD 0 0).toNat = w.length + 1 - (pl.getD 0 0).toNat := by omega
        rw [← q]
        with_reducible refine ev_list_range ?_ (ev_range2 ?_ (ev_item (ds := pl.map D.int) (i := 0) ?_ ?_ ?_ ?_ ?_) (ev_add (ev_len_str (x := w) ?_ ?_ ?_) ?_)) ?_ ?_ ?_
        · ktr_rel
        · ktr_rel
        · refine ev_name ⟨by kernel_rfl, by kernel_rfl, by kernel_rfl⟩ (St.vr (by assumption) (look_there (by decide +kernel) h1))
        · ktr_rel
        · omega
        · show (pl.map D.int)[0]? = _
          rw [List.getElem?_map, get_getD (d := 0) hp0.2.2]; rfl
        · rw [List.length_map]; omega
        · ktr_rel
        · refine ev_name ⟨by kernel_rfl, by kernel_rfl, by kernel_rfl⟩ (St.vr (by assumption) (look_there (by decide +kernel) h2))
        · omega
        · ktr_rel
        · omega
        · omega
        · omega
      · rw [hfs, if_neg (by rw [hn]; decide)]
        with_reducible exact ev_list .nil
      · exact look_there (by decide +kernel) (look_there (by decide +kernel) h2)
    · have hc' := of_decide_eq_false hc
      have hfs : fitStep w c pl = (pl.filter fun k => decide (k < (w.length : Int)) && ([[63], [w.getD k.toNat 0]].any (· == [c]) && true)).map (· + 1) := by unfold fitStep; rw [if_neg hc']
      rw [hfs]
      with_reducible refine tr_compI (ns := pl) (q := fun k => decide (k < (w.length : Int)) && ([[63], [w.getD k.toNat 0]].any (· == [c]) && true)) (g := fun k => .int (k + 1)) (fun s st => src_list ?_) ?_ (fun s st k hk C h' kk V => tts_one (tt_and (tt_cm (cm_ilt ?_ (ev_len_str (x := w) ?_ ?_ ?_))) (fun hlt => tt_and (tt_cm (cm_sinl (x := [c]) (ss := [[63], [w.getD k.toNat 0]]) ?_ (ev_list (.cons ?_ (.cons (ev_chr (x := w) (i := k) ?_ ?_ ?_ (getD_some ?_) ?_) .nil))) rfl)) (fun _ => tt_and_nil)))) (fun k => flat_int) (fun s st k hk _ C h' kk V => ?_) (tr_nil ⟨_, rfl, ?_, ?_⟩)
      · refine ev_name ⟨by kernel_rfl, by kernel_rfl, by kernel_rfl⟩ (St.vr (by assumption) (look_there (by decide +kernel) h1))
      · omega
      · ktr_rel
      · ktr_rel
      · refine ev_name ⟨by kernel_rfl, by kernel_rfl, by kernel_rfl⟩ (Vr.free V (St.vr (by assumption) (look_there (by decide +kernel) h2)) kk)
      · omega
      · ktr_rel
      · ktr_rel
      · refine ev_name ⟨by kernel_rfl, by kernel_rfl, by kernel_rfl⟩ (Vr.free V (St.vr (by assumption) (look_there (by decide +kernel) h2)) kk)
      · ktr_rel
      · exact (hpl.2 k hk).1
      · have := of_decide_eq_true hlt
        have := (hpl.2 k hk).1
        omega
      · omega
      · ktr_rel
      · rw [List.map_map]; exact look_here
      · exact look_there (by decide +kernel) (look_there (by decide +kernel) h2)
    · rintro Γ' O' ⟨Γ, e, h3, h4⟩; cases e; exact tr_nil ⟨h3, h4, rfl⟩
    · rintro Γ' O' ⟨Γ, e, h⟩; cases e
    · rintro d ⟨Γ, e, h⟩; cases e
  · rintro Γ₁ O₁ ⟨h1, h2, rfl⟩
    rw [List.take_of_length_le (by simp)] at h1
    exact tr_nil ⟨Γ₁, rfl, h1, h2⟩
  · rintro Γ' O' ⟨Γ, e, h1, h2⟩
    cases e
    refine tr_ret (d := .bool (fits pat w)) (fun s st => ?_) rfl
    with_reducible refine ev_cm (cm_iinl (ev_len_str (x := w) ?_ ?_ ?_) ?_)
    · ktr_rel
    · ktr_rel
    · omega
    · ktr_rel
  · rintro Γ' O' ⟨Γ, e, h⟩; cases e
  · rintro d ⟨Γ, e, h⟩; cases e
end
section
noncomputable def firstOf (run : Run) (w : List Nat) (p : Nat) : List Int := (ups p (w.length + 1 - p)).filter fun k => stands run w k.toNat
noncomputable def mid : List Run → List Nat → Nat → Option Nat
  | [], _, p => some p
  | r :: rs, w, p => match firstOf r w p with
    | [] => none
    | k :: _ => mid rs w (k.toNat + r.length)
noncomputable def front : List Nat := [102, 114, 111, 110, 116]
noncomputable def takes (r0 : Run) (rest : List Run) (st : List Nat) (w : List Nat) : Bool :=
  stands r0 w 0 && match mid rest.dropLast w r0.length with
    | none => false
    | some p => if st = front then p == w.length else decide ((p : Int) ≤ w.length - ((r0 :: rest).getLast (List.cons_ne_nil _ _)).length) && stands ((r0 :: rest).getLast (List.cons_ne_nil _ _)) w (w.length - ((r0 :: rest).getLast (List.cons_ne_nil _ _)).length)
theorem stands_le {run : Run} {w : List Nat} {p : Nat} (h : stands run w p = true) : p + run.length ≤ w.length := by
  unfold stands at h
  have := of_decide_eq_true (Bool.and_eq_true _ _ ▸ h).1
  omega
noncomputable def dRead (runs : List Run) (st : List Nat) : D := .list [.list (runs.map fun r => .list (r.map D.str)), .str st]
theorem pick_mid {α : Type} (a : α) (r : List α) : ((a :: r).drop (kms_lo (some 1) (a :: r).length)).take (kms_hi (some (-1)) (a :: r).length - kms_lo (some 1) (a :: r).length) = r.dropLast := by
  rw [List.dropLast_eq_take]
  have h1 : kms_lo (some 1) (a :: r).length = 1 := by simp [kms_lo]
  have h2 : kms_hi (some (-1)) (a :: r).length = r.length := by simp [kms_hi]
  rw [h1, h2]; simp
set_option maxHeartbeats 2000000 in
theorem takes_none {P : Cx} (W : Wd P) (w : List Nat) : Cn P 2 (Str.ofString "_law_takes") [.none, .str w] (.bool false) := by
  have e : recOf (Str.ofString "_law_takes") = recOf (Str.ofString "_law_takes") := rfl
  conv at e => rhs; whnf
  refine cn_of W [(Str.ofString "read", .none), (Str.ofString "word", .str w)] [Str.ofString "read", Str.ofString "word"] rfl (by decide +kernel) e ?_ rfl ?_ (by decide +kernel) (by decide +kernel) ?_
  · intro pm cd doc vs h; match vs, h with | [v0, v1], _ => rfl
  · exact fun n => List.forall_mem_cons.mpr ⟨.inl (by kernel_rfl), List.forall_mem_cons.mpr ⟨.inr ⟨by kernel_rfl, by kernel_rfl⟩, fun _ h => nomatch h⟩⟩
  intro X B L a cd once
  clear e
  dsimp only at once ⊢
  with_reducible refine tr_if (b := true) (R₁ := fun oc => oc = .ret (.bool false)) (fun s st => tt_eq (tt_or (c := true) (d := false) (tt_cm (cm_none_is ?_ ?_)) (fun h => ?_)) rfl) (fun _ => ?_) (fun h => ?_) ?_ ?_ ?_
  · ktr_rel
  · ktr_rel
  · cases h
  · exact tr_ret (d := .bool false) (fun s st => ev_bool) rfl
  · cases h
  · rintro Γ' O' h; cases h
  · rintro Γ' O' h; cases h
  · exact fun d h => h
theorem mid_snoc (w : List Nat) : ∀ (rs : List Run) (p : Nat) (r : Run), mid (rs ++ [r]) w p = (mid rs w p).bind fun q => mid [r] w q
  | [], p, r => rfl
  | a :: rs, p, r => by
    show mid (a :: (rs ++ [r])) w p = _
    unfold mid
    cases firstOf a w p with
    | nil => rfl
    | cons k _ => exact mid_snoc w rs _ r
theorem mid_none_of (w : List Nat) {p : Nat} : ∀ (rs ss : List Run), mid rs w p = none → mid (rs ++ ss) w p = none := by
  intro rs
  induction rs generalizing p with
  | nil => intro ss h; cases h
  | cons a rs ih =>
    intro ss h
    unfold mid at h
    show mid (a :: (rs ++ ss)) w p = none
    unfold mid
    cases e : firstOf a w p with
    | nil => rfl
    | cons k _ => rw [e] at h; exact ih ss h
set_option maxHeartbeats 2000000 in
theorem takes_cn {P : Cx} (W : Wd P) (r0 : Run) (rest : List Run) (st₀ : List Nat) (w : List Nat) (hw : w.length ≤ 1000) (hr : ∀ r ∈ r0 :: rest, r.length ≤ 1000) (hn : rest.length ≤ 1000) : Cn P 2 (Str.ofString "_law_takes") [.list [.list ((r0 :: rest).map fun r => .list (r.map D.str)), .str st₀], .str w] (.bool (takes r0 rest st₀ w)) := by
  have e : recOf (Str.ofString "_law_takes") = recOf (Str.ofString "_law_takes") := rfl
  conv at e => rhs; whnf
  refine cn_of W [(Str.ofString "read", .list [.list ((r0 :: rest).map fun r => .list (r.map D.str)), .str st₀]), (Str.ofString "word", .str w)] [Str.ofString "read", Str.ofString "word"] rfl (by decide +kernel) e ?_ rfl ?_ (by decide +kernel) (by decide +kernel) ?_
  · intro pm cd doc vs h; match vs, h with | [v0, v1], _ => rfl
  · exact fun n => List.forall_mem_cons.mpr ⟨.inl (by kernel_rfl), List.forall_mem_cons.mpr ⟨.inr ⟨by kernel_rfl, by kernel_rfl⟩, fun _ h => nomatch h⟩⟩
  intro X B L a cd once
  clear e
  dsimp only at once ⊢
  have hr0 := hr r0 (.head _)
  with_reducible refine tr_if (b := !(stands r0 w 0)) (R₁ := fun oc => (stands r0 w 0 = false ∧ oc = .ret (.bool false)) ∨ (stands r0 w 0 = true ∧ oc = .next [(Str.ofString "read", .list [.list ((r0 :: rest).map fun r => .list (r.map D.str)), .str st₀]), (Str.ofString "word", .str w)] [])) (fun s st => tt_eq (tt_or (c := false) (tt_cm (cm_is_none (d := .list [.list ((r0 :: rest).map fun r => .list (r.map D.str)), .str st₀]) ?_ ?_ ?_ ?_)) (fun _ => tt_or (tt_not (tt_bool (ev_calln W ⟨(by kernel_rfl), (by kernel_rfl), (by kernel_rfl)⟩ st.kW (stands_cn W r0 w 0 hr0 hw (by omega)) (.cons ?_ (.cons ?_ (.cons ?_ .nil)))))) (fun _ => tt_or_nil))) ?_) (fun h => ?_) (fun h => ?_) ?_ ?_ ?_
  · ktr_rel
  · ktr_rel
  · intro e; cases e
  · intro v e; cases e
  · with_reducible refine ev_item (ds := (r0 :: rest).map fun r => .list (r.map D.str)) (i := 0) (ev_item (ds := [.list ((r0 :: rest).map fun r => .list (r.map D.str)), .str st₀]) (i := 0) ?_ ?_ ?_ ?_ ?_) ?_ ?_ ?_ ?_
    · ktr_rel
    · ktr_rel
    · decide
    · rfl
    · simp
    · ktr_rel
    · decide
    · rfl
    · simp; omega
  · ktr_rel
  · exact ev_int
  · simp
  · exact tr_ret (d := .bool false) (fun s st => ev_bool) (.inl ⟨by simpa using h, rfl⟩)
  · exact tr_nil (.inr ⟨by simpa using h, rfl⟩)
  rotate_left
  · rintro Γ' O' (⟨_, e⟩ | ⟨_, e⟩) <;> cases e
  · rintro d (⟨h0, e⟩ | ⟨h0, e⟩)
    · cases e; unfold takes; rw [h0]; rfl
    · cases e
  rintro Γ' O' (⟨h0, e⟩ | ⟨h0, e⟩)
  · cases e
  cases e
  have hle := stands_le h0
  have goal : takes r0 rest st₀ w = match mid rest.dropLast w r0.length with
    | none => false
    | some p => if st₀ = front then p == w.length else decide ((p : Int) ≤ w.length - ((r0 :: rest).getLast (List.cons_ne_nil _ _)).length) && stands ((r0 :: rest).getLast (List.cons_ne_nil _ _)) w (w.length - ((r0 :: rest).getLast (List.cons_ne_nil _ _)).length) := by
    unfold takes; rw [h0]; rfl
  with_reducible refine tr_setL (d := .int r0.length) (fun s st => ev_eq (ev_len_list (ds := r0.map D.str) ?_ (ev_item (ds := (r0 :: rest).map fun r => .list (r.map D.str)) (i := 0) (ev_item (ds := [.list ((r0 :: rest).map fun r => .list (r.map D.str)), .str st₀]) (i := 0) ?_ ?_ ?_ ?_ ?_) ?_ ?_ ?_ ?_) ?_) ?_) ?_
  · ktr_rel
  · ktr_rel
  · ktr_rel
  · decide
  · rfl
  · simp
  · ktr_rel
  · decide
  · rfl
  · simp; omega
  · rw [List.length_map]; omega
  · rw [List.length_map]
  with_reducible refine tr_forC (ds := (rest.dropLast).map fun r => .list (r.map D.str)) (fun i Γ O => (∃ p, mid (rest.dropLast.take i) w r0.length = some p ∧ p ≤ w.length ∧ Γ.lookup (Str.ofString "place") = some (.int p)) ∧ Γ.lookup (Str.ofString "read") = some (.list [.list ((r0 :: rest).map fun r => .list (r.map D.str)), .str st₀]) ∧ Γ.lookup (Str.ofString "word") = some (.str w) ∧ O = []) (fun oc => (oc = .ret (.bool false) ∧ mid rest.dropLast w r0.length = none) ∨ ∃ Γ p, oc = .next Γ [] ∧ mid rest.dropLast w r0.length = some p ∧ p ≤ w.length ∧ Γ.lookup (Str.ofString "place") = some (.int p) ∧ Γ.lookup (Str.ofString "read") = some (.list [.list ((r0 :: rest).map fun r => .list (r.map D.str)), .str st₀]) ∧ Γ.lookup (Str.ofString "word") = some (.str w)) once (fun s st => src_list (ev_lslice (ds := (r0 :: rest).map fun r => .list (r.map D.str)) (i := some 1) (j := some (-1)) (ev_item (ds := [.list ((r0 :: rest).map fun r => .list (r.map D.str)), .str st₀]) (i := 0) ?_ ?_ ?_ ?_ ?_) ?_ ?_ ?_ ?_)) ⟨⟨r0.length, ?_, ?_, ?_⟩, ?_, ?_, rfl⟩ ?_ ?_ ?_ ?_ ?_
  · ktr_rel
  · ktr_rel
  · decide
  · rfl
  · simp
  · show Ev _ _ _ _ _ _ _
    ktr_rel
  · show Ev _ _ _ _ _ _ _
    ktr_rel
  · simp; omega
  · rw [List.map_cons, pick_mid, List.map_dropLast]
  · rfl
  · omega
  · exact look_here
  · k_mem
  · k_mem
  · rintro i d Γ₁ O₁ hd ⟨⟨p, hp, hpw, h1⟩, h2, h3, rfl⟩ X' B'
    rw [List.getElem?_map] at hd
    obtain ⟨r, hc, rfl⟩ := Option.map_eq_some_iff.mp hd
    have hrl : r.length ≤ 1000 := hr r (.tail _ (List.dropLast_subset _ (List.mem_of_getElem? hc)))
    have hstep : mid (rest.dropLast.take (i + 1)) w r0.length = mid [r] w p := by
      rw [List.take_add_one, hc]; show mid (_ ++ [r]) w _ = _; rw [mid_snoc, hp]; rfl
    have hnone : mid [r] w p = none → mid rest.dropLast w r0.length = none := fun e => by
      rw [← List.take_append_drop (i + 1) rest.dropLast]
      exact mid_none_of w _ _ (hstep.trans e)
    have q1 : (Str.ofString "run" == Str.ofString "place") = false := by decide +kernel
    with_reducible refine tr_compI (ns := ups p (w.length + 1 - p)) (q := fun k => stands r w k.toNat) (g := D.int) (fun s st => src_up (j := p) (k := w.length + 1) (ev_range2 ?_ ?_ (ev_add (ev_len_str (x := w) ?_ ?_ ?_) ?_)) ?_ ?_ ?_) ?_ (fun s st k hk C h' kk V => tts_one (tt_bool (ev_calln (ds := [.list (r.map D.str), .str w, .int k]) W ⟨(by kernel_rfl), (by kernel_rfl), (by kernel_rfl)⟩ (st.kW.trans kk) ?_ (.cons ?_ (.cons ?_ (.cons ?_ .nil)))))) (fun k => flat_int) (fun s st k hk _ C h' kk V => ?_) ?_
    · ktr_rel
    · refine ev_name ⟨by kernel_rfl, by kernel_rfl, by kernel_rfl⟩ (St.vr (by assumption) (look_there (by decide +kernel) h1))
    · ktr_rel
    · refine ev_name ⟨by kernel_rfl, by kernel_rfl, by kernel_rfl⟩ (St.vr (by assumption) (look_there (by decide +kernel) h3))
    · omega
    · ktr_rel
    · omega
    · omega
    · omega
    · rw [ups_length]; omega
    · have := mem_ups hk
      have c := stands_cn W r w k.toNat hrl hw (by omega)
      rwa [show ((k.toNat : Nat) : Int) = k by omega] at c
    · ktr_rel
    · refine ev_name ⟨by kernel_rfl, by kernel_rfl, by kernel_rfl⟩ (Vr.free V (St.vr (by assumption) (look_there (by decide +kernel) h3)) kk)
    · ktr_rel
    · ktr_rel
    have hfo : (ups p (w.length + 1 - p)).filter (fun k => stands r w k.toNat) = firstOf r w p := rfl
    rw [hfo]
    have hmem : ∀ k ∈ firstOf r w p, (0 ≤ k ∧ k ≤ w.length) ∧ stands r w k.toNat = true := fun k hk => by
      obtain ⟨g1, g2⟩ := List.mem_filter.mp hk
      have := mem_ups g1
      exact ⟨by omega, g2⟩
    have hflen : (firstOf r w p).length ≤ 2000 := Nat.le_trans (List.length_filter_le _ _) (by rw [ups_length]; omega)
    have hmid : mid [r] w p = match firstOf r w p with | [] => none | k :: _ => some (k.toNat + r.length) := rfl
    clear hfo hp
    generalize firstOf r w p = fs at hmem hflen hmid ⊢
    with_reducible refine tr_if (b := fs == []) (R₁ := fun oc => (fs = [] ∧ oc = .ret (.bool false)) ∨ (fs ≠ [] ∧ oc = .next ((Str.ofString "firsts", .list (fs.map D.int)) :: (Str.ofString "run", .list (r.map D.str)) :: Γ₁) [])) (fun s st => tt_cm (cm_Leq (ns := fs) (ms := []) ?_ (ev_list .nil) rfl rfl)) (fun h => ?_) (fun h => ?_) ?_ ?_ ?_
    · ktr_rel
    · exact tr_ret (d := .bool false) (fun s st => ev_bool) (.inl ⟨eq_of_beq h, rfl⟩)
    · exact tr_nil (.inr ⟨ne_of_beq_false h, rfl⟩)
    · rintro Γ' O' (⟨_, e⟩ | ⟨hne, e⟩)
      · cases e
      cases e
      match fs, hne with
      | k :: fs, _ =>
      have hk := hmem k (.head _)
      have hkr := stands_le hk.2
      with_reducible refine tr_setL (d := .int ((k.toNat + r.length : Nat) : Int)) (fun s st => ev_eq (ev_add (a := k) (b := (r.length : Int)) (ev_item (ds := (k :: fs).map D.int) (i := 0) ?_ ?_ ?_ ?_ ?_) (ev_eq (ev_len_list (ds := r.map D.str) ?_ ?_ ?_) ?_)) ?_) (tr_nil ⟨⟨k.toNat + r.length, ?_, hkr, look_here⟩, ?_, ?_, rfl⟩)
      · ktr_rel
      · ktr_rel
      · decide
      · rfl
      · rw [List.length_map]; omega
      · ktr_rel
      · ktr_rel
      · rw [List.length_map]; omega
      · rw [List.length_map]
      · congr 1; omega
      · rw [hstep, hmid]
      · exact look_there (by decide +kernel) (look_there (by decide +kernel) (look_there (by decide +kernel) h2))
      · exact look_there (by decide +kernel) (look_there (by decide +kernel) (look_there (by decide +kernel) h3))
    · rintro Γ' O' (⟨_, e⟩ | ⟨_, e⟩) <;> cases e
    · rintro d (⟨h0, e⟩ | ⟨h0, e⟩)
      · cases e; refine .inl ⟨rfl, hnone ?_⟩; rw [hmid, h0]
      · cases e
  · rintro Γ₁ O₁ ⟨⟨p, hp, hpw, h1⟩, h2, h3, rfl⟩
    rw [List.length_map, List.take_of_length_le (Nat.le_refl _)] at hp
    exact tr_nil (.inr ⟨Γ₁, p, rfl, hp, hpw, h1, h2, h3⟩)
  · rintro Γ' O' (⟨e, _⟩ | ⟨Γ, p, e, hp, hpw, h1, h2, h3⟩)
    · cases e
    cases e
    have hlast := hr _ (List.getLast_mem (List.cons_ne_nil r0 rest))
    have hgl : ((r0 :: rest).map fun r => D.list (r.map D.str)).getLast? = some (.list (((r0 :: rest).getLast (List.cons_ne_nil _ _)).map D.str)) := by
      rw [List.getLast?_map, List.getLast?_eq_some_getLast (List.cons_ne_nil _ _)]; rfl
    rw [hp] at goal
    dsimp only at goal
    generalize (r0 :: rest).getLast (List.cons_ne_nil _ _) = last at *
    with_reducible refine tr_if (b := st₀ == front) (R₁ := fun oc => (st₀ = front ∧ oc = .ret (.bool (p == w.length))) ∨ (st₀ ≠ front ∧ oc = .next Γ' [])) (fun s st => tt_cm (cm_seq (x := st₀) (y := front) (ev_item (ds := [.list ((r0 :: rest).map fun r => .list (r.map D.str)), .str st₀]) (i := 1) ?_ ?_ ?_ ?_ ?_) ?_)) (fun h => ?_) (fun h => ?_) ?_ ?_ ?_
    · ktr_rel
    · ktr_rel
    · decide
    · rfl
    · simp
    · ktr_rel
    · refine tr_ret (d := .bool (p == w.length)) (fun s st => ?_) (.inl ⟨eq_of_beq h, rfl⟩)
      have hb : ((p : Int) == (w.length : Int)) = (p == w.length) := by rw [Bool.eq_iff_iff, beq_iff_eq, beq_iff_eq]; omega
      rw [← hb]
      with_reducible refine ev_cm (cm_ieq ?_ (ev_len_str (x := w) ?_ ?_ ?_))
      · ktr_rel
      · ktr_rel
      · ktr_rel
      · omega
    · exact tr_nil (.inr ⟨ne_of_beq_false h, rfl⟩)
    · rintro Γ' O' (⟨_, e⟩ | ⟨hne, e⟩)
      · cases e
      cases e
      rw [if_neg hne] at goal
      with_reducible refine tr_setL (d := .int ((w.length : Int) - (last.length : Int))) (fun s st => ev_sub (ev_len_str (x := w) ?_ ?_ ?_) (ev_eq (ev_len_list (ds := last.map D.str) ?_ (ev_last (ds := (r0 :: rest).map fun r => .list (r.map D.str)) (i := -1) (ev_item (ds := [.list ((r0 :: rest).map fun r => .list (r.map D.str)), .str st₀]) (i := 0) ?_ ?_ ?_ ?_ ?_) ?_ rfl hgl ?_) ?_) ?_)) ?_
      · ktr_rel
      · ktr_rel
      · omega
      · ktr_rel
      · ktr_rel
      · ktr_rel
      · decide
      · rfl
      · simp
      · ktr_rel
      · simp; omega
      · rw [List.length_map]; omega
      · rw [List.length_map]
      with_reducible refine tr_ret (d := .bool (decide ((p : Int) ≤ w.length - last.length) && stands last w (w.length - last.length))) (fun s st => ev_and2 (ev_cm (cm_ile ?_ ?_)) (fun hc => ev_calln (ds := [.list (last.map D.str), .str w, .int ((w.length : Int) - (last.length : Int))]) W ⟨(by kernel_rfl), (by kernel_rfl), (by kernel_rfl)⟩ st.kW ?_ (.cons (ev_last (ds := (r0 :: rest).map fun r => .list (r.map D.str)) (i := -1) (ev_item (ds := [.list ((r0 :: rest).map fun r => .list (r.map D.str)), .str st₀]) (i := 0) ?_ ?_ ?_ ?_ ?_) ?_ rfl hgl ?_) (.cons ?_ (.cons ?_ .nil))))) ?_
      · exact ev_name ⟨by kernel_rfl, by kernel_rfl, by kernel_rfl⟩ (St.vr (by assumption) (look_there (by decide +kernel) h1))
      · ktr_rel
      · have := of_decide_eq_true hc
        have c := stands_cn W last w (w.length - last.length) hlast hw (by omega)
        rwa [show ((w.length - last.length : Nat) : Int) = (w.length : Int) - (last.length : Int) by omega] at c
      · exact ev_name ⟨by kernel_rfl, by kernel_rfl, by kernel_rfl⟩ (St.vr (by assumption) (look_there (by decide +kernel) h2))
      · ktr_rel
      · decide
      · rfl
      · simp
      · ktr_rel
      · simp; omega
      · exact ev_name ⟨by kernel_rfl, by kernel_rfl, by kernel_rfl⟩ (St.vr (by assumption) (look_there (by decide +kernel) h3))
      · ktr_rel
      · rw [goal]
    · rintro Γ' O' (⟨_, e⟩ | ⟨_, e⟩) <;> cases e
    · rintro d (⟨h0, e⟩ | ⟨h0, e⟩)
      · cases e; rw [goal, if_pos h0]
      · cases e
  · rintro Γ' O' (⟨e, _⟩ | ⟨Γ, p, e, _⟩) <;> cases e
  · rintro d (⟨e, h⟩ | ⟨Γ, p, e, _⟩)
    · cases e; rw [goal, h]
    · cases e
end
section
noncomputable def rep (c : Nat) (z : List Nat) (l : List Nat) : List Nat := (l.map fun d => if d = c then z else [d]).flatten
theorem rep_append (c : Nat) (z a b : List Nat) : rep c z (a ++ b) = rep c z a ++ rep c z b := by simp [rep]
theorem rep_free (c : Nat) (z : List Nat) : ∀ l : List Nat, c ∉ l → rep c z l = l
  | [], _ => rfl
  | k :: r, h => by
    have h1 : ¬ k = c := fun e => h (e ▸ List.mem_cons_self ..)
    have h2 : c ∉ r := fun m => h (List.mem_cons_of_mem _ m)
    have ih := rep_free c z r h2
    unfold rep at ih ⊢
    rw [List.map_cons, List.flatten_cons, if_neg h1, ih]; rfl
theorem rep_one (c : Nat) (z : List Nat) : rep c z [c] = z := by simp [rep]
theorem rep_join (c : Nat) (z : Str) : ∀ parts : List Str, (∀ p ∈ parts, c ∉ p.cps.toList) → rep c z.cps.toList (Str.join ⟨#[c]⟩ parts).cps.toList = (Str.join z parts).cps.toList
  | [], _ => rfl
  | [p], h => rep_free c _ _ (h p (List.mem_singleton.mpr rfl))
  | p :: q :: r, h => by
    have ih := rep_join c z (q :: r) fun a ha => h a (List.mem_cons_of_mem _ ha)
    show rep c _ (p ++ ⟨#[c]⟩ ++ Str.join ⟨#[c]⟩ (q :: r)).cps.toList = (p ++ z ++ Str.join z (q :: r)).cps.toList
    simp only [Str.cps_append, Array.toList_append]
    rw [rep_append, rep_append, ih, rep_free c _ _ (h p (List.mem_cons_self ..))]
    show _ ++ rep c _ [c] ++ _ = _
    rw [rep_one]
theorem replace_rep (l : List Nat) (c : Nat) (z : List Nat) : Txt.replace (Sx l) (Sx [c]) (Sx z) = Sx (rep c z l) := by
  have h := StrLaws.replace_one (Sx l) (Sx z) c
  have hj := StrLaws.join_split (Sx l) ⟨#[c]⟩
  have hf := rep_join c (Sx z) _ (StrLaws.split_free (Sx l) c)
  rw [hj] at hf
  refine h.trans ?_
  apply Str.ext'
  apply Array.toList_inj.mp
  rw [← hf]
theorem contains_one (l : List Nat) (c : Nat) : Txt.contains (Sx l) (Sx [c]) = decide (c ∈ l) := StrLaws.found_one (Sx l) c

noncomputable def esc (steps : List (Nat × List Nat)) (l : List Nat) : List Nat := steps.foldl (fun l p => rep p.1 p.2 l) l
theorem esc_snoc (steps : List (Nat × List Nat)) (p : Nat × List Nat) (l : List Nat) : esc (steps ++ [p]) l = rep p.1 p.2 (esc steps l) := by simp [esc]
theorem rep_nil (c : Nat) (z : List Nat) : rep c z [] = [] := rfl
theorem esc_append : ∀ (steps : List (Nat × List Nat)) (a b : List Nat), esc steps (a ++ b) = esc steps a ++ esc steps b
  | [], _, _ => rfl
  | p :: r, a, b => by show esc r (rep p.1 p.2 (a ++ b)) = _; rw [rep_append, esc_append r]; rfl
theorem esc_nil : ∀ (steps : List (Nat × List Nat)), esc steps [] = []
  | [] => rfl
  | p :: r => by show esc r (rep p.1 p.2 []) = _; rw [rep_nil, esc_nil r]
theorem esc_flat (steps : List (Nat × List Nat)) : ∀ (l : List Nat), esc steps l = (l.map fun d => esc steps [d]).flatten
  | [] => esc_nil steps
  | d :: l => by rw [show d :: l = [d] ++ l from rfl, esc_append, esc_flat steps l]; simp
theorem esc_other : ∀ (steps : List (Nat × List Nat)) (d : Nat), d ∉ steps.map (·.1) → esc steps [d] = [d]
  | [], _, _ => rfl
  | p :: r, d, h => by
    rw [List.map_cons, List.mem_cons, not_or] at h
    show esc r (rep p.1 p.2 [d]) = _
    rw [rep_free _ _ _ (by simpa using Ne.symm h.1)]
    exact esc_other r d h.2
theorem esc_len (steps : List (Nat × List Nat)) (h : (steps.all fun p => decide ((esc steps [p.1]).length ≤ 6)) = true) (d : Nat) : (esc steps [d]).length ≤ 6 := by
  by_cases q : d ∈ steps.map (·.1)
  · obtain ⟨p, hp, rfl⟩ := List.mem_map.mp q
    exact of_decide_eq_true (List.all_eq_true.mp h p hp)
  · rw [esc_other steps d q]; simp
theorem esc_bound (steps : List (Nat × List Nat)) (h : (steps.all fun p => decide ((esc steps [p.1]).length ≤ 6)) = true) : ∀ (l : List Nat), (esc steps l).length ≤ 6 * l.length
  | [] => by rw [esc_nil]; simp
  | d :: l => by
    have h1 := esc_len steps h d
    have h2 := esc_bound steps h l
    rw [show d :: l = [d] ++ l from rfl, esc_append, List.length_append]
    simp only [List.length_append, List.length_cons, List.length_nil]
    omega
/-- the writer by its steps is the table -/
theorem esc_written (steps : List (Nat × List Nat)) (kv : List (List Nat × List Nat)) (hk : kv.map (·.1) = (steps.map fun p => [p.1])) (h : (steps.all fun p => esc steps [p.1] == (kv.lookup [p.1]).getD [p.1]) = true) (l : List Nat) : esc steps l = written kv l := by
  rw [esc_flat]
  unfold written
  congr 1
  refine List.map_congr_left fun d _ => ?_
  by_cases q : d ∈ steps.map (·.1)
  · obtain ⟨p, hp, rfl⟩ := List.mem_map.mp q
    exact eq_of_beq (List.all_eq_true.mp h p hp)
  · rw [esc_other steps d q]
    have : kv.lookup [d] = none := by
      rw [List.lookup_eq_none_iff]
      intro p hp
      have hm : p.1 ∈ kv.map (·.1) := List.mem_map_of_mem hp
      rw [hk] at hm
      obtain ⟨s, hs, e⟩ := List.mem_map.mp hm
      rw [← e]
      simp only [bne_iff_ne, ne_eq, List.cons.injEq, and_true]
      rintro rfl
      exact q (List.mem_map_of_mem hs)
    rw [this]; rfl

theorem tr_esc {P : Cx} {n : Nat} {X : XS} {B : Heap} {env : Env} {R : Oc → Prop} {rest : List Stmt} {x : Str} {l z : List Nat} {c : Nat} {o w : Str} {k1 k2 k3 : Nat} {p1 p2 p3 p4 p5 p6 p7 p8 p9 p10 pos : Pos}
    (next : Tr P n X B env [(x, .str (rep c z l))] [] rest R) (hl : l.length ≤ 100000) (hz : z.length ≤ 14) (hcz : ([c] == z) = false) (ho : o = Sx [c]) (hw : w = Sx z)
    (F : Fe env) (hk : env.kindOf x = some .local := by kernel_rfl) (hd : (x == ("__debug__" : Str)) = false := by decide +kernel) (hm : behindInMarks .In (.Name x p2) = false := by kernel_rfl)
    (hsw : swapsWith (.Call (.Attribute (.Name x p5) "replace" p6) [.Constant (.str o) k2 p7, .Constant (.str w) k3 p8] [] p9) (some (.Name x p4)) p10.line env = pure false := by kernel_rfl)
    (hbase : attributeBase (.Name x p5) "replace" env (eval (.Name x p5) env) = eval (.Name x p5) env := by kernel_rfl) (hline : (p6.endLine == p9.line) = true := by kernel_rfl) :
    Tr P n X B env [(x, .str l)] [] (.If (.Compare (.Constant (.str o) k1 p1) [.In] [.Name x p2] p3) [.Assign [.Name x p4] (.Call (.Attribute (.Name x p5) "replace" p6) [.Constant (.str o) k2 p7, .Constant (.str w) k3 p8] [] p9) p10] [] pos :: rest) R := by
  intro A s Q E rm st ret
  refine wpAny_execs_cons (wpAny_If (wpAny_isTrue_Compare1 (Constant_str ?_) hm))
  have st₁ : St P X B env [(x, .str l)] [] { s with toks := s.toks + 1 } := st.keep (h' := s.heap) (tk := s.toks + 1) Sub.refl (Nat.zero_le _)
  have en : Es P n X B env [(x, .str l)] [] (.Name x p2) (.str l) := fun s st => ev_name F (st.vr look_here) hd
  refine wpAny_with_toks (Nat.le_refl _) (en.run st₁ rm fun v h' tk k st₂ r tt => ?_)
  have tp : 0 < tk := Nat.lt_of_lt_of_le (Nat.succ_pos _) tt
  obtain ⟨t, rfl⟩ := r
  have hin : Txt.contains (Sx l) o = decide (c ∈ l) := by rw [ho]; exact contains_one l c
  refine SB.contains ?_
  rw [hin]
  refine wpAny_truthy_bool ?_
  by_cases hc : c ∈ l
  · rw [decide_eq_true hc]
    have ex : Es P n X B env [(x, .str l)] [] (.Name x p5) (.str l) := fun s st => ev_name F (st.vr look_here) hd
    refine wpAny_execs_cons (wpAny_Assign_Name (replace_run (x := l) (y := rep c z l) rm st₂.at tp (ex _ st₂) (by rw [ho, hw]; exact replace_rep l c z) (by rw [ho, hw, sx_beq]; exact hcz) hl (by rw [hw, sx_len]; exact hz) (fun v h2 tk2 k2 r2 => ?_) hbase hline) hsw)
    have st₃ := st₂.keep (tk := tk2) k2 (Nat.zero_le _)
    refine st₃.store F.hk (.inl hk) r2 fun h3 tk3 st₄ _ => wpAny_execs_nil ?_
    refine next A _ Q E rm (st₄.less fun y d e => ?_) ret
    rw [List.lookup_cons] at e ⊢
    cases q : y == x with
    | true => rw [q] at e; exact e
    | false => rw [q] at e; cases e
  · rw [decide_eq_false hc]
    refine wpAny_execs_nil ?_
    rw [rep_free c z l hc] at next
    exact next A _ Q E rm st₂ ret
noncomputable def cdata : List (Nat × List Nat) := [(38, [38, 97, 109, 112, 59]), (60, [38, 108, 116, 59]), (62, [38, 103, 116, 59])]
set_option maxHeartbeats 2000000 in
theorem cdata_cn {P : Cx} (W : Wd P) (l : List Nat) (hl : l.length ≤ 1000) : Cn P 1 (Str.ofString "_escape_cdata") [.str l] (.str (esc cdata l)) := by
  have e : recOf (Str.ofString "_escape_cdata") = recOf (Str.ofString "_escape_cdata") := rfl
  conv at e => rhs; whnf
  refine cn_of W [(Str.ofString "text", .str l)] [Str.ofString "text"] rfl (List.cons_ne_nil _ _) e ?_ rfl ?_ (by decide +kernel) (by decide +kernel) ?_
  · intro pm cd doc vs h; match vs, h with | [v0], _ => rfl
  · exact fun n => List.forall_mem_cons.mpr ⟨.inl (by kernel_rfl), fun _ h => nomatch h⟩
  intro X B L a cd once
  clear e
  dsimp only at once ⊢
  refine tr_try (R₁ := fun oc => oc = .ret (.str (esc cdata l))) ?_ (fun Γ' O' e => by cases e) (fun Γ' O' e => by cases e) (fun d e => e)
  have h0 : (esc [] l).length ≤ 100000 := Nat.le_trans (esc_bound [] (by decide +kernel) l) (by omega)
  refine tr_esc (c := 38) (z := [38, 97, 109, 112, 59]) ?_ h0 (by decide) (by decide +kernel) (by decide +kernel) (by decide +kernel) ⟨by kernel_rfl, by kernel_rfl, by kernel_rfl⟩
  have h1 : (esc [(38, [38, 97, 109, 112, 59])] l).length ≤ 100000 := Nat.le_trans (esc_bound [(38, [38, 97, 109, 112, 59])] (by decide +kernel) l) (by omega)
  refine tr_esc (c := 60) (z := [38, 108, 116, 59]) ?_ h1 (by decide) (by decide +kernel) (by decide +kernel) (by decide +kernel) ⟨by kernel_rfl, by kernel_rfl, by kernel_rfl⟩
  have h2 : (esc [(38, [38, 97, 109, 112, 59]), (60, [38, 108, 116, 59])] l).length ≤ 100000 := Nat.le_trans (esc_bound [(38, [38, 97, 109, 112, 59]), (60, [38, 108, 116, 59])] (by decide +kernel) l) (by omega)
  refine tr_esc (c := 62) (z := [38, 103, 116, 59]) ?_ h2 (by decide) (by decide +kernel) (by decide +kernel) (by decide +kernel) ⟨by kernel_rfl, by kernel_rfl, by kernel_rfl⟩
  exact tr_ret (d := .str (esc cdata l)) (fun s st => by first | exact ev_name ⟨by kernel_rfl, by kernel_rfl, by kernel_rfl⟩ (st.vr look_here)) rfl

noncomputable def attrib : List (Nat × List Nat) := [(38, [38, 97, 109, 112, 59]), (60, [38, 108, 116, 59]), (62, [38, 103, 116, 59]), (34, [38, 113, 117, 111, 116, 59]), (13, [38, 35, 49, 51, 59]), (10, [38, 35, 49, 48, 59]), (9, [38, 35, 48, 57, 59])]
set_option maxHeartbeats 2000000 in
theorem attrib_cn {P : Cx} (W : Wd P) (l : List Nat) (hl : l.length ≤ 1000) : Cn P 1 (Str.ofString "_escape_attrib") [.str l] (.str (esc attrib l)) := by
  have e : recOf (Str.ofString "_escape_attrib") = recOf (Str.ofString "_escape_attrib") := rfl
  conv at e => rhs; whnf
  refine cn_of W [(Str.ofString "text", .str l)] [Str.ofString "text"] rfl (List.cons_ne_nil _ _) e ?_ rfl ?_ (by decide +kernel) (by decide +kernel) ?_
  · intro pm cd doc vs h; match vs, h with | [v0], _ => rfl
  · exact fun n => List.forall_mem_cons.mpr ⟨.inl (by kernel_rfl), fun _ h => nomatch h⟩
  intro X B L a cd once
  clear e
  dsimp only at once ⊢
  refine tr_try (R₁ := fun oc => oc = .ret (.str (esc attrib l))) ?_ (fun Γ' O' e => by cases e) (fun Γ' O' e => by cases e) (fun d e => e)
  have h0 : (esc [] l).length ≤ 100000 := Nat.le_trans (esc_bound [] (by decide +kernel) l) (by omega)
  refine tr_esc (c := 38) (z := [38, 97, 109, 112, 59]) ?_ h0 (by decide) (by decide +kernel) (by decide +kernel) (by decide +kernel) ⟨by kernel_rfl, by kernel_rfl, by kernel_rfl⟩
  have h1 : (esc [(38, [38, 97, 109, 112, 59])] l).length ≤ 100000 := Nat.le_trans (esc_bound [(38, [38, 97, 109, 112, 59])] (by decide +kernel) l) (by omega)
  refine tr_esc (c := 60) (z := [38, 108, 116, 59]) ?_ h1 (by decide) (by decide +kernel) (by decide +kernel) (by decide +kernel) ⟨by kernel_rfl, by kernel_rfl, by kernel_rfl⟩
  have h2 : (esc [(38, [38, 97, 109, 112, 59]), (60, [38, 108, 116, 59])] l).length ≤ 100000 := Nat.le_trans (esc_bound [(38, [38, 97, 109, 112, 59]), (60, [38, 108, 116, 59])] (by decide +kernel) l) (by omega)
  refine tr_esc (c := 62) (z := [38, 103, 116, 59]) ?_ h2 (by decide) (by decide +kernel) (by decide +kernel) (by decide +kernel) ⟨by kernel_rfl, by kernel_rfl, by kernel_rfl⟩
  have h3 : (esc [(38, [38, 97, 109, 112, 59]), (60, [38, 108, 116, 59]), (62, [38, 103, 116, 59])] l).length ≤ 100000 := Nat.le_trans (esc_bound [(38, [38, 97, 109, 112, 59]), (60, [38, 108, 116, 59]), (62, [38, 103, 116, 59])] (by decide +kernel) l) (by omega)
  refine tr_esc (c := 34) (z := [38, 113, 117, 111, 116, 59]) ?_ h3 (by decide) (by decide +kernel) (by decide +kernel) (by decide +kernel) ⟨by kernel_rfl, by kernel_rfl, by kernel_rfl⟩
  have h4 : (esc [(38, [38, 97, 109, 112, 59]), (60, [38, 108, 116, 59]), (62, [38, 103, 116, 59]), (34, [38, 113, 117, 111, 116, 59])] l).length ≤ 100000 := Nat.le_trans (esc_bound [(38, [38, 97, 109, 112, 59]), (60, [38, 108, 116, 59]), (62, [38, 103, 116, 59]), (34, [38, 113, 117, 111, 116, 59])] (by decide +kernel) l) (by omega)
  refine tr_esc (c := 13) (z := [38, 35, 49, 51, 59]) ?_ h4 (by decide) (by decide +kernel) (by decide +kernel) (by decide +kernel) ⟨by kernel_rfl, by kernel_rfl, by kernel_rfl⟩
  have h5 : (esc [(38, [38, 97, 109, 112, 59]), (60, [38, 108, 116, 59]), (62, [38, 103, 116, 59]), (34, [38, 113, 117, 111, 116, 59]), (13, [38, 35, 49, 51, 59])] l).length ≤ 100000 := Nat.le_trans (esc_bound [(38, [38, 97, 109, 112, 59]), (60, [38, 108, 116, 59]), (62, [38, 103, 116, 59]), (34, [38, 113, 117, 111, 116, 59]), (13, [38, 35, 49, 51, 59])] (by decide +kernel) l) (by omega)
  refine tr_esc (c := 10) (z := [38, 35, 49, 48, 59]) ?_ h5 (by decide) (by decide +kernel) (by decide +kernel) (by decide +kernel) ⟨by kernel_rfl, by kernel_rfl, by kernel_rfl⟩
  have h6 : (esc [(38, [38, 97, 109, 112, 59]), (60, [38, 108, 116, 59]), (62, [38, 103, 116, 59]), (34, [38, 113, 117, 111, 116, 59]), (13, [38, 35, 49, 51, 59]), (10, [38, 35, 49, 48, 59])] l).length ≤ 100000 := Nat.le_trans (esc_bound [(38, [38, 97, 109, 112, 59]), (60, [38, 108, 116, 59]), (62, [38, 103, 116, 59]), (34, [38, 113, 117, 111, 116, 59]), (13, [38, 35, 49, 51, 59]), (10, [38, 35, 49, 48, 59])] (by decide +kernel) l) (by omega)
  refine tr_esc (c := 9) (z := [38, 35, 48, 57, 59]) ?_ h6 (by decide) (by decide +kernel) (by decide +kernel) (by decide +kernel) ⟨by kernel_rfl, by kernel_rfl, by kernel_rfl⟩
  exact tr_ret (d := .str (esc attrib l)) (fun s st => by first | exact ev_name ⟨by kernel_rfl, by kernel_rfl, by kernel_rfl⟩ (st.vr look_here)) rfl

noncomputable def cdataC : List (Nat × List Nat) := [(38, [38, 97, 109, 112, 59]), (60, [38, 108, 116, 59]), (62, [38, 103, 116, 59]), (13, [38, 35, 120, 68, 59])]
set_option maxHeartbeats 2000000 in
theorem cdataC_cn {P : Cx} (W : Wd P) (l : List Nat) (hl : l.length ≤ 1000) : Cn P 1 (Str.ofString "_escape_cdata_c14n") [.str l] (.str (esc cdataC l)) := by
  have e : recOf (Str.ofString "_escape_cdata_c14n") = recOf (Str.ofString "_escape_cdata_c14n") := rfl
  conv at e => rhs; whnf
  refine cn_of W [(Str.ofString "text", .str l)] [Str.ofString "text"] rfl (List.cons_ne_nil _ _) e ?_ rfl ?_ (by decide +kernel) (by decide +kernel) ?_
  · intro pm cd doc vs h; match vs, h with | [v0], _ => rfl
  · exact fun n => List.forall_mem_cons.mpr ⟨.inl (by kernel_rfl), fun _ h => nomatch h⟩
  intro X B L a cd once
  clear e
  dsimp only at once ⊢
  refine tr_try (R₁ := fun oc => oc = .ret (.str (esc cdataC l))) ?_ (fun Γ' O' e => by cases e) (fun Γ' O' e => by cases e) (fun d e => e)
  have h0 : (esc [] l).length ≤ 100000 := Nat.le_trans (esc_bound [] (by decide +kernel) l) (by omega)
  refine tr_esc (c := 38) (z := [38, 97, 109, 112, 59]) ?_ h0 (by decide) (by decide +kernel) (by decide +kernel) (by decide +kernel) ⟨by kernel_rfl, by kernel_rfl, by kernel_rfl⟩
  have h1 : (esc [(38, [38, 97, 109, 112, 59])] l).length ≤ 100000 := Nat.le_trans (esc_bound [(38, [38, 97, 109, 112, 59])] (by decide +kernel) l) (by omega)
  refine tr_esc (c := 60) (z := [38, 108, 116, 59]) ?_ h1 (by decide) (by decide +kernel) (by decide +kernel) (by decide +kernel) ⟨by kernel_rfl, by kernel_rfl, by kernel_rfl⟩
  have h2 : (esc [(38, [38, 97, 109, 112, 59]), (60, [38, 108, 116, 59])] l).length ≤ 100000 := Nat.le_trans (esc_bound [(38, [38, 97, 109, 112, 59]), (60, [38, 108, 116, 59])] (by decide +kernel) l) (by omega)
  refine tr_esc (c := 62) (z := [38, 103, 116, 59]) ?_ h2 (by decide) (by decide +kernel) (by decide +kernel) (by decide +kernel) ⟨by kernel_rfl, by kernel_rfl, by kernel_rfl⟩
  have h3 : (esc [(38, [38, 97, 109, 112, 59]), (60, [38, 108, 116, 59]), (62, [38, 103, 116, 59])] l).length ≤ 100000 := Nat.le_trans (esc_bound [(38, [38, 97, 109, 112, 59]), (60, [38, 108, 116, 59]), (62, [38, 103, 116, 59])] (by decide +kernel) l) (by omega)
  refine tr_esc (c := 13) (z := [38, 35, 120, 68, 59]) ?_ h3 (by decide) (by decide +kernel) (by decide +kernel) (by decide +kernel) ⟨by kernel_rfl, by kernel_rfl, by kernel_rfl⟩
  exact tr_ret (d := .str (esc cdataC l)) (fun s st => by first | exact ev_name ⟨by kernel_rfl, by kernel_rfl, by kernel_rfl⟩ (st.vr look_here)) rfl

noncomputable def attribC : List (Nat × List Nat) := [(38, [38, 97, 109, 112, 59]), (60, [38, 108, 116, 59]), (34, [38, 113, 117, 111, 116, 59]), (9, [38, 35, 120, 57, 59]), (10, [38, 35, 120, 65, 59]), (13, [38, 35, 120, 68, 59])]
set_option maxHeartbeats 2000000 in
theorem attribC_cn {P : Cx} (W : Wd P) (l : List Nat) (hl : l.length ≤ 1000) : Cn P 1 (Str.ofString "_escape_attrib_c14n") [.str l] (.str (esc attribC l)) := by
  have e : recOf (Str.ofString "_escape_attrib_c14n") = recOf (Str.ofString "_escape_attrib_c14n") := rfl
  conv at e => rhs; whnf
  refine cn_of W [(Str.ofString "text", .str l)] [Str.ofString "text"] rfl (List.cons_ne_nil _ _) e ?_ rfl ?_ (by decide +kernel) (by decide +kernel) ?_
  · intro pm cd doc vs h; match vs, h with | [v0], _ => rfl
  · exact fun n => List.forall_mem_cons.mpr ⟨.inl (by kernel_rfl), fun _ h => nomatch h⟩
  intro X B L a cd once
  clear e
  dsimp only at once ⊢
  refine tr_try (R₁ := fun oc => oc = .ret (.str (esc attribC l))) ?_ (fun Γ' O' e => by cases e) (fun Γ' O' e => by cases e) (fun d e => e)
  have h0 : (esc [] l).length ≤ 100000 := Nat.le_trans (esc_bound [] (by decide +kernel) l) (by omega)
  refine tr_esc (c := 38) (z := [38, 97, 109, 112, 59]) ?_ h0 (by decide) (by decide +kernel) (by decide +kernel) (by decide +kernel) ⟨by kernel_rfl, by kernel_rfl, by kernel_rfl⟩
  have h1 : (esc [(38, [38, 97, 109, 112, 59])] l).length ≤ 100000 := Nat.le_trans (esc_bound [(38, [38, 97, 109, 112, 59])] (by decide +kernel) l) (by omega)
  refine tr_esc (c := 60) (z := [38, 108, 116, 59]) ?_ h1 (by decide) (by decide +kernel) (by decide +kernel) (by decide +kernel) ⟨by kernel_rfl, by kernel_rfl, by kernel_rfl⟩
  have h2 : (esc [(38, [38, 97, 109, 112, 59]), (60, [38, 108, 116, 59])] l).length ≤ 100000 := Nat.le_trans (esc_bound [(38, [38, 97, 109, 112, 59]), (60, [38, 108, 116, 59])] (by decide +kernel) l) (by omega)
  refine tr_esc (c := 34) (z := [38, 113, 117, 111, 116, 59]) ?_ h2 (by decide) (by decide +kernel) (by decide +kernel) (by decide +kernel) ⟨by kernel_rfl, by kernel_rfl, by kernel_rfl⟩
  have h3 : (esc [(38, [38, 97, 109, 112, 59]), (60, [38, 108, 116, 59]), (34, [38, 113, 117, 111, 116, 59])] l).length ≤ 100000 := Nat.le_trans (esc_bound [(38, [38, 97, 109, 112, 59]), (60, [38, 108, 116, 59]), (34, [38, 113, 117, 111, 116, 59])] (by decide +kernel) l) (by omega)
  refine tr_esc (c := 9) (z := [38, 35, 120, 57, 59]) ?_ h3 (by decide) (by decide +kernel) (by decide +kernel) (by decide +kernel) ⟨by kernel_rfl, by kernel_rfl, by kernel_rfl⟩
  have h4 : (esc [(38, [38, 97, 109, 112, 59]), (60, [38, 108, 116, 59]), (34, [38, 113, 117, 111, 116, 59]), (9, [38, 35, 120, 57, 59])] l).length ≤ 100000 := Nat.le_trans (esc_bound [(38, [38, 97, 109, 112, 59]), (60, [38, 108, 116, 59]), (34, [38, 113, 117, 111, 116, 59]), (9, [38, 35, 120, 57, 59])] (by decide +kernel) l) (by omega)
  refine tr_esc (c := 10) (z := [38, 35, 120, 65, 59]) ?_ h4 (by decide) (by decide +kernel) (by decide +kernel) (by decide +kernel) ⟨by kernel_rfl, by kernel_rfl, by kernel_rfl⟩
  have h5 : (esc [(38, [38, 97, 109, 112, 59]), (60, [38, 108, 116, 59]), (34, [38, 113, 117, 111, 116, 59]), (9, [38, 35, 120, 57, 59]), (10, [38, 35, 120, 65, 59])] l).length ≤ 100000 := Nat.le_trans (esc_bound [(38, [38, 97, 109, 112, 59]), (60, [38, 108, 116, 59]), (34, [38, 113, 117, 111, 116, 59]), (9, [38, 35, 120, 57, 59]), (10, [38, 35, 120, 65, 59])] (by decide +kernel) l) (by omega)
  refine tr_esc (c := 13) (z := [38, 35, 120, 68, 59]) ?_ h5 (by decide) (by decide +kernel) (by decide +kernel) (by decide +kernel) ⟨by kernel_rfl, by kernel_rfl, by kernel_rfl⟩
  exact tr_ret (d := .str (esc attribC l)) (fun s st => by first | exact ev_name ⟨by kernel_rfl, by kernel_rfl, by kernel_rfl⟩ (st.vr look_here)) rfl
end
section
noncomputable def grp : List Nat := [103, 114, 111, 117, 112]
noncomputable def closed : List Nat := [99, 108, 111, 115, 101, 100]
noncomputable def lastS : List Nat := [108, 97, 115, 116]
noncomputable def opener : List Nat := [40, 63, 62, 46, 42, 63]
noncomputable def specials : List Nat := [40, 41, 91, 93, 123, 125, 63, 42, 43, 124, 94, 36]
noncomputable def tok (s : Nat) (r : List Nat) : List Nat := (([([92], r.take 1), ([46], [])] : List (List Nat × List Nat)).lookup [s]).getD [s]
/-- the law's reader -/
noncomputable def rd : Nat → List Nat → List Run → Run → List Nat → Option (List Run × List Nat)
  | _, [], fz, cur, st => if [grp, closed].any (· == st) then none else some (fz ++ [cur], st)
  | 0, _ :: _, _, _, _ => none
  | f + 1, s :: r, fz, cur, st =>
    if ((s :: r).take 6 == opener && ([front, closed].any (· == st) && true)) = true then rd f ((s :: r).drop 6) (fz ++ [cur]) [] grp
    else if ([s] == [41] && (st == grp && true)) = true then rd f r fz cur closed
    else if ([s] ++ r.take 1 == [46, 42] && ([front, closed].any (· == st) && true)) = true then rd f (r.drop 1) (fz ++ [cur]) [] lastS
    else if (st == closed || (decide (s ∈ specials) || (([s] == [92] && ((r.take 1 == [] || (Txt.isalnum (Sx (r.take 1)) || false)) && true)) || false))) = true then none
    else rd f (if ([s] == [92]) = true then r.drop 1 else r) fz (cur ++ [tok s r]) st
noncomputable def dOpt : Option (List Run × List Nat) → D
  | none => .none
  | some (rs, st) => .list [.list (rs.map fun r => .list (r.map D.str)), .str st]
theorem rd_end (f : Nat) (fz : List Run) (cur : Run) (st : List Nat) : rd f [] fz cur st = if [grp, closed].any (· == st) then none else some (fz ++ [cur], st) := by cases f <;> rfl
theorem slice6 (x : List Nat) (k : Nat) : Txt.slice (Sx x) (some (k : Int)) (some ((k : Int) + 6)) = Sx ((x.drop k).take 6) := by
  have := slice_sx x (a := k) (b := k + 6) (by omega)
  rw [show k + 6 - k = 6 by omega] at this
  exact this
theorem slice1 (x : List Nat) (k : Nat) : Txt.slice (Sx x) (some ((k : Int) + 1)) (some ((k : Int) + 2)) = Sx ((x.drop (k + 1)).take 1) := by
  have := slice_sx x (a := k + 1) (b := k + 2) (by omega)
  rw [show k + 2 - (k + 1) = 1 by omega] at this
  exact this
theorem slice_inner (inner : List Nat) : Txt.slice (Sx ([40, 63, 115, 58] ++ inner ++ [41, 92, 90])) (some 4) (some (-3)) = Sx inner := by
  have := slice_neg_sx ([40, 63, 115, 58] ++ inner ++ [41, 92, 90]) (a := 4) (c := 3) (by omega) (by simp)
  refine this.trans ?_
  congr 2
  simp

/-- where the loop of the reader stands -/
noncomputable def RI (inner : List Nat) (fin : Option (List Run × List Nat)) (m : Nat) (Γ : Gam) (O : Own) : Prop :=
  ∃ (k : Nat) (fz : List Run) (cur : Run) (st : List Nat) (a r : Addr) (f : Nat), k ≤ inner.length ∧ m = inner.length - k ∧ inner.length - k ≤ f ∧ cur.length ≤ k ∧ fz.length ≤ k ∧ rd f (inner.drop k) fz cur st = fin ∧
    Γ.lookup (Str.ofString "inner") = some (.str inner) ∧ Γ.lookup (Str.ofString "runs") = some (.val (.ref r)) ∧ Γ.lookup (Str.ofString "k") = some (.int k) ∧ Γ.lookup (Str.ofString "state") = some (.str st) ∧
    O = [(a, .list (cur.map D.str)), (r, .list (fz.map (fun r => .list (r.map D.str)) ++ [.val (.ref a)]))]
noncomputable def RB (inner : List Nat) (fin : Option (List Run × List Nat)) (m : Nat) (oc : Oc) : Prop :=
  (∃ Γ O k', oc = .next Γ O ∧ k' < m ∧ RI inner fin k' Γ O) ∨ (oc = .ret .none ∧ fin = none)

theorem RB.go {inner : List Nat} {fin : Option (List Run × List Nat)} {m : Nat} {Γ : Gam} {O : Own} (k : Nat) (fz : List Run) (cur : Run) (st : List Nat) {a r : Addr} {f : Nat} (hlt : inner.length - k < m) (hk : k ≤ inner.length) (hf : inner.length - k ≤ f)
    (hcl : cur.length ≤ k) (hfl : fz.length ≤ k) (hrd : rd f (inner.drop k) fz cur st = fin) (h1 : Γ.lookup (Str.ofString "inner") = some (.str inner)) (h2 : Γ.lookup (Str.ofString "runs") = some (.val (.ref r)))
    (h3 : Γ.lookup (Str.ofString "k") = some (.int k)) (h4 : Γ.lookup (Str.ofString "state") = some (.str st)) (hO : O = [(a, .list (cur.map D.str)), (r, .list (fz.map (fun r => .list (r.map D.str)) ++ [.val (.ref a)]))]) : RB inner fin m (.next Γ O) :=
  .inl ⟨Γ, O, _, rfl, hlt, k, fz, cur, st, a, r, f, hk, rfl, hf, hcl, hfl, hrd, h1, h2, h3, h4, hO⟩
theorem RB.none {inner : List Nat} {fin : Option (List Run × List Nat)} {m : Nat} (h : fin = .none) : RB inner fin m (.ret .none) := .inr ⟨rfl, h⟩

set_option maxHeartbeats 2000000 in
theorem runs_cn {P : Cx} (W : Wd P) (inner : List Nat) (hn : inner.length ≤ 5000) : Cn P 1 (Str.ofString "_law_runs") [.str ([40, 63, 115, 58] ++ inner ++ [41, 92, 90])] (dOpt (rd (inner.length + 1) inner [] [] front)) := by
  have e : recOf (Str.ofString "_law_runs") = recOf (Str.ofString "_law_runs") := rfl
  conv at e => rhs; whnf
  refine cn_of W [(Str.ofString "text", .str ([40, 63, 115, 58] ++ inner ++ [41, 92, 90]))] [Str.ofString "text"] rfl (by decide +kernel) e ?_ rfl ?_ (by decide +kernel) (by decide +kernel) ?_
  · intro pm cd doc vs h; match vs, h with | [v0], _ => rfl
  · exact fun n => List.forall_mem_cons.mpr ⟨.inl (by kernel_rfl), fun _ h => nomatch h⟩
  intro X B L a cd once
  clear e
  dsimp only at once ⊢
  have hlen : ([40, 63, 115, 58] ++ inner ++ [41, 92, 90]).length ≤ 6000 := by simp; omega
  generalize hfin : rd (inner.length + 1) inner [] [] front = fin
  have F : Fe (envOfC (Str.ofString "_law_runs") (recOf (Str.ofString "_law_runs")).scope L a cd) := ⟨by kernel_rfl, by kernel_rfl, by kernel_rfl⟩
  with_reducible refine tr_start (x₁ := Str.ofString "inner") (x₂ := Str.ofString "runs") (x₃ := Str.ofString "k") (x₄ := Str.ofString "state") (d₁ := .str inner) (d₃ := .int 0) (d₄ := .str front) (fun s st => ev_slice (x := [40, 63, 115, 58] ++ inner ++ [41, 92, 90]) (i := 4) (j := -3) ?_ ?_ ?_ ?_ (slice_inner inner)) ?_ (fun O' s st => ?_) ?_ (fun O' s st => ?_) ?_ (by kernel_rfl) ?_ (fun r a => ?_)
  · ktr_rel
  · ktr_rel
  · ktr_rel
  · omega
  · trivial
  · ktr_rel
  · trivial
  · ktr_rel
  · trivial
  · exact fun v => .cons (fun M A v Q E s h => wpAny_assign_Name h) (.inl (by kernel_rfl)) (.cons (fun M A v Q E s h => wpAny_assign_Name h) (.inl (by kernel_rfl)) (.cons (fun M A v Q E s h => wpAny_assign_Name h) (.inl (by kernel_rfl)) (.cons (fun M A v Q E s h => wpAny_assign_Name h) (.inl (by kernel_rfl)) .nil)))
  with_reducible refine tr_if (b := false) (R₁ := fun oc => oc = .next [(Str.ofString "state", .str front), (Str.ofString "k", .int 0), (Str.ofString "runs", .val (.ref r)), (Str.ofString "inner", .str inner), (Str.ofString "text", .str ([40, 63, 115, 58] ++ inner ++ [41, 92, 90]))] [(a, .list []), (r, .list [.val (.ref a)])]) (fun s st => tt_eq (tt_cm (cm_sne (x := [40, 63, 115, 58] ++ inner ++ [41, 92, 90]) (y := [40, 63, 115, 58] ++ inner ++ [41, 92, 90]) ?_ (ev_cat (ev_cat ?_ ?_ ?_) ?_ ?_))) ?_) (fun h => ?_) (fun h => ?_) ?_ ?_ ?_
  · ktr_rel
  · ktr_rel
  · ktr_rel
  · simp; omega
  · ktr_rel
  · simp; omega
  · exact bne_self_eq_false _
  · cases h
  · exact tr_nil rfl
  rotate_left
  · rintro Γ' O' e; cases e
  · rintro d e; cases e
  rintro Γ' O' e
  cases e
  with_reducible refine tr_while (RI inner fin) inner.length ?_ (R₁ := fun oc => (oc = .ret .none ∧ fin = none) ∨ ∃ Γ a r fz cur st, oc = .next Γ [(a, .list (cur.map D.str)), (r, .list (fz.map (fun r => .list (r.map D.str)) ++ [.val (.ref a)]))] ∧ Γ.lookup (Str.ofString "runs") = some (.val (.ref r)) ∧ Γ.lookup (Str.ofString "state") = some (.str st) ∧ fin = if [grp, closed].any (· == st) then none else some (fz ++ [cur], st)) ?_ ?_ ?_ ?_
  · exact ⟨0, [], [], front, a, r, inner.length + 1, Nat.zero_le _, rfl, by omega, Nat.le_refl _, Nat.le_refl _, hfin, by k_mem, by k_mem, look_there (by decide +kernel) look_here, by k_mem, rfl⟩
  · rintro m Γ₁ O₁ ⟨k, fz, cur, st₀, a, r, f, hk, hm, hf, hcl, hfl, hrd, h1, h2, h3, h4, rfl⟩
    refine ⟨decide ((k : Int) < inner.length), fun s st => ?_, fun hb => ?_, fun hb => ?_⟩
    · with_reducible refine tt_cm (cm_ilt ?_ (ev_len_str (x := inner) ?_ ?_ ?_))
      · ktr_rel
      · ktr_rel
      · ktr_rel
      · omega
    · have hlt : k < inner.length := by have := of_decide_eq_true hb; omega
      refine tr_mono (R₁ := RB inner fin m) (fun oc h => ?_) ?_
      · rcases h with ⟨Γ, O, k', rfl, h1, h2⟩ | ⟨rfl, h⟩
        · exact ⟨k', h1, h2⟩
        · exact .inl ⟨rfl, h⟩
      obtain ⟨f, rfl⟩ : ∃ g, f = g + 1 := ⟨f - 1, by omega⟩
      have hdrop : inner.drop k = inner.getD k 0 :: inner.drop (k + 1) := by
        rw [List.drop_eq_getElem_cons hlt, List.getD_eq_getElem?_getD, List.getElem?_eq_getElem hlt]; rfl
      rw [hdrop] at hrd
      have hsix := slice6 inner k
      have hone := slice1 inner k
      rw [hdrop] at hsix
      have hrl : (inner.drop (k + 1)).length = inner.length - (k + 1) := List.length_drop
      have hd6 : (inner.getD k 0 :: inner.drop (k + 1)).drop 6 = inner.drop (k + 6) := by rw [← hdrop, List.drop_drop]
      have hd1 : (inner.drop (k + 1)).drop 1 = inner.drop (k + 2) := by rw [List.drop_drop]
      have hsome := getD_some hlt
      have hlen6 : ((inner.getD k 0 :: inner.drop (k + 1)).take 6).length ≤ 6 := by rw [List.length_take]; omega
      have hl6' : k + ((inner.getD k 0 :: inner.drop (k + 1)).take 6).length ≤ inner.length := by rw [List.length_take, List.length_cons, hrl]; omega
      have hl1' : k + 1 + ((inner.drop (k + 1)).take 1).length ≤ inner.length := by rw [List.length_take, hrl]; omega
      have hlen1 : ((inner.drop (k + 1)).take 1).length ≤ 1 := by rw [List.length_take]; omega
      unfold rd at hrd
      generalize inner.getD k 0 = c at *
      generalize hrr : inner.drop (k + 1) = rr at *
      with_reducible refine tr_swap (ps := [(Str.ofString "sign", .str [c]), (Str.ofString "behind", .str (rr.take 1))]) (names := [Str.ofString "sign", Str.ofString "behind"]) (fun s st => ev_tup (.cons (ev_chr (x := inner) (i := k) ?_ ?_ ?_ ?_ ?_) (.cons (ev_slice (x := inner) (i := (k : Int) + 1) (j := (k : Int) + 2) ?_ ?_ ?_ ?_ hone) .nil))) (by kernel_rfl) (by kernel_rfl) ?_ ?_
      · ktr_rel
      · ktr_rel
      · omega
      · exact hsome
      · omega
      · ktr_rel
      · ktr_rel
      · ktr_rel
      · omega
      · exact .cons (fun M A v Q E s h => wpAny_bindName h) (.inl (by kernel_rfl)) (.cons (fun M A v Q E s h => wpAny_bindName h) (.inl (by kernel_rfl)) .nil)
      show Tr P 0 X B _ ((Str.ofString "sign", .str [c]) :: (Str.ofString "behind", .str (rr.take 1)) :: Γ₁) _ _ _
      with_reducible refine tr_if (R₁ := RB inner fin m) (b := (c :: rr).take 6 == opener && ([front, closed].any (· == st₀) && true)) (fun s st => tt_and (tt_cm (cm_seq (x := (c :: rr).take 6) (y := opener) (ev_slice (x := inner) (i := k) (j := (k : Int) + 6) ?_ ?_ ?_ ?_ hsix) ?_)) (fun _ => tt_and (tt_cm (cm_sinl (x := st₀) (ss := [front, closed]) ?_ (ev_list (.cons ?_ (.cons ?_ .nil))) rfl)) (fun _ => tt_and_nil))) (fun h => ?_) (fun h => ?_) (fun Γ' O' h => tr_nil h) (fun Γ' O' h => h) (fun d h => h)
      · ktr_rel
      · ktr_rel
      · ktr_rel
      · omega
      · ktr_rel
      · ktr_rel
      · ktr_rel
      · ktr_rel
      · rw [if_pos h] at hrd
        have h6 := eq_of_beq (Bool.and_eq_true _ _ ▸ h).1
        rw [h6] at hl6'
        have h6l : opener.length = 6 := rfl
        refine tr_step (fun s st => st.seal) ?_
        refine tr_app_new (x := Str.ofString "runs") (by k_mem) ⟨by kernel_rfl, by kernel_rfl, by kernel_rfl⟩ (fun b => ?_) (by simp; omega)
        with_reducible refine tr_swap (ps := [(Str.ofString "k", .int ((k : Int) + 6)), (Str.ofString "state", .str grp)]) (names := [Str.ofString "k", Str.ofString "state"]) (fun s st => ev_tup (.cons (ev_add ?_ ?_) (.cons ?_ .nil))) (by kernel_rfl) (by kernel_rfl) ?_ (tr_nil (RB.go (a := b) (r := r) (f := f) (k + 6) (fz ++ [cur]) ([]) grp ?_ ?_ ?_ ?_ ?_ ?_ ?_ ?_ ?_ ?_ ?_))
        · ktr_rel
        · ktr_rel
        · ktr_rel
        · exact .cons (fun M A v Q E s h => wpAny_bindName h) (.inl (by kernel_rfl)) (.cons (fun M A v Q E s h => wpAny_bindName h) (.inl (by kernel_rfl)) .nil)
        · omega
        · omega
        · omega
        · exact Nat.zero_le _
        · simp; omega
        · rw [← hd6]; exact hrd
        · show List.lookup _ ((Str.ofString "k", _) :: (Str.ofString "state", _) :: _) = _
          k_mem
        · show List.lookup _ ((Str.ofString "k", _) :: (Str.ofString "state", _) :: _) = _
          k_mem
        · exact look_here
        · exact look_there (by decide +kernel) look_here
        · rw [List.map_append]; rfl
      rw [if_neg (by rw [h]; decide)] at hrd
      with_reducible refine tr_if (R₁ := RB inner fin m) (b := [c] == [41] && (st₀ == grp && true)) (fun s st => tt_and (tt_cm (cm_seq (x := [c]) (y := [41]) ?_ ?_)) (fun _ => tt_and (tt_cm (cm_seq (x := st₀) (y := grp) ?_ ?_)) (fun _ => tt_and_nil))) (fun h => ?_) (fun h => ?_) (fun Γ' O' h => tr_nil h) (fun Γ' O' h => h) (fun d h => h)
      · ktr_rel
      · ktr_rel
      · ktr_rel
      · ktr_rel
      · rw [if_pos h] at hrd
        with_reducible refine tr_swap (ps := [(Str.ofString "k", .int ((k : Int) + 1)), (Str.ofString "state", .str closed)]) (names := [Str.ofString "k", Str.ofString "state"]) (fun s st => ev_tup (.cons (ev_add ?_ ?_) (.cons ?_ .nil))) (by kernel_rfl) (by kernel_rfl) ?_ (tr_nil (RB.go (a := a) (r := r) (f := f) (k + 1) (fz) (cur) closed ?_ ?_ ?_ ?_ ?_ ?_ ?_ ?_ ?_ ?_ rfl))
        · ktr_rel
        · ktr_rel
        · ktr_rel
        · exact .cons (fun M A v Q E s h => wpAny_bindName h) (.inl (by kernel_rfl)) (.cons (fun M A v Q E s h => wpAny_bindName h) (.inl (by kernel_rfl)) .nil)
        · omega
        · omega
        · omega
        · omega
        · omega
        · rw [hrr]; exact hrd
        · show List.lookup _ ((Str.ofString "k", _) :: (Str.ofString "state", _) :: _) = _
          k_mem
        · show List.lookup _ ((Str.ofString "k", _) :: (Str.ofString "state", _) :: _) = _
          k_mem
        · exact look_here
        · exact look_there (by decide +kernel) look_here
      rw [if_neg (by rw [h]; decide)] at hrd
      with_reducible refine tr_if (R₁ := RB inner fin m) (b := [c] ++ rr.take 1 == [46, 42] && ([front, closed].any (· == st₀) && true)) (fun s st => tt_and (tt_cm (cm_seq (x := [c] ++ rr.take 1) (y := [46, 42]) (ev_cat ?_ ?_ ?_) ?_)) (fun _ => tt_and (tt_cm (cm_sinl (x := st₀) (ss := [front, closed]) ?_ (ev_list (.cons ?_ (.cons ?_ .nil))) rfl)) (fun _ => tt_and_nil))) (fun h => ?_) (fun h => ?_) (fun Γ' O' h => tr_nil h) (fun Γ' O' h => h) (fun d h => h)
      · ktr_rel
      · ktr_rel
      · simp; omega
      · ktr_rel
      · ktr_rel
      · ktr_rel
      · ktr_rel
      · rw [if_pos h] at hrd
        have h2c := congrArg List.length (eq_of_beq (Bool.and_eq_true _ _ ▸ h).1)
        rw [List.length_append] at h2c
        have h2d : (List.take 1 rr).length = 1 := Nat.succ.inj ((Nat.add_comm _ _).trans h2c)
        refine tr_step (fun s st => st.seal) ?_
        refine tr_app_new (x := Str.ofString "runs") (by k_mem) ⟨by kernel_rfl, by kernel_rfl, by kernel_rfl⟩ (fun b => ?_) (by simp; omega)
        with_reducible refine tr_swap (ps := [(Str.ofString "k", .int ((k : Int) + 2)), (Str.ofString "state", .str lastS)]) (names := [Str.ofString "k", Str.ofString "state"]) (fun s st => ev_tup (.cons (ev_add ?_ ?_) (.cons ?_ .nil))) (by kernel_rfl) (by kernel_rfl) ?_ (tr_nil (RB.go (a := b) (r := r) (f := f) (k + 2) (fz ++ [cur]) ([]) lastS ?_ ?_ ?_ ?_ ?_ ?_ ?_ ?_ ?_ ?_ ?_))
        · ktr_rel
        · ktr_rel
        · ktr_rel
        · exact .cons (fun M A v Q E s h => wpAny_bindName h) (.inl (by kernel_rfl)) (.cons (fun M A v Q E s h => wpAny_bindName h) (.inl (by kernel_rfl)) .nil)
        · omega
        · omega
        · omega
        · exact Nat.zero_le _
        · simp; omega
        · rw [← hd1]; exact hrd
        · show List.lookup _ ((Str.ofString "k", _) :: (Str.ofString "state", _) :: _) = _
          k_mem
        · show List.lookup _ ((Str.ofString "k", _) :: (Str.ofString "state", _) :: _) = _
          k_mem
        · exact look_here
        · exact look_there (by decide +kernel) look_here
        · rw [List.map_append]; rfl
      rw [if_neg (by rw [h]; decide)] at hrd
      with_reducible refine tr_if (R₁ := RB inner fin m) (b := st₀ == closed || (decide (c ∈ specials) || (([c] == [92] && ((rr.take 1 == [] || (Txt.isalnum (Sx (rr.take 1)) || false)) && true)) || false))) (fun s st => tt_or (tt_cm (cm_seq (x := st₀) (y := closed) ?_ ?_)) (fun _ => tt_or (tt_eq (tt_cm (cm_sin (x := specials) (y := [c]) ?_ ?_)) (contains_one specials c)) (fun _ => tt_or (tt_and (tt_cm (cm_seq (x := [c]) (y := [92]) ?_ ?_)) (fun _ => tt_and (tt_or (tt_cm (cm_seq (x := rr.take 1) (y := []) ?_ ?_)) (fun _ => tt_or (tt_bool (ev_isalnum (x := rr.take 1) ?_)) (fun _ => tt_or_nil))) (fun _ => tt_and_nil))) (fun _ => tt_or_nil)))) (fun h => ?_) (fun h => ?_) (fun Γ' O' h => tr_nil h) (fun Γ' O' h => h) (fun d h => h)
      iterate 9 ktr_rel
      · rw [if_pos h] at hrd
        exact tr_ret (d := .none) (fun s st => ev_none) (RB.none hrd.symm)
      rw [if_neg (by rw [h]; decide)] at hrd
      have hb2 : ([c] == [92]) = true → (rr.take 1).length = 1 := fun hc => by
        rw [hc] at h
        cases q : rr.take 1 with
        | nil => rw [q] at h; simp at h
        | cons x y => rw [q] at hlen1; simp at hlen1 ⊢; omega
      refine tr_append (ho := ?_) (hx := fun s st => ev_dget (kv := [([92], rr.take 1), ([46], [])]) (x := [c]) (y := [c]) (ev_dict W.good (.cons ?_ ?_ (.cons ?_ ?_ .nil)) ?_ st.kW) ?_ ?_) ?_ ?_
      · exact es_own_last (a := r) (ds := fz.map (fun r => .list (r.map D.str)) ++ [.val (.ref a)]) (by k_mem) (.tail _ (.head _)) (by simp) trivial (by simp; omega) ⟨by kernel_rfl, by kernel_rfl, by kernel_rfl⟩ (fun s st => ev_uneg ev_int) rfl
      iterate 4 ktr_rel
      · show [[92], [46]].Nodup; decide
      · ktr_rel
      · ktr_rel
      · with_reducible refine tr_setL (d := .int (if ([c] == [92]) = true then (k : Int) + 2 else (k : Int) + 1)) (fun s st => ev_if (c := [c] == [92]) (tt_cm (cm_seq (x := [c]) (y := [92]) ?_ ?_)) (fun h => ?_) (fun h => ?_)) (tr_nil (RB.go (a := a) (r := r) (f := f) ((if ([c] == [92]) = true then k + 2 else k + 1)) (fz) (cur ++ [tok c rr]) st₀ ?_ ?_ ?_ ?_ ?_ ?_ ?_ ?_ ?_ ?_ ?_))
        · ktr_rel
        · ktr_rel
        · rw [if_pos h]; ktr_rel
        · rw [if_neg (by rw [h]; decide)]; ktr_rel
        · split <;> omega
        · split
          · rename_i hc; have := hb2 hc; omega
          · omega
        · split <;> omega
        · rw [List.length_append]; show _ + 1 ≤ _; split <;> omega
        · split <;> omega
        · rw [← hrd]
          by_cases hc : ([c] == [92]) = true
          · rw [if_pos hc, if_pos hc, hd1]
          · rw [if_neg hc, if_neg hc, hrr]
        · k_mem
        · k_mem
        · rw [show (((if ([c] == [92]) = true then k + 2 else k + 1 : Nat)) : Int) = if ([c] == [92]) = true then (k : Int) + 2 else (k : Int) + 1 by split <;> rfl]
          exact look_here
        · k_mem
        · rw [List.map_append]; rfl
      · rw [List.length_map]; omega
    · have hge : ¬ k < inner.length := by have := of_decide_eq_false hb; omega
      rw [List.drop_eq_nil_of_le (by omega), rd_end] at hrd
      exact .inr ⟨Γ₁, a, r, fz, cur, st₀, rfl, h2, h4, hrd.symm⟩
  · rintro Γ' O' (⟨e, _⟩ | ⟨Γ, a, r, fz, cur, st₀, e, h2, h4, hfin'⟩)
    · cases e
    cases e
    refine tr_step (fun s st => st.seal) (tr_shut h2 ?_)
    rw [hfin']
    with_reducible refine tr_ret (d := dOpt (if [grp, closed].any (· == st₀) then none else some (fz ++ [cur], st₀))) (fun s st => ev_if (c := [grp, closed].any (· == st₀)) (tt_cm (cm_sinl (x := st₀) (ss := [grp, closed]) ?_ (ev_list (.cons ?_ (.cons ?_ .nil))) rfl)) (fun h => ?_) (fun h => ?_)) rfl
    · ktr_rel
    · ktr_rel
    · ktr_rel
    · rw [if_pos h]; exact ev_none
    · rw [if_neg (by rw [h]; decide)]
      show Ev _ _ _ _ _ _ (.list [.list ((fz ++ [cur]).map fun r => .list (r.map D.str)), .str st₀])
      rw [List.map_append, List.map_cons, List.map_nil]
      with_reducible refine ev_list (.cons ?_ (.cons ?_ .nil))
      · ktr_rel
      · ktr_rel
  · rintro Γ' O' (⟨e, _⟩ | ⟨Γ, a, r, fz, cur, st₀, e, _⟩) <;> cases e
  · rintro d (⟨e, h⟩ | ⟨Γ, a, r, fz, cur, st₀, e, _⟩)
    · cases e; rw [h]; rfl
    · cases e
end
section
noncomputable def takesD : Option (List Run × List Nat) → List Nat → Bool
  | none, _ => false
  | some ([], _), _ => false
  | some (r0 :: rest, st), w => takes r0 rest st w
/-- what was read is small and not empty -/
noncomputable def Small : Option (List Run × List Nat) → Prop
  | none => True
  | some (rs, _) => rs ≠ [] ∧ rs.length ≤ 1000 ∧ ∀ r ∈ rs, r.length ≤ 1000
theorem takes_any {P : Cx} (W : Wd P) (o : Option (List Run × List Nat)) (w : List Nat) (hw : w.length ≤ 1000) (ho : Small o) : Cn P 2 (Str.ofString "_law_takes") [dOpt o, .str w] (.bool (takesD o w)) := by
  match o, ho with
  | none, _ => exact takes_none W w
  | some (r0 :: rest, st), h => exact takes_cn W r0 rest st w hw h.2.2 (by have := h.2.1; simp at this; omega)
  | some ([], _), h => exact absurd rfl h.1
noncomputable def exprOf (inner : List Nat) : List Nat := [40, 63, 115, 58] ++ inner ++ [41, 92, 90]
noncomputable def readOf (inner : List Nat) : Option (List Run × List Nat) := rd (inner.length + 1) inner [] [] front
theorem filter_congr_idx {α : Type} {l : List α} {f g : α → Bool} (h : ∀ x ∈ l, f x = g x) : l.filter f = l.filter g := List.filter_congr h
theorem ups_idx {k : Int} {n : Nat} (h : k ∈ ups 0 n) : 0 ≤ k ∧ k.toNat < n := by have := mem_ups h; omega
set_option maxHeartbeats 2000000 in
theorem right_cn {P : Cx} (W : Wd P) (inn : List Nat → List Nat) (wa : Addr) (kv : List (List Nat × List Nat)) (rows pats : List (List Nat)) (hrn : rows.length ≤ 1000) (hpn : pats.length ≤ 1000) (hrl : ∀ r ∈ rows, r.length ≤ 1000 ∧ (written kv r).length ≤ 1000) (hpl : ∀ r ∈ pats, r.length ≤ 1000 ∧ (written kv r).length ≤ 1000) (hwr : ∀ x ∈ rows ++ pats, Con P 3 wa [.str x] (.str (written kv x))) (htr : ∀ x ∈ pats, Cn P 3 (Str.ofString "translate") [.str x] (.str (exprOf (inn x))) ∧ Cn P 3 (Str.ofString "translate") [.str (written kv x)] (.str (exprOf (inn (written kv x)))) ∧ (inn x).length ≤ 5000 ∧ (inn (written kv x)).length ≤ 5000 ∧ Small (readOf (inn x)) ∧ Small (readOf (inn (written kv x)))) (H1 : ∀ x ∈ pats, ∀ r ∈ rows, takesD (readOf (inn x)) r = fits x r) (H2 : ∀ x ∈ pats, ∀ r ∈ rows, takesD (readOf (inn (written kv x))) (written kv r) = fits x r) : Cn P 4 (Str.ofString "_law_right") [.val (.ref wa), .dict kv, .list (rows.map D.str), .list (pats.map D.str)] (.bool true) := by
  have e : recOf (Str.ofString "_law_right") = recOf (Str.ofString "_law_right") := rfl
  conv at e => rhs; whnf
  refine cn_of W [(Str.ofString "writer", .val (.ref wa)), (Str.ofString "table", .dict kv), (Str.ofString "rows", .list (rows.map D.str)), (Str.ofString "patterns", .list (pats.map D.str))] [Str.ofString "writer", Str.ofString "table", Str.ofString "rows", Str.ofString "patterns"] rfl (by decide +kernel) e ?_ rfl ?_ (by decide +kernel) (by decide +kernel) ?_
  · intro pm cd doc vs h; match vs, h with | [v0, v1, v2, v3], _ => rfl
  · exact fun n => List.forall_mem_cons.mpr ⟨.inr ⟨by kernel_rfl, by kernel_rfl⟩, List.forall_mem_cons.mpr ⟨.inr ⟨by kernel_rfl, by kernel_rfl⟩, List.forall_mem_cons.mpr ⟨.inr ⟨by kernel_rfl, by kernel_rfl⟩, List.forall_mem_cons.mpr ⟨.inl (by kernel_rfl), fun _ h => nomatch h⟩⟩⟩⟩
  intro X B L a cd once
  clear e
  dsimp only at once ⊢
  with_reducible refine tr_setC (d := .list (rows.map fun r => .str (written kv r))) (fun s st => ev_eq (ev_compS (ns := rows) (q := fun _ => true) (g := fun r => .str (written kv r)) (src_list ?_) ?_ (fun k hk C h' kk V => tts_nil) (fun k => flat_str) (fun k hk _ C h' kk V => ev_calln W ⟨(by kernel_rfl), (by kernel_rfl), (by kernel_rfl)⟩ (st.kW.trans kk) ((written_cn W kv k (hrl k hk).1 (Nat.le_trans (hrl k hk).2 (by omega))).le (by omega)) (.cons ?_ (.cons ?_ .nil)))) ?_) ?_
  · ktr_rel
  · omega
  · ktr_rel
  · ktr_rel
  · rw [all_filter]
  with_reducible refine tr_if (b := false) (R₁ := fun oc => oc = .next [(Str.ofString "written", .list (rows.map fun r => .str (written kv r))), (Str.ofString "writer", .val (.ref wa)), (Str.ofString "table", .dict kv), (Str.ofString "rows", .list (rows.map D.str)), (Str.ofString "patterns", .list (pats.map D.str))] []) (fun s st => tt_eq (tt_or (c := false) (d := false) (tt_eq (tt_cm (cm_Sne (es := rows.map fun r => .str (written kv r)) (ns := rows.map (written kv)) (ms := rows.map (written kv)) (ev_compS (ns := rows) (q := fun _ => true) (g := fun r => .str (written kv r)) (src_list ?_) ?_ (fun k hk C h' kk V => tts_nil) (fun k => flat_str) (fun k hk _ C h' kk V => ev_call ?_ (.cons ?_ .nil) (hwr k (List.mem_append_left _ hk)) (st.kW.trans kk))) ?_ ?_ ?_)) ?_) (fun _ => tt_eq (tt_or (c := false) (d := false) (tt_eq (tt_cm (cm_Sne (ns := pats.map (written kv)) (ms := pats.map (written kv)) (ev_compS (ns := pats) (q := fun _ => true) (g := fun r => .str (written kv r)) (src_list ?_) ?_ (fun k hk C h' kk V => tts_nil) (fun k => flat_str) (fun k hk _ C h' kk V => ev_call ?_ (.cons ?_ .nil) (hwr k (List.mem_append_right _ hk)) (st.kW.trans kk))) (ev_compS (ns := pats) (q := fun _ => true) (g := fun r => .str (written kv r)) (src_list ?_) ?_ (fun k hk C h' kk V => tts_nil) (fun k => flat_str) (fun k hk _ C h' kk V => ev_calln W ⟨(by kernel_rfl), (by kernel_rfl), (by kernel_rfl)⟩ (st.kW.trans kk) ((written_cn W kv k (hpl k hk).1 (Nat.le_trans (hpl k hk).2 (by omega))).le (by omega)) (.cons ?_ (.cons ?_ .nil)))) ?_ ?_)) ?_) (fun _ => tt_or_nil)) ?_)) ?_) (fun h => ?_) (fun h => tr_nil rfl) ?_ ?_ ?_
  · ktr_rel
  · omega
  · ktr_rel
  · ktr_rel
  · ktr_rel
  · rw [all_filter, List.map_map]; rfl
  · rw [List.map_map]; rfl
  · exact bne_self_eq_false _
  · ktr_rel
  · omega
  · ktr_rel
  · ktr_rel
  · ktr_rel
  · omega
  · ktr_rel
  · ktr_rel
  · rw [all_filter, List.map_map]; rfl
  · rw [all_filter, List.map_map]; rfl
  · exact bne_self_eq_false _
  · rfl
  · rfl
  · cases h
  rotate_left
  · rintro Γ' O' e; cases e
  · rintro d e; cases e
  rintro Γ' O' e
  cases e
  with_reducible refine tr_forC (ds := pats.map D.str) (fun i Γ O => O = [] ∧ Γ.lookup (Str.ofString "written") = some (.list (rows.map fun r => .str (written kv r))) ∧ Γ.lookup (Str.ofString "writer") = some (.val (.ref wa)) ∧ Γ.lookup (Str.ofString "rows") = some (.list (rows.map D.str))) (fun oc => ∃ Γ, oc = .next Γ []) once (fun s st => src_list ?_) ⟨rfl, (by k_mem), (by k_mem), (by k_mem)⟩ ?_ ?_ ?_ ?_ ?_
  · ktr_rel
  · rintro i d Γ₁ O₁ hd ⟨rfl, h1, h2, h3⟩ X' B'
    rw [List.getElem?_map] at hd
    obtain ⟨p, hp, rfl⟩ := Option.map_eq_some_iff.mp hd
    have hpm := List.mem_of_getElem? hp
    obtain ⟨t1, t2, l1, l2, s1, s2⟩ := htr p hpm
    have f1 : (ups 0 rows.length).filter (fun k => takesD (readOf (inn p)) (rows.getD k.toNat [])) = (ups 0 rows.length).filter (fun k => fits p (rows.getD k.toNat [])) := List.filter_congr fun k hk => by
      have := ups_idx hk
      exact H1 p hpm _ (by rw [List.getD_eq_getElem?_getD, List.getElem?_eq_getElem this.2]; exact List.getElem_mem _)
    have f2 : (ups 0 rows.length).filter (fun k => takesD (readOf (inn (written kv p))) (written kv (rows.getD k.toNat []))) = (ups 0 rows.length).filter (fun k => fits p (rows.getD k.toNat [])) := List.filter_congr fun k hk => by
      have := ups_idx hk
      exact H2 p hpm _ (by rw [List.getD_eq_getElem?_getD, List.getElem?_eq_getElem this.2]; exact List.getElem_mem _)
    have hmem : ∀ k ∈ ups 0 rows.length, rows.getD k.toNat [] ∈ rows ∧ 0 ≤ k ∧ rows[k.toNat]? = some (rows.getD k.toNat []) := fun k hk => by
      have := ups_idx hk
      refine ⟨?_, this.1, get_getD this.2⟩
      rw [List.getD_eq_getElem?_getD, List.getElem?_eq_getElem this.2]; exact List.getElem_mem _
    have hlen : (rows.map D.str).length = rows.length := List.length_map ..
    with_reducible refine tr_compI (ns := ups 0 rows.length) (q := fun k => fits p (rows.getD k.toNat [])) (g := D.int) (fun s st => src_up (j := 0) (k := rows.length) (ev_range1 ?_ (ev_eq (ev_len_list (ds := rows.map D.str) ?_ ?_ ?_) ?_)) ?_ ?_ ?_) ?_ (fun s st k hk C h' kk V => tts_one (tt_bool (ev_calln W ⟨(by kernel_rfl), (by kernel_rfl), (by kernel_rfl)⟩ (st.kW.trans kk) ((fits_cn W p (rows.getD k.toNat []) (hrl _ (hmem k hk).1).1).le (by omega)) (.cons ?_ (.cons (ev_item (ds := rows.map D.str) (i := k) ?_ ?_ ?_ ?_ ?_) .nil))))) (fun k => flat_int) (fun s st k hk _ C h' kk V => ?_) ?_
    · ktr_rel
    · ktr_rel
    · ktr_rel
    · omega
    · rw [hlen]
    · omega
    · omega
    · omega
    · rw [ups_length]; omega
    · ktr_rel
    · ktr_rel
    · ktr_rel
    · exact (hmem k hk).2.1
    · rw [List.getElem?_map, (hmem k hk).2.2]; rfl
    · omega
    · ktr_rel
    have c1 := runs_cn W (inn p) l1
    have c2 := runs_cn W (inn (written kv p)) l2
    have c3 := hwr p (List.mem_append_right _ hpm)
    with_reducible refine tr_tup (ps := [(Str.ofString "first", dOpt (readOf (inn p))), (Str.ofString "second", dOpt (readOf (inn (written kv p))))]) (fun s st => ev_tup (.cons (ev_calln (ds := [.str (exprOf (inn p))]) W ⟨(by kernel_rfl), (by kernel_rfl), (by kernel_rfl)⟩ st.kW ?_ (.cons (ev_calln W ⟨(by kernel_rfl), (by kernel_rfl), (by kernel_rfl)⟩ st.kW t1 (.cons ?_ .nil)) .nil)) (.cons (ev_calln (ds := [.str (exprOf (inn (written kv p)))]) W ⟨(by kernel_rfl), (by kernel_rfl), (by kernel_rfl)⟩ st.kW ?_ (.cons (ev_calln W ⟨(by kernel_rfl), (by kernel_rfl), (by kernel_rfl)⟩ st.kW t2 (.cons (ev_call ?_ (.cons ?_ .nil) c3 st.kW) .nil)) .nil)) .nil))) (by kernel_rfl) ?_ ?_
    · exact c1.le (by omega)
    · ktr_rel
    · exact c2.le (by omega)
    · ktr_rel
    · ktr_rel
    · exact .cons (fun M A v Q E s h => wpAny_assign_Name h) (.inr ⟨by kernel_rfl, Option.isSome_iff_exists.mp (by kernel_rfl)⟩) (.cons (fun M A v Q E s h => wpAny_assign_Name h) (.inr ⟨by kernel_rfl, Option.isSome_iff_exists.mp (by kernel_rfl)⟩) .nil)
    show Tr P 3 X' B' _ ((Str.ofString "second", dOpt (readOf (inn (written kv p)))) :: (Str.ofString "first", dOpt (readOf (inn p))) :: (Str.ofString "fit", .list (((ups 0 rows.length).filter (fun k => fits p (rows.getD k.toNat []))).map D.int)) :: (Str.ofString "pattern", .str p) :: Γ₁) _ _ _
    generalize hfit : (ups 0 rows.length).filter (fun k => fits p (rows.getD k.toNat [])) = fit at f1 f2 ⊢
    have hb : (fit != fit) = false := bne_self_eq_false _
    with_reducible refine tr_if (b := false) (R₁ := fun oc => oc = .next ((Str.ofString "second", dOpt (readOf (inn (written kv p)))) :: (Str.ofString "first", dOpt (readOf (inn p))) :: (Str.ofString "fit", .list (fit.map D.int)) :: (Str.ofString "pattern", .str p) :: Γ₁) []) (fun s st => tt_eq (tt_cm (cm_Lne (ns := fit) (ms := fit) (ev_eq (ev_compI (ns := ups 0 rows.length) (q := fun k => takesD (readOf (inn p)) (rows.getD k.toNat [])) (g := D.int) (src_up (j := 0) (k := rows.length) (ev_range1 ?_ (ev_eq (ev_len_list (ds := rows.map D.str) ?_ ?_ ?_) ?_)) ?_ ?_ ?_) ?_ (fun k hk C h' kk V => tts_one (tt_bool (ev_calln W ⟨(by kernel_rfl), (by kernel_rfl), (by kernel_rfl)⟩ (st.kW.trans kk) ((takes_any W (readOf (inn p)) (rows.getD k.toNat []) (hrl _ (hmem k hk).1).1 s1).le (by omega)) (.cons ?_ (.cons (ev_item (ds := rows.map D.str) (i := k) ?_ ?_ ?_ ?_ ?_) .nil))))) (fun k => flat_int) (fun k hk _ C h' kk V => ?_)) ?_) ?_ rfl rfl)) hb) (fun h => ?_) (fun h => tr_nil rfl) ?_ ?_ ?_
    · ktr_rel
    · ktr_rel
    · ktr_rel
    · omega
    · rw [hlen]
    · omega
    · omega
    · omega
    · rw [ups_length]; omega
    · ktr_rel
    · ktr_rel
    · ktr_rel
    · exact (hmem k hk).2.1
    · rw [List.getElem?_map, (hmem k hk).2.2]; rfl
    · omega
    · ktr_rel
    · rw [f1]
    · ktr_rel
    · cases h
    rotate_left
    · rintro Γ' O' e; cases e
    · rintro d e; cases e
    rintro Γ' O' e
    cases e
    have hlen2 : (rows.map fun r => D.str (written kv r)).length = rows.length := List.length_map ..
    with_reducible refine tr_if (b := false) (R₁ := fun oc => oc = .next ((Str.ofString "second", dOpt (readOf (inn (written kv p)))) :: (Str.ofString "first", dOpt (readOf (inn p))) :: (Str.ofString "fit", .list (fit.map D.int)) :: (Str.ofString "pattern", .str p) :: Γ₁) []) (fun s st => tt_eq (tt_cm (cm_Lne (ns := fit) (ms := fit) (ev_eq (ev_compI (ns := ups 0 rows.length) (q := fun k => takesD (readOf (inn (written kv p))) (written kv (rows.getD k.toNat []))) (g := D.int) (src_up (j := 0) (k := rows.length) (ev_range1 ?_ (ev_eq (ev_len_list (ds := rows.map D.str) ?_ ?_ ?_) ?_)) ?_ ?_ ?_) ?_ (fun k hk C h' kk V => tts_one (tt_bool (ev_calln W ⟨(by kernel_rfl), (by kernel_rfl), (by kernel_rfl)⟩ (st.kW.trans kk) ((takes_any W (readOf (inn (written kv p))) (written kv (rows.getD k.toNat [])) (hrl _ (hmem k hk).1).2 s2).le (by omega)) (.cons ?_ (.cons (ev_item (ds := rows.map fun r => D.str (written kv r)) (i := k) ?_ ?_ ?_ ?_ ?_) .nil))))) (fun k => flat_int) (fun k hk _ C h' kk V => ?_)) ?_) ?_ rfl rfl)) hb) (fun h => ?_) (fun h => tr_nil rfl) ?_ ?_ ?_
    · ktr_rel
    · ktr_rel
    · ktr_rel
    · omega
    · rw [hlen]
    · omega
    · omega
    · omega
    · rw [ups_length]; omega
    · ktr_rel
    · ktr_rel
    · ktr_rel
    · exact (hmem k hk).2.1
    · rw [List.getElem?_map, (hmem k hk).2.2]; rfl
    · omega
    · ktr_rel
    · rw [f2]
    · ktr_rel
    · cases h
    rotate_left
    · rintro Γ' O' e; cases e
    · rintro d e; cases e
    rintro Γ' O' e
    cases e
    refine tr_nil ⟨rfl, ?_, ?_, ?_⟩ <;> k_mem
  · rintro Γ₁ O₁ ⟨rfl, _⟩; exact tr_nil ⟨Γ₁, rfl⟩
  · rintro Γ' O' ⟨Γ, e⟩
    cases e
    exact tr_ret (d := .bool true) (fun s st => ev_bool) rfl
  · rintro Γ' O' ⟨Γ, e⟩; cases e
  · rintro d ⟨Γ, e⟩; cases e
end
section
inductive Part where
  | star
  | text (l : List Nat)
noncomputable def dPart (sa : Addr) : Part → D
  | .star => .val (.ref sa)
  | .text l => .str l
noncomputable def lastStar (acc : List Part) : Bool := match acc.getLast? with
  | some .star => true
  | _ => false
noncomputable def pushed (acc : List Part) (c : Nat) : List Part :=
  if c = 42 then (if lastStar acc then acc else acc ++ [.star]) else if c = 63 then acc ++ [.text [46]] else acc ++ [.text (escOne c)]
noncomputable def partsOf (p : List Nat) : List Part := p.foldl pushed []
theorem pushed_len (acc : List Part) (c : Nat) : (pushed acc c).length ≤ acc.length + 1 := by
  unfold pushed
  split
  · split <;> simp
  · split <;> simp
theorem partsOf_snoc (p : List Nat) (c : Nat) : partsOf (p ++ [c]) = pushed (partsOf p) c := by simp [partsOf]
theorem partsOf_len (p : List Nat) : (partsOf p).length ≤ p.length := by
  suffices ∀ (p : List Nat) (acc : List Part), (p.foldl pushed acc).length ≤ acc.length + p.length from by have := this p []; unfold partsOf; simpa using this
  intro p
  induction p with
  | nil => intro acc; simp
  | cons c p ih => intro acc; have := ih (pushed acc c); have := pushed_len acc c; simp only [List.foldl_cons, List.length_cons]; omega

set_option maxHeartbeats 2000000 in
theorem escape_cn {P : Cx} (W : Wd P) (S : Sp P) (c : Nat) : Cn P 1 (Str.ofString "escape") [.str [c]] (.str (escOne c)) := by
  have e : recOf (Str.ofString "escape") = recOf (Str.ofString "escape") := rfl
  conv at e => rhs; whnf
  refine cn_of W [(Str.ofString "pattern", .str [c])] [Str.ofString "pattern"] rfl (by decide +kernel) e ?_ rfl ?_ (by decide +kernel) (by decide +kernel) ?_
  · intro pm cd doc vs h; match vs, h with | [v0], _ => rfl
  · exact fun n => List.forall_mem_cons.mpr ⟨.inl (by kernel_rfl), fun _ h => nomatch h⟩
  intro X B L a cd once
  clear e
  dsimp only at once ⊢
  with_reducible refine tr_if (b := true) (R₁ := fun oc => oc = .ret (.str (escOne c))) (fun s st => tt_bool (ev_isinst_str (x := [c]) ?_ ?_ ?_)) (fun _ => ?_) (fun h => ?_) (fun Γ' O' e => ?_) (fun Γ' O' e => ?_) (fun d e => e)
  · ktr_rel
  · ktr_rel
  · ktr_rel
  · exact tr_ret (fun s st => ev_trans W.good S st.kW ⟨by kernel_rfl, by kernel_rfl, by kernel_rfl⟩ (by ktr_rel)) rfl
  · cases h
  · cases e
  · cases e

/-- where the loop of the translation stands -/
noncomputable def TI (p : List Nat) (sa : Addr) (m : Nat) (Γ : Gam) (O : Own) : Prop :=
  ∃ (i : Nat) (a : Addr), i ≤ p.length ∧ m = p.length - i ∧ Γ.lookup (Str.ofString "pat") = some (.str p) ∧ Γ.lookup (Str.ofString "STAR") = some (.val (.ref sa)) ∧ Γ.lookup (Str.ofString "QUESTION_MARK") = some (.str [46]) ∧
    Γ.lookup (Str.ofString "res") = some (.val (.ref a)) ∧ Γ.lookup (Str.ofString "add") = some (.meth a) ∧ Γ.lookup (Str.ofString "i") = some (.int i) ∧ Γ.lookup (Str.ofString "n") = some (.int p.length) ∧ O = [(a, .list ((partsOf (p.take i)).map (dPart sa)))]
noncomputable def TB (p : List Nat) (sa : Addr) (m : Nat) (oc : Oc) : Prop := ∃ Γ O k', oc = .next Γ O ∧ k' < m ∧ TI p sa k' Γ O
theorem TB.go {p : List Nat} {sa : Addr} {m : Nat} {Γ : Gam} {O : Own} (i : Nat) (a : Addr) (hlt : p.length - i < m) (hi : i ≤ p.length) (h1 : Γ.lookup (Str.ofString "pat") = some (.str p)) (h2 : Γ.lookup (Str.ofString "STAR") = some (.val (.ref sa))) (h3 : Γ.lookup (Str.ofString "QUESTION_MARK") = some (.str [46]))
    (h4 : Γ.lookup (Str.ofString "res") = some (.val (.ref a))) (h5 : Γ.lookup (Str.ofString "add") = some (.meth a)) (h6 : Γ.lookup (Str.ofString "i") = some (.int i)) (h7 : Γ.lookup (Str.ofString "n") = some (.int p.length)) (hO : O = [(a, .list ((partsOf (p.take i)).map (dPart sa)))]) : TB p sa m (.next Γ O) :=
  ⟨Γ, O, _, rfl, hlt, i, a, hi, rfl, h1, h2, h3, h4, h5, h6, h7, hO⟩
theorem part_last {acc : List Part} {sa : Addr} {q : Part} (h : acc.getLast? = some q) : (acc.map (dPart sa)).getLast? = some (dPart sa q) := by rw [List.getLast?_map, h]; rfl

set_option maxHeartbeats 2000000 in
theorem transl_cn {P : Cx} (W : Wd P) (S : Sp P) (p : List Nat) (sa : Addr) (hp : p.length ≤ 1000) (hb : ∀ c ∈ p, c ≠ 91) : Cn P 2 (Str.ofString "_translate") [.str p, .val (.ref sa), .str [46]] (.list ((partsOf p).map (dPart sa))) := by
  have e : recOf (Str.ofString "_translate") = recOf (Str.ofString "_translate") := rfl
  conv at e => rhs; whnf
  refine cn_of W [(Str.ofString "pat", .str p), (Str.ofString "STAR", .val (.ref sa)), (Str.ofString "QUESTION_MARK", .str [46])] [Str.ofString "pat", Str.ofString "STAR", Str.ofString "QUESTION_MARK"] rfl (by decide +kernel) e ?_ rfl ?_ (by decide +kernel) (by decide +kernel) ?_
  · intro pm cd doc vs h; match vs, h with | [v0, v1, v2], _ => rfl
  · exact fun n => List.forall_mem_cons.mpr ⟨.inl (by kernel_rfl), List.forall_mem_cons.mpr ⟨.inl (by kernel_rfl), List.forall_mem_cons.mpr ⟨.inl (by kernel_rfl), fun _ h => nomatch h⟩⟩⟩
  intro X B L a cd once
  clear e
  dsimp only at once ⊢
  with_reducible refine tr_own (ds := []) (fun s st => .nil) (by kernel_rfl) (.inl (by kernel_rfl)) (fun a => ?_)
  refine tr_setL (d := .meth a) (es_bound (a := a) (ds := []) ?_ (.head _) ⟨by kernel_rfl, by kernel_rfl, by kernel_rfl⟩) ?_
  · k_mem
  with_reducible refine tr_swap (ps := [(Str.ofString "i", .int 0), (Str.ofString "n", .int p.length)]) (names := [Str.ofString "i", Str.ofString "n"]) (fun s st => ev_tup (.cons ?_ (.cons (ev_len_str (x := p) ?_ ?_ ?_) .nil))) (by kernel_rfl) (by kernel_rfl) ?_ ?_
  · ktr_rel
  · ktr_rel
  · ktr_rel
  · omega
  · exact .cons (fun M A v Q E s h => wpAny_bindName h) (.inl (by kernel_rfl)) (.cons (fun M A v Q E s h => wpAny_bindName h) (.inl (by kernel_rfl)) .nil)
  show Tr P 1 X B _ ((Str.ofString "i", .int 0) :: (Str.ofString "n", .int p.length) :: (Str.ofString "add", .meth a) :: (Str.ofString "res", .val (.ref a)) :: _) _ _ _
  with_reducible refine tr_while (TI p sa) p.length ?_ (R₁ := fun oc => ∃ Γ a, oc = .next Γ [(a, .list ((partsOf p).map (dPart sa)))] ∧ Γ.lookup (Str.ofString "res") = some (.val (.ref a)) ∧ Γ.lookup (Str.ofString "i") = some (.int p.length) ∧ Γ.lookup (Str.ofString "n") = some (.int p.length)) ?_ ?_ ?_ ?_
  · exact ⟨0, a, Nat.zero_le _, rfl, by k_mem, by k_mem, by k_mem, by k_mem, by k_mem, look_here, by k_mem, rfl⟩
  · rintro m Γ₁ O₁ ⟨i, a, hi, hm, h1, h2, h3, h4, h5, h6, h7, rfl⟩
    refine ⟨decide ((i : Int) < p.length), fun s st => ?_, fun hb' => ?_, fun hb' => ?_⟩
    · ktr_rel
    · have hlt : i < p.length := by have := of_decide_eq_true hb'; omega
      refine tr_mono (R₁ := TB p sa m) (fun oc h => ?_) ?_
      · obtain ⟨Γ, O, k', rfl, h1, h2⟩ := h
        exact ⟨k', h1, h2⟩
      have hsome := getD_some hlt
      have hc91 : p.getD i 0 ≠ 91 := hb _ (by rw [List.getD_eq_getElem?_getD, List.getElem?_eq_getElem hlt]; exact List.getElem_mem _)
      have hstep : partsOf (p.take (i + 1)) = pushed (partsOf (p.take i)) (p.getD i 0) := by
        rw [List.take_add_one, hsome]; exact partsOf_snoc _ _
      have hal := partsOf_len (p.take i)
      rw [List.length_take] at hal
      generalize p.getD i 0 = c at *
      generalize partsOf (p.take i) = acc at *
      have hds : (acc.map (dPart sa)).length ≤ 1000000 := by rw [List.length_map]; omega
      with_reducible refine tr_setL (d := .str [c]) (fun s st => ev_chr (x := p) (i := i) ?_ ?_ ?_ ?_ ?_) ?_
      · ktr_rel
      · ktr_rel
      · omega
      · exact hsome
      · omega
      with_reducible refine tr_setL (d := .int ((i + 1 : Nat) : Int)) (fun s st => ev_eq (ev_add (a := (i : Int)) (b := 1) ?_ ?_) ?_) ?_
      · ktr_rel
      · ktr_rel
      · rfl
      have e42 : ([c] == [42]) = decide (c = 42) := by rw [Bool.eq_iff_iff]; simp
      have e63 : ([c] == [63]) = decide (c = 63) := by rw [Bool.eq_iff_iff]; simp
      have e91 : ([c] == [91]) = false := by simpa using hc91
      with_reducible refine tr_if (R₁ := TB p sa m) (b := decide (c = 42)) (fun s st => tt_eq (tt_cm (cm_seq (x := [c]) (y := [42]) ?_ ?_)) e42) (fun h => ?_) (fun h => ?_) (fun Γ' O' h => tr_nil h) (fun Γ' O' h => h) (fun d h => h)
      · ktr_rel
      · ktr_rel
      · have hc := of_decide_eq_true h
        have hpush : pushed acc c = if lastStar acc then acc else acc ++ [.star] := by unfold pushed; rw [if_pos hc]
        with_reducible refine tr_if (R₁ := TB p sa m) (b := !lastStar acc) (fun s st => ?_) (fun h2 => ?_) (fun h2 => ?_) (fun Γ' O' h => tr_nil h) (fun Γ' O' h => h) (fun d h => h)
        · cases hq : acc.getLast? with
          | none =>
            have : acc = [] := List.getLast?_eq_none_iff.mp hq
            subst this
            exact tt_eq (tt_or (c := true) (d := true) (tt_not ((ts_own (ds := []) (a := a) (by k_mem) (.head _) (by simp) ⟨by kernel_rfl, by kernel_rfl, by kernel_rfl⟩ : Ts _ _ _ _ _ _ _ _ _) s st)) (fun h => by cases h)) rfl
          | some q =>
            have hne : ((acc.map (dPart sa)).isEmpty) = false := by cases acc with | nil => cases hq | cons _ _ => rfl
            refine tt_eq (tt_or (c := false) (d := !lastStar acc || false) (tt_eq (tt_not ((ts_own (ds := acc.map (dPart sa)) (a := a) (by k_mem) (.head _) hds ⟨by kernel_rfl, by kernel_rfl, by kernel_rfl⟩ : Ts _ _ _ _ _ _ _ _ _) s st)) (by rw [hne]; rfl)) (fun _ => tt_or (?_ : Tt _ _ _ _ _ _ (!lastStar acc)) (fun _ => tt_or_nil))) (by simp)
            cases q with
            | star =>
              have : lastStar acc = true := by unfold lastStar; rw [hq]
              rw [this]
              exact tt_cm (cm_isnot_self ((es_own_last (a := a) (d := .val (.ref sa)) (by k_mem) (.head _) (part_last hq) trivial hds ⟨by kernel_rfl, by kernel_rfl, by kernel_rfl⟩ (fun s st => ev_uneg ev_int) rfl : Es _ _ _ _ _ _ _ _ _) s st) (by ktr_rel))
            | text l =>
              have : lastStar acc = false := by unfold lastStar; rw [hq]
              rw [this]
              exact tt_cm (cm_isnot_str (x := l) ((es_own_last (a := a) (d := .str l) (by k_mem) (.head _) (part_last hq) trivial hds ⟨by kernel_rfl, by kernel_rfl, by kernel_rfl⟩ (fun s st => ev_uneg ev_int) rfl : Es _ _ _ _ _ _ _ _ _) s st) (by ktr_rel))
        · have hp2 : pushed acc c = acc ++ [.star] := by rw [hpush, if_neg (by simpa using h2)]
          with_reducible refine tr_add (a := a) (d := .val (.ref sa)) ?_ (fun s st => ?_) hds (tr_nil (TB.go (i + 1) a ?_ ?_ ?_ ?_ ?_ ?_ ?_ ?_ ?_ ?_)) ⟨by kernel_rfl, by kernel_rfl, by kernel_rfl⟩
          · k_mem
          · ktr_rel
          · omega
          · omega
          iterate 7 k_mem
          · rw [hstep, hp2, List.map_append]; rfl
        · have hp2 : pushed acc c = acc := by rw [hpush, if_pos (by simpa using h2)]
          with_reducible refine tr_nil (TB.go (i + 1) a ?_ ?_ ?_ ?_ ?_ ?_ ?_ ?_ ?_ ?_)
          · omega
          · omega
          iterate 7 k_mem
          · rw [hstep, hp2]
      have hn42 := of_decide_eq_false h
      with_reducible refine tr_if (R₁ := TB p sa m) (b := decide (c = 63)) (fun s st => tt_eq (tt_cm (cm_seq (x := [c]) (y := [63]) ?_ ?_)) e63) (fun h => ?_) (fun h => ?_) (fun Γ' O' h => tr_nil h) (fun Γ' O' h => h) (fun d h => h)
      · ktr_rel
      · ktr_rel
      · have hp2 : pushed acc c = acc ++ [.text [46]] := by unfold pushed; rw [if_neg hn42, if_pos (of_decide_eq_true h)]
        with_reducible refine tr_add (a := a) (d := .str [46]) ?_ (fun s st => ?_) hds (tr_nil (TB.go (i + 1) a ?_ ?_ ?_ ?_ ?_ ?_ ?_ ?_ ?_ ?_)) ⟨by kernel_rfl, by kernel_rfl, by kernel_rfl⟩
        · k_mem
        · ktr_rel
        · omega
        · omega
        iterate 7 k_mem
        · rw [hstep, hp2, List.map_append]; rfl
      have hn63 := of_decide_eq_false h
      with_reducible refine tr_if (R₁ := TB p sa m) (b := false) (fun s st => tt_eq (tt_cm (cm_seq (x := [c]) (y := [91]) ?_ ?_)) e91) (fun h => ?_) (fun h => ?_) (fun Γ' O' h => tr_nil h) (fun Γ' O' h => h) (fun d h => h)
      · ktr_rel
      · ktr_rel
      · cases h
      · have hp2 : pushed acc c = acc ++ [.text (escOne c)] := by unfold pushed; rw [if_neg hn42, if_neg hn63]
        with_reducible refine tr_add (a := a) (d := .str (escOne c)) ?_ (fun s st => ev_calln W ⟨(by kernel_rfl), (by kernel_rfl), (by kernel_rfl)⟩ st.kW (escape_cn W S c) (.cons ?_ .nil)) hds (tr_nil (TB.go (i + 1) a ?_ ?_ ?_ ?_ ?_ ?_ ?_ ?_ ?_ ?_)) ⟨by kernel_rfl, by kernel_rfl, by kernel_rfl⟩
        · k_mem
        · ktr_rel
        · omega
        · omega
        iterate 7 k_mem
        · rw [hstep, hp2, List.map_append]; rfl
    · have hge : i = p.length := by have := of_decide_eq_false hb'; omega
      subst hge
      rw [List.take_length]
      exact ⟨Γ₁, a, rfl, h4, h6, h7⟩
  · rintro Γ' O' ⟨Γ, a, e, h4, h6, h7⟩
    cases e
    with_reducible refine tr_assert (fun s st => tt_eq (tt_cm (cm_ieq (a := (p.length : Int)) (b := (p.length : Int)) ?_ ?_)) ?_) (tr_shut h4 (tr_ret (d := .list ((partsOf p).map (dPart sa))) (fun s st => ?_) rfl))
    · ktr_rel
    · ktr_rel
    · exact beq_self_eq_true _
    · ktr_rel
  · rintro Γ' O' ⟨Γ, a, e, _⟩; cases e
  · rintro d ⟨Γ, a, e, _⟩; cases e
end
section
theorem noref_str {x : List Nat} : NoRef (.str x) := trivial
noncomputable def splitT : List Part → List (List Nat) × List Part
  | [] => ([], [])
  | .star :: r => ([], .star :: r)
  | .text l :: r => (l :: (splitT r).1, (splitT r).2)
noncomputable def groups : Nat → List Part → List (List Nat)
  | 0, _ => []
  | _ + 1, [] => []
  | _ + 1, .text _ :: _ => []
  | f + 1, .star :: r => if r.isEmpty then [[46, 42]] else if (splitT r).2.isEmpty then [[46, 42], (splitT r).1.flatten] else ([40, 63, 62, 46, 42, 63] ++ (splitT r).1.flatten ++ [41]) :: groups f (splitT r).2
noncomputable def pieces (ps : List Part) : List (List Nat) := (splitT ps).1 ++ groups (ps.length + 1) (splitT ps).2
noncomputable def noTwo : List Part → Bool
  | .star :: .star :: _ => false
  | _ :: r => noTwo r
  | [] => true
noncomputable def shortT (ps : List Part) : Prop := ∀ l, Part.text l ∈ ps → l.length ≤ 2
theorem splitT_len : ∀ (ps : List Part), (splitT ps).1.length + (splitT ps).2.length = ps.length
  | [] => rfl
  | .star :: r => by simp [splitT]
  | .text l :: r => by have := splitT_len r; simp only [splitT, List.length_cons]; omega
theorem splitT_snd : ∀ (ps : List Part), (splitT ps).2 = ps.drop (splitT ps).1.length
  | [] => rfl
  | .star :: r => rfl
  | .text l :: r => by simp only [splitT, List.length_cons, List.drop_succ_cons]; exact splitT_snd r
theorem splitT_head : ∀ (ps : List Part), (splitT ps).2 = [] ∨ ∃ r, (splitT ps).2 = .star :: r
  | [] => .inl rfl
  | .star :: r => .inr ⟨r, rfl⟩
  | .text l :: r => splitT_head r
theorem splitT_small : ∀ (ps : List Part), shortT ps → (splitT ps).1.flatten.length ≤ 2 * (splitT ps).1.length
  | [], _ => by simp [splitT]
  | .star :: r, _ => by simp [splitT]
  | .text l :: r, h => by
    have h1 := splitT_small r fun l' hm => h l' (.tail _ hm)
    have h2 := h l (.head _)
    simp only [splitT, List.flatten_cons, List.length_append, List.length_cons]; omega
theorem noTwo_drop : ∀ (n : Nat) (ps : List Part), noTwo ps = true → noTwo (ps.drop n) = true
  | 0, ps, h => h
  | n + 1, [], h => rfl
  | n + 1, a :: r, h => by
    refine noTwo_drop n r ?_
    cases a with
    | text l => exact h
    | star =>
      cases r with
      | nil => rfl
      | cons b r => cases b with
        | star => cases h
        | text l => exact h
theorem shortT_drop {ps : List Part} (h : shortT ps) (n : Nat) : shortT (ps.drop n) := fun l hm => h l (List.mem_of_mem_drop hm)
theorem groups_small : ∀ (f : Nat) (ps : List Part), shortT ps → (groups f ps).length ≤ 2 * ps.length ∧ (groups f ps).flatten.length ≤ 20 * ps.length
  | 0, ps, _ => by simp [groups]
  | f + 1, [], _ => by simp [groups]
  | f + 1, .text l :: r, _ => by simp [groups]
  | f + 1, .star :: r, h => by
    have hr : shortT r := fun l hm => h l (.tail _ hm)
    have h1 := splitT_small r hr
    have h2 := splitT_len r
    unfold groups
    split
    · simp only [List.flatten_cons, List.flatten_nil, List.length_append, List.length_cons, List.length_nil]; omega
    · split
      · simp only [List.flatten_cons, List.flatten_nil, List.length_append, List.length_cons, List.length_nil]; omega
      · have hs : shortT (splitT r).2 := by rw [splitT_snd]; exact shortT_drop hr _
        have ih := groups_small f (splitT r).2 hs
        simp only [List.flatten_cons, List.length_append, List.length_cons, List.length_nil]
        omega
theorem pieces_small (ps : List Part) (h : shortT ps) : (pieces ps).length ≤ 2 * ps.length ∧ (pieces ps).flatten.length ≤ 20 * ps.length := by
  have h1 := splitT_small ps h
  have h2 := splitT_len ps
  have hs : shortT (splitT ps).2 := by rw [splitT_snd]; exact shortT_drop h _
  have h3 := groups_small (ps.length + 1) (splitT ps).2 hs
  unfold pieces
  rw [List.flatten_append, List.length_append, List.length_append]
  omega
structure JL (ps : List Part) (sa a : Addr) (i : Nat) (Γ : Gam) : Prop where
  inp : Γ.lookup (Str.ofString "inp") = some (.list (ps.map (dPart sa)))
  st : Γ.lookup (Str.ofString "STAR") = some (.val (.ref sa))
  res : Γ.lookup (Str.ofString "res") = some (.val (.ref a))
  add : Γ.lookup (Str.ofString "add") = some (.meth a)
  i : Γ.lookup (Str.ofString "i") = some (.int i)
  n : Γ.lookup (Str.ofString "n") = some (.int ps.length)
theorem JL.skip {ps : List Part} {sa a : Addr} {i : Nat} {Γ : Gam} {x : Str} {d : D} (h : JL ps sa a i Γ) (hx : ([Str.ofString "inp", Str.ofString "STAR", Str.ofString "res", Str.ofString "add", Str.ofString "i", Str.ofString "n"].all fun y => !(y == x)) = true) : JL ps sa a i ((x, d) :: Γ) := by
  simp only [List.all_cons, List.all_nil, Bool.and_true, Bool.and_eq_true, Bool.not_eq_true'] at hx
  obtain ⟨h1, h2, h3, h4, h5, h6⟩ := hx
  exact ⟨look_there h1 h.inp, look_there h2 h.st, look_there h3 h.res, look_there h4 h.add, look_there h5 h.i, look_there h6 h.n⟩
theorem JL.setI {ps : List Part} {sa a : Addr} {i : Nat} {Γ : Gam} {k : Int} (j : Nat) (hk : k = j) (h : JL ps sa a i Γ) : JL ps sa a j ((Str.ofString "i", .int k) :: Γ) := by
  subst hk
  exact ⟨look_there (by decide +kernel) h.inp, look_there (by decide +kernel) h.st, look_there (by decide +kernel) h.res, look_there (by decide +kernel) h.add, look_here, look_there (by decide +kernel) h.n⟩
theorem JL.item {ps : List Part} {sa a : Addr} {i : Nat} {Γ : Gam} (h : JL ps sa a i Γ) {q : Part} {r : List Part} (hq : ps.drop i = q :: r) : (ps.map (dPart sa))[((i : Nat) : Int).toNat]? = some (dPart sa q) ∧ i < ps.length ∧ ps.drop (i + 1) = r := by
  have hlt : i < ps.length := by
    rcases Nat.lt_or_ge i ps.length with h | h
    · exact h
    · rw [List.drop_eq_nil_of_le h] at hq; cases hq
  have e := List.drop_eq_getElem_cons hlt
  rw [hq] at e
  injection e with e1 e2
  refine ⟨?_, hlt, e2.symm⟩
  rw [Int.toNat_natCast, List.getElem?_map, List.getElem?_eq_getElem hlt, e1]; rfl

noncomputable def J1 (ps : List Part) (sa : Addr) (m : Nat) (Γ : Gam) (O : Own) : Prop :=
  ∃ (i : Nat) (a : Addr) (done : List (List Nat)), i ≤ ps.length ∧ m = ps.length - i ∧ done.length ≤ i ∧ done ++ (splitT (ps.drop i)).1 = (splitT ps).1 ∧ (splitT (ps.drop i)).2 = (splitT ps).2 ∧ JL ps sa a i Γ ∧ O = [(a, .list (done.map D.str))]
noncomputable def J2 (ps : List Part) (sa : Addr) (m : Nat) (Γ : Gam) (O : Own) : Prop :=
  ∃ (i : Nat) (a : Addr) (done : List (List Nat)) (f : Nat), i ≤ ps.length ∧ m = ps.length - i ∧ ps.length - i < f ∧ done ++ groups f (ps.drop i) = pieces ps ∧ (ps.drop i = [] ∨ ∃ r, ps.drop i = .star :: r) ∧ JL ps sa a i Γ ∧ O = [(a, .list (done.map D.str))]
noncomputable def J3 (ps : List Part) (sa a : Addr) (O₀ : D) (r : List Part) (m : Nat) (Γ : Gam) (O : Own) : Prop :=
  ∃ (i : Nat) (b : Addr) (done : List (List Nat)), i ≤ ps.length ∧ m = ps.length - i ∧ done.length ≤ i ∧ done ++ (splitT (ps.drop i)).1 = (splitT r).1 ∧ (splitT (ps.drop i)).2 = (splitT r).2 ∧ JL ps sa a i Γ ∧ Γ.lookup (Str.ofString "fixed") = some (.val (.ref b)) ∧ O = [(b, .list (done.map D.str)), (a, O₀)]
theorem J1.out (x : List Part) (h : x = [] ∨ ∃ r, x = .star :: r) : splitT x = ([], x) := by
  rcases h with rfl | ⟨r, rfl⟩ <;> rfl
/-- the test of the two loops that gather texts -/
theorem join_test {P : Cx} {n : Nat} {X : XS} {B : Heap} {env : Env} {Γ : Gam} {O : Own} {ps : List Part} {sa a : Addr} {i : Nat} {p1 p2 p3 p4 p5 p6 p7 p8 : Pos} (h : JL ps sa a i Γ) (hp : ps.length ≤ 1000) (F : Fe env) :
    Ts P n X B env Γ O (.BoolOp .And [.Compare (.Name (Str.ofString "i") p1) [.Lt] [.Name (Str.ofString "n") p2] p3, .Compare (.Subscript (.Name (Str.ofString "inp") p4) (.Name (Str.ofString "i") p5) p6) [.IsNot] [.Name (Str.ofString "STAR") p7] p8] p3)
      (match ps.drop i with | .text _ :: _ => true | _ => false) := fun s st => by
  have e1 : Ev P n (Mut X env O) env s.heap (.Name (Str.ofString "i") p1) (.int i) := ev_name F (st.vr h.i)
  have e2 : Ev P n (Mut X env O) env s.heap (.Name (Str.ofString "n") p2) (.int ps.length) := ev_name F (st.vr h.n)
  have e4 : Ev P n (Mut X env O) env s.heap (.Name (Str.ofString "inp") p4) (.list (ps.map (dPart sa))) := ev_name F (st.vr h.inp)
  have e5 : Ev P n (Mut X env O) env s.heap (.Name (Str.ofString "i") p5) (.int i) := ev_name F (st.vr h.i)
  have e7 : Ev P n (Mut X env O) env s.heap (.Name (Str.ofString "STAR") p7) (.val (.ref sa)) := ev_name F (st.vr h.st)
  cases hq : ps.drop i with
  | nil =>
    have hge : ps.length ≤ i := List.drop_eq_nil_iff.mp hq
    refine tt_eq (tt_and (c := false) (d := false) (tt_eq (tt_cm (cm_ilt e1 e2)) (decide_eq_false (by omega))) (fun h => by cases h)) rfl
  | cons q r =>
    obtain ⟨h1, h2, h3⟩ := h.item hq
    have h4 : Ev P n (Mut X env O) env s.heap (.Subscript (.Name (Str.ofString "inp") p4) (.Name (Str.ofString "i") p5) p6) (dPart sa q) := ev_item e4 e5 (by omega) h1 (by rw [List.length_map]; omega)
    cases q with
    | star => exact tt_eq (tt_and (c := true) (d := false && true) (tt_eq (tt_cm (cm_ilt e1 e2)) (decide_eq_true (by omega))) (fun _ => tt_and (tt_cm (cm_isnot_self h4 e7)) (fun _ => tt_and_nil))) rfl
    | text l => exact tt_eq (tt_and (c := true) (d := true && true) (tt_eq (tt_cm (cm_ilt e1 e2)) (decide_eq_true (by omega))) (fun _ => tt_and (tt_cm (cm_isnot_str (x := l) h4 e7)) (fun _ => tt_and_nil))) rfl

/-- the loop's turn ends -/
noncomputable def JB (I : Nat → Gam → Own → Prop) (m : Nat) (oc : Oc) : Prop := ∃ Γ O k', oc = .next Γ O ∧ k' < m ∧ I k' Γ O

set_option maxHeartbeats 2000000 in
theorem join_cn {P : Cx} (W : Wd P) (ps : List Part) (sa : Addr) (hp : ps.length ≤ 1000) (hs : shortT ps) (h2 : noTwo ps = true) : Cn P 1 (Str.ofString "_join_translated_parts") [.list (ps.map (dPart sa)), .val (.ref sa)] (.str (exprOf (pieces ps).flatten)) := by
  have e : recOf (Str.ofString "_join_translated_parts") = recOf (Str.ofString "_join_translated_parts") := rfl
  conv at e => rhs; whnf
  refine cn_of W [(Str.ofString "inp", .list (ps.map (dPart sa))), (Str.ofString "STAR", .val (.ref sa))] [Str.ofString "inp", Str.ofString "STAR"] rfl (by decide +kernel) e ?_ rfl ?_ (by decide +kernel) (by decide +kernel) ?_
  · intro pm cd doc vs h; match vs, h with | [v0, v1], _ => rfl
  · exact fun n => List.forall_mem_cons.mpr ⟨.inl (by kernel_rfl), List.forall_mem_cons.mpr ⟨.inl (by kernel_rfl), fun _ h => nomatch h⟩⟩
  intro X B L a cd once
  clear e
  dsimp only at once ⊢
  have hsm := pieces_small ps hs
  have hinp : (ps.map (dPart sa)).length = ps.length := List.length_map ..
  with_reducible refine tr_own (ds := []) (fun s st => .nil) (by kernel_rfl) (.inl (by kernel_rfl)) (fun a => ?_)
  refine tr_setL (d := .meth a) (es_bound (a := a) (ds := []) ?_ (.head _) ⟨by kernel_rfl, by kernel_rfl, by kernel_rfl⟩) ?_
  · k_mem
  with_reducible refine tr_swap (ps := [(Str.ofString "i", .int 0), (Str.ofString "n", .int ps.length)]) (names := [Str.ofString "i", Str.ofString "n"]) (fun s st => ev_tup (.cons ?_ (.cons (ev_eq (ev_len_list (ds := ps.map (dPart sa)) ?_ ?_ ?_) ?_) .nil))) (by kernel_rfl) (by kernel_rfl) ?_ ?_
  · ktr_rel
  · ktr_rel
  · ktr_rel
  · omega
  · rw [hinp]
  · exact .cons (fun M A v Q E s h => wpAny_bindName h) (.inl (by kernel_rfl)) (.cons (fun M A v Q E s h => wpAny_bindName h) (.inl (by kernel_rfl)) .nil)
  show Tr P 0 X B _ ((Str.ofString "i", .int 0) :: (Str.ofString "n", .int ps.length) :: (Str.ofString "add", .meth a) :: (Str.ofString "res", .val (.ref a)) :: _) _ _ _
  have start : JL ps sa a 0 ((Str.ofString "i", .int 0) :: (Str.ofString "n", .int ps.length) :: (Str.ofString "add", .meth a) :: (Str.ofString "res", .val (.ref a)) :: [(Str.ofString "inp", .list (ps.map (dPart sa))), (Str.ofString "STAR", .val (.ref sa))]) := ⟨by k_mem, by k_mem, by k_mem, by k_mem, look_here, by k_mem⟩
  with_reducible refine tr_while (J1 ps sa) ps.length ?_ (R₁ := fun oc => ∃ Γ i a, oc = .next Γ [(a, .list ((splitT ps).1.map D.str))] ∧ i ≤ ps.length ∧ ps.drop i = (splitT ps).2 ∧ JL ps sa a i Γ) ?_ ?_ ?_ ?_
  · exact ⟨0, a, [], Nat.zero_le _, rfl, Nat.le_refl _, rfl, rfl, start, rfl⟩
  · rintro m Γ₁ O₁ ⟨i, a, done, hi, hm, hdl, hd1, hd2, hj, rfl⟩
    refine ⟨_, join_test hj hp ⟨by kernel_rfl, by kernel_rfl, by kernel_rfl⟩, fun hb => ?_, fun hb => ?_⟩
    · obtain ⟨l, r, hq⟩ : ∃ l r, ps.drop i = .text l :: r := by
        cases hq : ps.drop i with
        | nil => rw [hq] at hb; cases hb
        | cons q r => cases q with
          | star => rw [hq] at hb; cases hb
          | text l => exact ⟨l, r, rfl⟩
      obtain ⟨g1, g2, g3⟩ := hj.item hq
      have g1 : (ps.map (dPart sa))[((i : Nat) : Int).toNat]? = some (.str l) := g1
      rw [hq] at hd1 hd2
      obtain ⟨j1, j2, j3, j4, j5, j6⟩ := id hj
      refine tr_mono (R₁ := JB (J1 ps sa) m) (fun oc h => ?_) ?_
      · obtain ⟨Γ, O, k', rfl, h1, h2⟩ := h; exact ⟨k', h1, h2⟩
      with_reducible refine tr_add (a := a) (d := .str l) ?_ (fun s st => ev_item (ds := ps.map (dPart sa)) (i := i) ?_ ?_ ?_ g1 ?_) ?_ (tr_augL (a := (i : Int)) (b := 1) ?_ (fun s st => ?_) (tr_nil ?_)) ⟨by kernel_rfl, by kernel_rfl, by kernel_rfl⟩
      · k_mem
      · ktr_rel
      · ktr_rel
      · omega
      · omega
      · rw [List.length_map]; omega
      · k_mem
      · ktr_rel
      · refine ⟨_, _, ps.length - (i + 1), rfl, by omega, i + 1, a, done ++ [l], g2, rfl, by simp; omega, ?_, ?_, hj.setI (i + 1) (by omega), by rw [List.map_append]; rfl⟩
        · rw [g3, ← hd1, List.append_assoc]; rfl
        · rw [g3]; exact hd2
    · have hx : ps.drop i = [] ∨ ∃ r, ps.drop i = .star :: r := by
        cases hq : ps.drop i with
        | nil => exact .inl rfl
        | cons q r => cases q with
          | star => exact .inr ⟨r, rfl⟩
          | text l => rw [hq] at hb; cases hb
      rw [J1.out (ps.drop i) hx] at hd1 hd2
      rw [List.append_nil] at hd1
      exact ⟨Γ₁, i, a, by rw [hd1], hi, hd2, hj⟩
  rotate_left
  · rintro Γ' O' ⟨Γ, i, a, e, _⟩; cases e
  · rintro d ⟨Γ, i, a, e, _⟩; cases e
  rintro Γ' O' ⟨Γ, i, a, e, hi, hdr, hj⟩
  cases e
  with_reducible refine tr_while (J2 ps sa) (ps.length - i) ?_ (R₁ := fun oc => ∃ Γ a, oc = .next Γ [(a, .list ((pieces ps).map D.str))] ∧ JL ps sa a ps.length Γ) ?_ ?_ ?_ ?_
  · exact ⟨i, a, (splitT ps).1, ps.length + 1, hi, rfl, by omega, by rw [hdr]; rfl, by rw [hdr]; exact splitT_head ps, hj, rfl⟩
  · rintro m Γ₁ O₁ ⟨i, a, done, f, hi, hm, hf, hdn, hx, hj, rfl⟩
    obtain ⟨j1, j2, j3, j4, j5, j6⟩ := id hj
    refine ⟨decide ((i : Int) < ps.length), fun s st => ?_, fun hb => ?_, fun hb => ?_⟩
    · ktr_rel
    · have hlt : i < ps.length := by have := of_decide_eq_true hb; omega
      obtain ⟨r, hq⟩ : ∃ r, ps.drop i = .star :: r := by
        rcases hx with h | h
        · rw [List.drop_eq_nil_iff] at h; omega
        · exact h
      obtain ⟨g1, g2, g3⟩ := hj.item hq
      have g1 : (ps.map (dPart sa))[((i : Nat) : Int).toNat]? = some (.val (.ref sa)) := g1
      have hdl : done.length ≤ 2000 := by
        have := congrArg List.length hdn
        rw [List.length_append] at this; omega
      obtain ⟨f, rfl⟩ : ∃ g, f = g + 1 := ⟨f - 1, by omega⟩
      rw [hq] at hdn
      unfold groups at hdn
      have hrs : shortT r := by rw [← g3]; exact shortT_drop hs _
      have hno : ∀ r', r ≠ .star :: r' := fun r' e => by
        have := noTwo_drop i ps h2
        rw [hq, e] at this; cases this
      with_reducible refine tr_assert (fun s st => tt_cm (cm_is_self (a := sa) (ev_item (ds := ps.map (dPart sa)) (i := i) ?_ ?_ ?_ g1 ?_) ?_)) (tr_augL (a := (i : Int)) (b := 1) ?_ (fun s st => ?_) ?_)
      · ktr_rel
      · ktr_rel
      · omega
      · omega
      · ktr_rel
      · k_mem
      · ktr_rel
      have hj' := hj.setI (k := (i : Int) + 1) (i + 1) (by omega)
      have hi1 : Ev P 0 (fun _ => False) default B (.Constant .none 0 default) .none := ev_none
      clear hi1
      have hr1 : r = [] ↔ i + 1 = ps.length := by
        rw [← g3, List.drop_eq_nil_iff]; omega
      generalize hΓ : (Str.ofString "i", D.int ((i : Int) + 1)) :: Γ₁ = Γ₂ at hj' ⊢
      clear hΓ j1 j2 j3 j4 j5 j6
      obtain ⟨j1, j2, j3, j4, j5, j6⟩ := id hj'
      by_cases hre : r = []
      · -- the last star: «.*», and out
        have hlast := hr1.mp hre
        rw [hre] at hdn
        with_reducible refine tr_if (b := true) (R₁ := fun oc => oc = .brk Γ₂ [(a, .list ((pieces ps).map D.str))]) (fun s st => tt_eq (tt_cm (cm_ieq (a := ((i + 1 : Nat) : Int)) (b := (ps.length : Int)) ?_ ?_)) ?_) (fun _ => tr_add (a := a) (d := .str [46, 42]) ?_ (fun s st => ?_) ?_ (tr_brk ?_) ⟨by kernel_rfl, by kernel_rfl, by kernel_rfl⟩) (fun h => ?_) (fun Γ' O' e => ?_) (fun Γ' O' e => ?_) (fun d e => ?_)
        · ktr_rel
        · ktr_rel
        · rw [beq_iff_eq]; omega
        · k_mem
        · ktr_rel
        · rw [List.length_map]; omega
        · rw [← hdn, List.map_append]; rfl
        · cases h
        · cases e
        · cases e
          rw [hlast] at hj'
          exact ⟨Γ₂, a, rfl, hj'⟩
        · cases e
      have hnl : i + 1 < ps.length := by
        rcases Nat.lt_or_ge (i + 1) ps.length with h | h
        · exact h
        · exact absurd (hr1.mpr (by omega)) hre
      obtain ⟨l₀, r₀, hr0⟩ : ∃ l₀ r₀, r = .text l₀ :: r₀ := by
        cases r with
        | nil => exact absurd rfl hre
        | cons q r => cases q with
          | star => exact absurd rfl (hno r)
          | text l => exact ⟨l, r, rfl⟩
      have hie : r.isEmpty = false := by rw [hr0]; rfl
      rw [hie, if_neg Bool.false_ne_true] at hdn
      obtain ⟨k1, k2, k3⟩ := hj'.item (g3.trans hr0)
      have k1 : (ps.map (dPart sa))[((i + 1 : Nat) : Int).toNat]? = some (.str l₀) := k1
      with_reducible refine tr_if (b := false) (R₁ := fun oc => oc = .next Γ₂ [(a, .list (done.map D.str))]) (fun s st => tt_eq (tt_cm (cm_ieq (a := ((i + 1 : Nat) : Int)) (b := (ps.length : Int)) ?_ ?_)) ?_) (fun h => ?_) (fun h => tr_nil rfl) (fun Γ' O' e => ?_) (fun Γ' O' e => ?_) (fun d e => ?_)
      · ktr_rel
      · ktr_rel
      · rw [beq_eq_false_iff_ne]; omega
      · cases h
      rotate_left
      · cases e
      · cases e
      cases e
      with_reducible refine tr_assert (fun s st => tt_cm (cm_isnot_str (a := sa) (x := l₀) (ev_item (ds := ps.map (dPart sa)) (i := ((i + 1 : Nat) : Int)) ?_ ?_ ?_ k1 ?_) ?_)) (tr_own (ds := []) (fun s st => .nil) (by kernel_rfl) (.inl (by kernel_rfl)) (fun b => ?_))
      · ktr_rel
      · ktr_rel
      · omega
      · omega
      · ktr_rel
      refine tr_mono (R₁ := JB (J2 ps sa) m) (fun oc h => ?_) ?_
      · obtain ⟨Γ, O, k', rfl, h1, h2⟩ := h; exact ⟨k', h1, h2⟩
      have hj3 := hj'.skip (x := Str.ofString "fixed") (d := .val (.ref b)) (by decide +kernel)
      with_reducible refine tr_while (J3 ps sa a (.list (done.map D.str)) r) (ps.length - (i + 1)) ?_ (R₁ := fun oc => ∃ Γ i' b, oc = .next Γ [(b, .list ((splitT r).1.map D.str)), (a, .list (done.map D.str))] ∧ i < i' ∧ i' ≤ ps.length ∧ ps.drop i' = (splitT r).2 ∧ JL ps sa a i' Γ ∧ Γ.lookup (Str.ofString "fixed") = some (.val (.ref b))) ?_ ?_ ?_ ?_
      · exact ⟨i + 1, b, [], by omega, rfl, Nat.zero_le _, by rw [g3]; rfl, by rw [g3], hj3, look_here, rfl⟩
      · rintro m' Γ₃ O₃ ⟨i', b, fin, hi', hm', hfl, hf1, hf2, hj4, hfx, rfl⟩
        refine ⟨_, join_test hj4 hp ⟨by kernel_rfl, by kernel_rfl, by kernel_rfl⟩, fun hb => ?_, fun hb => ?_⟩
        · obtain ⟨l, r', hq'⟩ : ∃ l r', ps.drop i' = .text l :: r' := by
            cases hq : ps.drop i' with
            | nil => rw [hq] at hb; cases hb
            | cons q r => cases q with
              | star => rw [hq] at hb; cases hb
              | text l => exact ⟨l, r, rfl⟩
          obtain ⟨n1, n2, n3⟩ := hj4.item hq'
          have n1 : (ps.map (dPart sa))[((i' : Nat) : Int).toNat]? = some (.str l) := n1
          rw [hq'] at hf1 hf2
          obtain ⟨q1, q2, q3, q4, q5, q6⟩ := id hj4
          refine tr_mono (R₁ := JB (J3 ps sa a (.list (done.map D.str)) r) m') (fun oc h => ?_) ?_
          · obtain ⟨Γ, O, k', rfl, h1, h2⟩ := h; exact ⟨k', h1, h2⟩
          with_reducible refine tr_append (ho := fun s st => ?_) (hx := fun s st => ev_item (ds := ps.map (dPart sa)) (i := i') ?_ ?_ ?_ n1 ?_) (tr_augL (a := (i' : Int)) (b := 1) ?_ (fun s st => ?_) (tr_nil ?_)) ?_
          · ktr_rel
          · ktr_rel
          · ktr_rel
          · omega
          · omega
          · k_mem
          · ktr_rel
          · refine ⟨_, _, ps.length - (i' + 1), rfl, by omega, i' + 1, b, fin ++ [l], n2, rfl, by simp; omega, ?_, ?_, hj4.setI (i' + 1) (by omega), look_there (by decide +kernel) hfx, by rw [List.map_append]; rfl⟩
            · rw [n3, ← hf1, List.append_assoc]; rfl
            · rw [n3]; exact hf2
          · rw [List.length_map]; omega
        · have hx : ps.drop i' = [] ∨ ∃ r, ps.drop i' = .star :: r := by
            cases hq : ps.drop i' with
            | nil => exact .inl rfl
            | cons q r => cases q with
              | star => exact .inr ⟨r, rfl⟩
              | text l => rw [hq] at hb; cases hb
          rw [J1.out (ps.drop i') hx] at hf1 hf2
          rw [List.append_nil] at hf1
          have hgt : i < i' := by
            rcases Nat.lt_or_ge i i' with h | h
            · exact h
            · exfalso
              have e1 := congrArg List.length hf2
              have e2 := splitT_len r
              have e3 := congrArg List.length g3
              have e4 : 0 < (splitT r).1.length := by rw [hr0]; exact Nat.succ_pos _
              rw [List.length_drop] at e1 e3
              omega
          exact ⟨Γ₃, i', b, by rw [hf1], hgt, hi', hf2, hj4, hfx⟩
      rotate_left
      · rintro Γ' O' ⟨Γ, i', b, e, _⟩; cases e
      · rintro d ⟨Γ, i', b, e, _⟩; cases e
      rintro Γ' O' ⟨Γ₃, i', b, e, hgt, hi', hdr', hj4, hfx⟩
      cases e
      have ht1 := splitT_small r hrs
      have ht2 := splitT_len r
      have hrl : r.length ≤ ps.length := by rw [← g3, List.length_drop]; omega
      obtain ⟨q1, q2, q3, q4, q5, q6⟩ := id hj4
      with_reducible refine tr_setL (d := .str (splitT r).1.flatten) (es_borrow hfx noref_str (fun s st => ev_join (ls := (splitT r).1) ?_ ?_ rfl ?_)) ?_
      · ktr_rel
      · ktr_rel
      · omega
      refine tr_step (fun s st => st.drop.1) ?_
      have hj5 := hj4.skip (x := Str.ofString "fixed") (d := .str (splitT r).1.flatten) (by decide +kernel)
      generalize hΓ4 : (Str.ofString "fixed", D.str (splitT r).1.flatten) :: Γ' = Γ₄ at hj5 ⊢
      have hfx4 : Γ₄.lookup (Str.ofString "fixed") = some (.str (splitT r).1.flatten) := by rw [← hΓ4]; exact look_here
      clear hΓ4 q1 q2 q3 q4 q5 q6
      obtain ⟨q1, q2, q3, q4, q5, q6⟩ := id hj5
      have hse : (splitT r).2.isEmpty = decide (i' = ps.length) := by
        rw [← hdr', Bool.eq_iff_iff, List.isEmpty_iff, List.drop_eq_nil_iff, decide_eq_true_iff]; omega
      have hie' : (((i' : Nat) : Int) == (ps.length : Int)) = decide (i' = ps.length) := by rw [Bool.eq_iff_iff, beq_iff_eq, decide_eq_true_iff]; omega
      rw [hse] at hdn
      with_reducible refine tr_if (b := decide (i' = ps.length)) (R₁ := JB (J2 ps sa) m) (fun s st => tt_eq (tt_cm (cm_ieq (a := (i' : Int)) (b := (ps.length : Int)) ?_ ?_)) hie') (fun h => ?_) (fun h => ?_) (fun Γ' O' h => tr_nil h) (fun Γ' O' h => h) (fun d h => h)
      · ktr_rel
      · ktr_rel
      · rw [if_pos h] at hdn
        with_reducible refine tr_add (a := a) (d := .str [46, 42]) ?_ (fun s st => ?_) ?_ (tr_add (a := a) (d := .str (splitT r).1.flatten) ?_ (fun s st => ?_) ?_ (tr_nil ?_) ⟨by kernel_rfl, by kernel_rfl, by kernel_rfl⟩) ⟨by kernel_rfl, by kernel_rfl, by kernel_rfl⟩
        · k_mem
        · ktr_rel
        · rw [List.length_map]; omega
        · k_mem
        · ktr_rel
        · simp; omega
        · have he := of_decide_eq_true h
          refine ⟨_, _, ps.length - i', rfl, by omega, i', a, pieces ps, f, hi', rfl, by omega, ?_, .inl (by rw [he, List.drop_length]), hj5, ?_⟩
          · have : groups f (ps.drop i') = [] := by rw [he, List.drop_length]; cases f <;> rfl
            rw [this, List.append_nil]
          · rw [← hdn, List.map_append]; simp
      · rw [if_neg (by rw [h]; decide)] at hdn
        with_reducible refine tr_add (a := a) (d := .str ([40, 63, 62, 46, 42, 63] ++ (splitT r).1.flatten ++ [41])) ?_ (fun s st => ev_fstr (x := (splitT r).1.flatten) (la := [40, 63, 62, 46, 42, 63]) (lb := [41]) ?_ ?_ ?_ ?_) ?_ (tr_nil ?_) ⟨by kernel_rfl, by kernel_rfl, by kernel_rfl⟩
        · k_mem
        · ktr_rel
        · decide +kernel
        · decide +kernel
        · simp only [List.length_cons, List.length_nil]; omega
        · rw [List.length_map]; omega
        · refine ⟨_, _, ps.length - i', rfl, by omega, i', a, done ++ [[40, 63, 62, 46, 42, 63] ++ (splitT r).1.flatten ++ [41]], f, hi', rfl, by omega, ?_, ?_, hj5, ?_⟩
          · rw [hdr', List.append_assoc]; exact hdn
          · rw [hdr']; exact splitT_head r
          · rw [List.map_append]; rfl
    · have hge : i = ps.length := by have := of_decide_eq_false hb; omega
      subst hge
      have : groups f (ps.drop ps.length) = [] := by rw [List.drop_length]; cases f <;> rfl
      rw [this, List.append_nil] at hdn
      exact ⟨Γ₁, a, by rw [hdn], hj⟩
  rotate_left
  · rintro Γ' O' ⟨Γ, a, e, _⟩; cases e
  · rintro d ⟨Γ, a, e, _⟩; cases e
  rintro Γ' O' ⟨Γ, a, e, hj⟩
  cases e
  obtain ⟨j1, j2, j3, j4, j5, j6⟩ := id hj
  with_reducible refine tr_assert (fun s st => tt_eq (tt_cm (cm_ieq (a := (ps.length : Int)) (b := (ps.length : Int)) ?_ ?_)) ?_) (tr_setL (d := .str (pieces ps).flatten) (es_borrow j3 noref_str (fun s st => ev_join (ls := pieces ps) ?_ ?_ rfl ?_)) ?_)
  · ktr_rel
  · ktr_rel
  · exact beq_self_eq_true _
  · ktr_rel
  · ktr_rel
  · omega
  refine tr_ret (d := .str (exprOf (pieces ps).flatten)) (fun s st => ev_fstr (x := (pieces ps).flatten) (la := [40, 63, 115, 58]) (lb := [41, 92, 90]) (by ktr_rel) (by decide +kernel) (by decide +kernel) ?_) rfl
  simp only [List.length_cons, List.length_nil]; omega
end
section
noncomputable def inn (p : List Nat) : List Nat := (pieces (partsOf p)).flatten
theorem noTwo_snoc : ∀ (ps : List Part) (q : Part), noTwo ps = true → (lastStar ps = true → ∃ l, q = .text l) → noTwo (ps ++ [q]) = true
  | [], q, _, _ => by cases q <;> rfl
  | [a], q, _, h => by
    cases a with
    | text l => cases q <;> rfl
    | star => obtain ⟨l, rfl⟩ := h rfl; rfl
  | a :: b :: r, q, hn, h => by
    have hl : lastStar (a :: b :: r) = lastStar (b :: r) := by unfold lastStar; rw [List.getLast?_cons_cons]
    rw [hl] at h
    have hn' : noTwo (b :: r) = true := noTwo_drop 1 (a :: b :: r) hn
    have ih := noTwo_snoc (b :: r) q hn' h
    cases a with
    | text l => exact ih
    | star => cases b with
      | star => cases hn
      | text l => exact ih
theorem push_ok (acc : List Part) (c : Nat) (h1 : noTwo acc = true) (h2 : shortT acc) : noTwo (pushed acc c) = true ∧ shortT (pushed acc c) := by
  have short : ∀ q, (∀ l, q = .text l → l.length ≤ 2) → shortT (acc ++ [q]) := fun q hq l hm => by
    rcases List.mem_append.mp hm with hm | hm
    · exact h2 l hm
    · exact hq l (List.mem_singleton.mp hm).symm
  unfold pushed
  split
  · split
    · exact ⟨h1, h2⟩
    · rename_i hl
      exact ⟨noTwo_snoc acc .star h1 fun h => absurd h hl, short _ fun l e => by cases e⟩
  · split
    · exact ⟨noTwo_snoc acc _ h1 fun _ => ⟨_, rfl⟩, short _ fun l e => by cases e; decide⟩
    · exact ⟨noTwo_snoc acc _ h1 fun _ => ⟨_, rfl⟩, short _ fun l e => by cases e; unfold escOne; split <;> simp⟩
theorem parts_ok (p : List Nat) : noTwo (partsOf p) = true ∧ shortT (partsOf p) := by
  suffices ∀ (p : List Nat) (acc : List Part), noTwo acc = true → shortT acc → noTwo (p.foldl pushed acc) = true ∧ shortT (p.foldl pushed acc) from this p [] rfl (fun l h => by cases h)
  intro p
  induction p with
  | nil => intro acc h1 h2; exact ⟨h1, h2⟩
  | cons c p ih => intro acc h1 h2; have := push_ok acc c h1 h2; exact ih _ this.1 this.2
set_option maxHeartbeats 2000000 in
theorem translate_cn {P : Cx} (W : Wd P) (S : Sp P) (p : List Nat) (hp : p.length ≤ 1000) (hb : ∀ c ∈ p, c ≠ 91) : Cn P 3 (Str.ofString "translate") [.str p] (.str (exprOf (inn p))) := by
  have e : recOf (Str.ofString "translate") = recOf (Str.ofString "translate") := rfl
  conv at e => rhs; whnf
  refine cn_of W [(Str.ofString "pat", .str p)] [Str.ofString "pat"] rfl (by decide +kernel) e ?_ rfl ?_ (by decide +kernel) (by decide +kernel) ?_
  · intro pm cd doc vs h; match vs, h with | [v0], _ => rfl
  · exact fun n => List.forall_mem_cons.mpr ⟨.inl (by kernel_rfl), fun _ h => nomatch h⟩
  intro X B L a cd once
  clear e
  dsimp only at once ⊢
  have hl := partsOf_len p
  refine tr_obj (fun s st => by ktr_rel) (fun sa => ?_)
  with_reducible refine tr_setL (d := .list ((partsOf p).map (dPart sa))) (fun s st => ev_calln W ⟨(by kernel_rfl), (by kernel_rfl), (by kernel_rfl)⟩ st.kW (transl_cn W S p sa hp hb) (.cons ?_ (.cons ?_ (.cons ?_ .nil)))) (tr_ret (d := .str (exprOf (inn p))) (fun s st => ev_calln W ⟨(by kernel_rfl), (by kernel_rfl), (by kernel_rfl)⟩ st.kW ((join_cn W (partsOf p) sa (by omega) (parts_ok p).2 (parts_ok p).1).le (by omega)) (.cons ?_ (.cons ?_ .nil))) rfl)
  iterate 5 ktr_rel
end
section
theorem tr_tabs_end {P : Cx} {n : Nat} {X : XS} {B : Heap} {env : Env} {Γ : Gam} {R : Oc → Prop} {rest : List Stmt} {x : Str} {a : Addr} {kv₀ kv₁ : List (List Nat × List Nat)} (hx : Γ.lookup x = some (.list [.val (.ref a), .dict kv₁])) (h : Tr P n X B env ((x, .list [.dict kv₀, .dict kv₁]) :: Γ) [] rest R) :
    Tr P n X B env Γ [(a, .dict kv₀)] rest R :=
  tr_step (fun s st => by
    obtain ⟨st0, r0⟩ := st.drop
    refine st0.know (x := x) (d' := .list [.dict kv₀, .dict kv₁]) hx fun v r => ?_
    obtain ⟨l, vs, rfl, nx, hL, v0, w, e, hv0, hw⟩ := r
    rw [show v0 = .ref a from hv0] at e
    exact ⟨l, vs, rfl, nx, hL, _, _, e, r0, hw⟩) h
noncomputable def tabA0 : List (List Nat × List Nat) := [([38], [38, 97, 109, 112, 59]), ([60], [38, 108, 116, 59]), ([62], [38, 103, 116, 59]), ([34], [38, 113, 117, 111, 116, 59]), ([9], [38, 35, 48, 57, 59]), ([10], [38, 35, 49, 48, 59]), ([13], [38, 35, 49, 51, 59])]
noncomputable def tabC0 : List (List Nat × List Nat) := [([38], [38, 97, 109, 112, 59]), ([60], [38, 108, 116, 59]), ([62], [38, 103, 116, 59])]
noncomputable def tabA1 : List (List Nat × List Nat) := [([38], [38, 97, 109, 112, 59]), ([60], [38, 108, 116, 59]), ([34], [38, 113, 117, 111, 116, 59]), ([9], [38, 35, 120, 57, 59]), ([10], [38, 35, 120, 65, 59]), ([13], [38, 35, 120, 68, 59])]
noncomputable def tabC1 : List (List Nat × List Nat) := [([38], [38, 97, 109, 112, 59]), ([60], [38, 108, 116, 59]), ([62], [38, 103, 116, 59]), ([13], [38, 35, 120, 68, 59])]

set_option maxHeartbeats 2000000 in
theorem tables0_cn {P : Cx} (W : Wd P) : Cn P 1 (Str.ofString "_law_tables") [.int 0] (.list [.dict tabA0, .dict tabC0]) := by
  have e : recOf (Str.ofString "_law_tables") = recOf (Str.ofString "_law_tables") := rfl
  conv at e => rhs; whnf
  refine cn_of W [(Str.ofString "odd", .int 0)] [Str.ofString "odd"] rfl (by decide +kernel) e ?_ rfl ?_ (by decide +kernel) (by decide +kernel) ?_
  · intro pm cd doc vs h; match vs, h with | [v0], _ => rfl
  · exact fun n => List.forall_mem_cons.mpr ⟨.inl (by kernel_rfl), fun _ h => nomatch h⟩
  intro X B L a cd once
  clear e
  dsimp only at once ⊢
  with_reducible refine tr_tabs W.good (kv₀ := [([38], [38, 97, 109, 112, 59]), ([60], [38, 108, 116, 59]), ([62], [38, 103, 116, 59])]) (kv₁ := [([38], [38, 97, 109, 112, 59]), ([60], [38, 108, 116, 59]), ([62], [38, 103, 116, 59])]) (fun s st => (.cons ?_ ?_ (.cons ?_ ?_ (.cons ?_ ?_ .nil)))) (fun a s st => (.cons ?_ ?_ (.cons ?_ ?_ (.cons ?_ ?_ .nil)))) ?_ ?_ (by kernel_rfl) (by kernel_rfl) (fun a => ?_)
  iterate 12 ktr_rel
  · decide
  · decide
  with_reducible refine tr_if (b := false) (R₁ := fun oc => oc = .next [(Str.ofString "tables", .list [.val (.ref a), .dict [([38], [38, 97, 109, 112, 59]), ([60], [38, 108, 116, 59]), ([62], [38, 103, 116, 59])]]), (Str.ofString "odd", .int 0)] [(a, .dict [([38], [38, 97, 109, 112, 59]), ([60], [38, 108, 116, 59]), ([62], [38, 103, 116, 59])])]) (fun s st => tt_eq (tt_int (i := 0) ?_) rfl) (fun h => ?_) (fun h => tr_nil rfl) (fun Γ' O' e => ?_) (fun Γ' O' e => ?_) (fun d e => ?_)
  · ktr_rel
  · cases h
  rotate_left
  · cases e
  · cases e
  cases e
  with_reducible refine tr_store2 (a := a) (x₁ := [34]) (y₁ := [38, 113, 117, 111, 116, 59]) (x₂ := [9]) (y₂ := [38, 35, 48, 57, 59]) (fun s st => ev_tup (.cons ?_ (.cons (ev_item (ds := [.str [38, 35, 48, 57, 59], .str [38, 35, 120, 57, 59]]) (i := 0) (ev_list (.cons ?_ (.cons ?_ .nil))) ?_ ?_ ?_ ?_) .nil))) (fun s st => (ev_item (ds := [.val (.ref a), .dict [([38], [38, 97, 109, 112, 59]), ([60], [38, 108, 116, 59]), ([62], [38, 103, 116, 59])]]) (i := 0) ?_ ?_ ?_ ?_ ?_)) (fun s st => ?_) (fun s st => (ev_item (ds := [.val (.ref a), .dict [([38], [38, 97, 109, 112, 59]), ([60], [38, 108, 116, 59]), ([62], [38, 103, 116, 59])]]) (i := 0) ?_ ?_ ?_ ?_ ?_)) (fun s st => ?_) ?_ ?_ ?_
  · ktr_rel
  iterate 3 ktr_rel
  · decide
  · rfl
  · simp
  · ktr_rel
  · ktr_rel
  · decide
  · rfl
  · simp
  · ktr_rel
  · ktr_rel
  · ktr_rel
  · decide
  · rfl
  · simp
  · ktr_rel
  rotate_left
  · decide
  · decide
  with_reducible refine tr_store2 (a := a) (x₁ := [10]) (y₁ := [38, 35, 49, 48, 59]) (x₂ := [13]) (y₂ := [38, 35, 49, 51, 59]) (fun s st => ev_tup (.cons (ev_item (ds := [.str [38, 35, 49, 48, 59], .str [38, 35, 120, 65, 59]]) (i := 0) (ev_list (.cons ?_ (.cons ?_ .nil))) ?_ ?_ ?_ ?_) (.cons (ev_item (ds := [.str [38, 35, 49, 51, 59], .str [38, 35, 120, 68, 59]]) (i := 0) (ev_list (.cons ?_ (.cons ?_ .nil))) ?_ ?_ ?_ ?_) .nil))) (fun s st => (ev_item (ds := [.val (.ref a), .dict [([38], [38, 97, 109, 112, 59]), ([60], [38, 108, 116, 59]), ([62], [38, 103, 116, 59])]]) (i := 0) ?_ ?_ ?_ ?_ ?_)) (fun s st => ?_) (fun s st => (ev_item (ds := [.val (.ref a), .dict [([38], [38, 97, 109, 112, 59]), ([60], [38, 108, 116, 59]), ([62], [38, 103, 116, 59])]]) (i := 0) ?_ ?_ ?_ ?_ ?_)) (fun s st => ?_) ?_ ?_ ?_
  iterate 3 ktr_rel
  · decide
  · rfl
  · simp
  iterate 3 ktr_rel
  · decide
  · rfl
  · simp
  · ktr_rel
  · ktr_rel
  · decide
  · rfl
  · simp
  · ktr_rel
  · ktr_rel
  · ktr_rel
  · decide
  · rfl
  · simp
  · ktr_rel
  rotate_left
  · decide
  · decide
  refine tr_tabs_end (x := Str.ofString "tables") look_here ?_
  refine tr_ret (d := .list [.dict tabA0, .dict tabC0]) (fun s st => ?_) rfl
  exact ev_name ⟨by kernel_rfl, by kernel_rfl, by kernel_rfl⟩ (st.vr look_here)

set_option maxHeartbeats 2000000 in
theorem tables1_cn {P : Cx} (W : Wd P) : Cn P 1 (Str.ofString "_law_tables") [.int 1] (.list [.dict tabA1, .dict tabC1]) := by
  have e : recOf (Str.ofString "_law_tables") = recOf (Str.ofString "_law_tables") := rfl
  conv at e => rhs; whnf
  refine cn_of W [(Str.ofString "odd", .int 1)] [Str.ofString "odd"] rfl (by decide +kernel) e ?_ rfl ?_ (by decide +kernel) (by decide +kernel) ?_
  · intro pm cd doc vs h; match vs, h with | [v0], _ => rfl
  · exact fun n => List.forall_mem_cons.mpr ⟨.inl (by kernel_rfl), fun _ h => nomatch h⟩
  intro X B L a cd once
  clear e
  dsimp only at once ⊢
  with_reducible refine tr_tabs W.good (kv₀ := [([38], [38, 97, 109, 112, 59]), ([60], [38, 108, 116, 59]), ([62], [38, 103, 116, 59])]) (kv₁ := [([38], [38, 97, 109, 112, 59]), ([60], [38, 108, 116, 59]), ([62], [38, 103, 116, 59])]) (fun s st => (.cons ?_ ?_ (.cons ?_ ?_ (.cons ?_ ?_ .nil)))) (fun a s st => (.cons ?_ ?_ (.cons ?_ ?_ (.cons ?_ ?_ .nil)))) ?_ ?_ (by kernel_rfl) (by kernel_rfl) (fun a => ?_)
  iterate 12 ktr_rel
  · decide
  · decide
  with_reducible refine tr_if (b := true) (R₁ := fun oc => ∃ a Γ, oc = .next ((Str.ofString "tables", .list [.val (.ref a), .dict [([38], [38, 97, 109, 112, 59]), ([60], [38, 108, 116, 59]), ([62], [38, 103, 116, 59]), ([13], [38, 35, 120, 68, 59])]]) :: (Str.ofString "tables", Γ) :: [(Str.ofString "odd", .int 1)]) [(a, .dict [([38], [38, 97, 109, 112, 59]), ([60], [38, 108, 116, 59])])]) (fun s st => tt_eq (tt_int (i := 1) ?_) rfl) (fun _ => ?_) (fun h => ?_) (fun Γ' O' e => ?_) (fun Γ' O' e => ?_) (fun d e => ?_)
  · ktr_rel
  · refine tr_step (fun s st => st.drop.1) ?_
    with_reducible refine tr_tabs W.good (kv₀ := [([38], [38, 97, 109, 112, 59]), ([60], [38, 108, 116, 59])]) (kv₁ := [([38], [38, 97, 109, 112, 59]), ([60], [38, 108, 116, 59]), ([62], [38, 103, 116, 59]), ([13], [38, 35, 120, 68, 59])]) (fun s st => (.cons ?_ ?_ (.cons ?_ ?_ .nil))) (fun a s st => (.cons ?_ ?_ (.cons ?_ ?_ (.cons ?_ ?_ (.cons ?_ ?_ .nil))))) ?_ ?_ (by kernel_rfl) (by kernel_rfl) (fun b => tr_nil ⟨b, _, rfl⟩)
    iterate 12 ktr_rel
    · decide
    · decide
  · cases h
  rotate_left
  · obtain ⟨a, Γ, e⟩ := e; cases e
  · obtain ⟨a, Γ, e⟩ := e; cases e
  obtain ⟨a, Γ, e⟩ := e
  cases e
  with_reducible refine tr_store2 (a := a) (x₁ := [34]) (y₁ := [38, 113, 117, 111, 116, 59]) (x₂ := [9]) (y₂ := [38, 35, 120, 57, 59]) (fun s st => ev_tup (.cons ?_ (.cons (ev_item (ds := [.str [38, 35, 48, 57, 59], .str [38, 35, 120, 57, 59]]) (i := 1) (ev_list (.cons ?_ (.cons ?_ .nil))) ?_ ?_ ?_ ?_) .nil))) (fun s st => (ev_item (ds := [.val (.ref a), .dict [([38], [38, 97, 109, 112, 59]), ([60], [38, 108, 116, 59]), ([62], [38, 103, 116, 59]), ([13], [38, 35, 120, 68, 59])]]) (i := 0) ?_ ?_ ?_ ?_ ?_)) (fun s st => ?_) (fun s st => (ev_item (ds := [.val (.ref a), .dict [([38], [38, 97, 109, 112, 59]), ([60], [38, 108, 116, 59]), ([62], [38, 103, 116, 59]), ([13], [38, 35, 120, 68, 59])]]) (i := 0) ?_ ?_ ?_ ?_ ?_)) (fun s st => ?_) ?_ ?_ ?_
  · ktr_rel
  iterate 3 ktr_rel
  · decide
  · rfl
  · simp
  · ktr_rel
  · ktr_rel
  · decide
  · rfl
  · simp
  · ktr_rel
  · ktr_rel
  · ktr_rel
  · decide
  · rfl
  · simp
  · ktr_rel
  rotate_left
  · decide
  · decide
  with_reducible refine tr_store2 (a := a) (x₁ := [10]) (y₁ := [38, 35, 120, 65, 59]) (x₂ := [13]) (y₂ := [38, 35, 120, 68, 59]) (fun s st => ev_tup (.cons (ev_item (ds := [.str [38, 35, 49, 48, 59], .str [38, 35, 120, 65, 59]]) (i := 1) (ev_list (.cons ?_ (.cons ?_ .nil))) ?_ ?_ ?_ ?_) (.cons (ev_item (ds := [.str [38, 35, 49, 51, 59], .str [38, 35, 120, 68, 59]]) (i := 1) (ev_list (.cons ?_ (.cons ?_ .nil))) ?_ ?_ ?_ ?_) .nil))) (fun s st => (ev_item (ds := [.val (.ref a), .dict [([38], [38, 97, 109, 112, 59]), ([60], [38, 108, 116, 59]), ([62], [38, 103, 116, 59]), ([13], [38, 35, 120, 68, 59])]]) (i := 0) ?_ ?_ ?_ ?_ ?_)) (fun s st => ?_) (fun s st => (ev_item (ds := [.val (.ref a), .dict [([38], [38, 97, 109, 112, 59]), ([60], [38, 108, 116, 59]), ([62], [38, 103, 116, 59]), ([13], [38, 35, 120, 68, 59])]]) (i := 0) ?_ ?_ ?_ ?_ ?_)) (fun s st => ?_) ?_ ?_ ?_
  iterate 3 ktr_rel
  · decide
  · rfl
  · simp
  iterate 3 ktr_rel
  · decide
  · rfl
  · simp
  · ktr_rel
  · ktr_rel
  · decide
  · rfl
  · simp
  · ktr_rel
  · ktr_rel
  · ktr_rel
  · decide
  · rfl
  · simp
  · ktr_rel
  rotate_left
  · decide
  · decide
  refine tr_tabs_end (x := Str.ofString "tables") look_here ?_
  refine tr_ret (d := .list [.dict tabA1, .dict tabC1]) (fun s st => ?_) rfl
  exact ev_name ⟨by kernel_rfl, by kernel_rfl, by kernel_rfl⟩ (st.vr look_here)
end
section
/-- a word fits a pattern -/
noncomputable def Mt : List Nat → List Nat → Prop
  | [], w => w = []
  | c :: p, w => if c = 42 then ∃ u v, w = u ++ v ∧ Mt p v else ∃ d v, w = d :: v ∧ (c = 63 ∨ c = d) ∧ Mt p v
theorem mt_star {p w : List Nat} : Mt (42 :: p) w ↔ ∃ u v, w = u ++ v ∧ Mt p v := by rw [Mt, if_pos rfl]
theorem mt_one {c : Nat} {p w : List Nat} (h : c ≠ 42) : Mt (c :: p) w ↔ ∃ d v, w = d :: v ∧ (c = 63 ∨ c = d) ∧ Mt p v := by rw [Mt, if_neg h]

theorem ups_mem {j k : Int} {n : Nat} : k ∈ ups j n ↔ j ≤ k ∧ k < j + n := by
  refine ⟨mem_ups, fun h => ?_⟩
  unfold ups
  exact List.mem_map.mpr ⟨(k - j).toNat, List.mem_range.mpr (by omega), by omega⟩
theorem ups_asc (j : Int) (n : Nat) : (ups j n).Pairwise (· < ·) := by
  unfold ups
  rw [List.pairwise_map]
  exact List.pairwise_lt_range.imp fun h => by omega

theorem fits_places (w : List Nat) : ∀ (p : List Nat) (pl : List Int), Places w pl → pl.Pairwise (· < ·) →
    ((w.length : Int) ∈ p.foldl (fun pl c => fitStep w c pl) pl ↔ ∃ k ∈ pl, Mt p (w.drop k.toNat))
  | [], pl, hp, hs => by
    constructor
    · intro h; exact ⟨_, h, by rw [Mt]; simp⟩
    · rintro ⟨k, hk, h⟩
      rw [Mt, List.drop_eq_nil_iff] at h
      have := hp.2 k hk
      rwa [show (w.length : Int) = k by omega]
  | c :: p, pl, hp, hs => by
    have hst : (fitStep w c pl).Pairwise (· < ·) := by
      unfold fitStep
      split
      · split
        · exact ups_asc _ _
        · exact List.Pairwise.nil
      · rw [List.pairwise_map]
        exact (hs.filter _).imp fun h => by omega
    rw [List.foldl_cons, fits_places w p _ hp.step hst]
    by_cases hc : c = 42
    · subst hc
      cases pl with
      | nil => simp [fitStep]
      | cons m pl =>
        have hm := hp.2 m (.head _)
        have e : fitStep w 42 (m :: pl) = ups m (w.length + 1 - m.toNat) := by
          unfold fitStep
          rw [if_pos rfl, if_pos (by simp)]; rfl
        rw [e]
        constructor
        · rintro ⟨k, hk, h⟩
          have := mem_ups hk
          refine ⟨m, .head _, mt_star.mpr ⟨(w.drop m.toNat).take (k.toNat - m.toNat), w.drop k.toNat, ?_, h⟩⟩
          have e2 : w.drop k.toNat = (w.drop m.toNat).drop (k.toNat - m.toNat) := by rw [List.drop_drop]; congr 1; omega
          rw [e2, List.take_append_drop]
        · rintro ⟨k, hk, h⟩
          obtain ⟨u, v, e1, h⟩ := mt_star.mp h
          have hb := hp.2 k hk
          have hle : m ≤ k := by
            rcases List.mem_cons.mp hk with q | q
            · omega
            · have := (List.pairwise_cons.mp hs).1 k q; omega
          have hlen := congrArg List.length e1
          rw [List.length_drop, List.length_append] at hlen
          refine ⟨k + u.length, ups_mem.mpr (by omega), ?_⟩
          rw [show (k + u.length).toNat = k.toNat + u.length by omega, ← List.drop_drop, e1, List.drop_left]
          exact h
    · have e : fitStep w c pl = (pl.filter fun k => decide (k < (w.length : Int)) && ([[63], [w.getD k.toNat 0]].any (· == [c]) && true)).map (· + 1) := by
        unfold fitStep; rw [if_neg hc]
      rw [e]
      have key : ∀ k ∈ pl, k < (w.length : Int) → w.drop k.toNat = w.getD k.toNat 0 :: w.drop (k + 1).toNat := fun k hk hl => by
        have := hp.2 k hk
        have hlt : k.toNat < w.length := by omega
        rw [List.drop_eq_getElem_cons hlt, List.getD_eq_getElem?_getD, List.getElem?_eq_getElem hlt, show (k + 1).toNat = k.toNat + 1 by omega]; rfl
      constructor
      · rintro ⟨k, hk, h⟩
        obtain ⟨j, hj, rfl⟩ := List.mem_map.mp hk
        obtain ⟨hj, hq⟩ := List.mem_filter.mp hj
        rw [Bool.and_eq_true, decide_eq_true_eq] at hq
        refine ⟨j, hj, (mt_one hc).mpr ⟨_, _, key j hj hq.1, ?_, h⟩⟩
        have := hq.2
        simp at this
        rcases this with q | q
        · exact .inl q.symm
        · exact .inr (by rw [List.getD_eq_getElem?_getD]; exact q.symm)
      · rintro ⟨k, hk, h⟩
        obtain ⟨d, v, e1, h2, h3⟩ := (mt_one hc).mp h
        have hb := hp.2 k hk
        have hl : k < (w.length : Int) := by
          rcases Nat.lt_or_ge k.toNat w.length with q | q
          · omega
          · rw [List.drop_eq_nil_of_le q] at e1; cases e1
        have e2 := key k hk hl
        rw [e1] at e2
        injection e2 with e3 e4
        refine ⟨k + 1, List.mem_map.mpr ⟨k, List.mem_filter.mpr ⟨hk, ?_⟩, rfl⟩, e4 ▸ h3⟩
        rw [← e3]
        simp only [Bool.and_eq_true, decide_eq_true_eq, Bool.and_true, List.any_cons, List.any_nil, Bool.or_false, Bool.or_eq_true, beq_iff_eq, List.cons.injEq, and_true]
        exact ⟨hl, h2.imp Eq.symm Eq.symm⟩
theorem fits_mt (p w : List Nat) : fits p w = true ↔ Mt p w := by
  unfold fits
  rw [List.any_eq_true]
  have := fits_places w p [0] (Places.zero w) (List.pairwise_singleton _ _)
  constructor
  · rintro ⟨k, hk, e⟩
    rw [beq_iff_eq.mp e] at hk
    obtain ⟨j, hj, h⟩ := this.mp hk
    rw [List.mem_singleton.mp hj] at h
    exact h
  · intro h
    exact ⟨_, this.mpr ⟨0, .head _, h⟩, beq_self_eq_true _⟩
end
section
/-- a word fits the parts -/
noncomputable def Mp : List Part → List Nat → Prop
  | [], w => w = []
  | .star :: r, w => ∃ u v, w = u ++ v ∧ Mp r v
  | .text l :: r, w => ∃ d v, w = d :: v ∧ (l = [46] ∨ l = escOne d) ∧ Mp r v
theorem mp_append : ∀ (a b : List Part) (w : List Nat), Mp (a ++ b) w ↔ ∃ u v, w = u ++ v ∧ Mp a u ∧ Mp b v
  | [], b, w => by
    constructor
    · intro h; exact ⟨[], w, rfl, rfl, h⟩
    · rintro ⟨u, v, rfl, h1, h2⟩
      rw [show u = [] from h1]; exact h2
  | .star :: r, b, w => by
    constructor
    · rintro ⟨u, v, rfl, h⟩
      obtain ⟨x, y, rfl, h1, h2⟩ := (mp_append r b v).mp h
      exact ⟨u ++ x, y, (List.append_assoc ..).symm, ⟨u, x, rfl, h1⟩, h2⟩
    · rintro ⟨u, v, rfl, ⟨x, y, rfl, h1⟩, h2⟩
      exact ⟨x, y ++ v, List.append_assoc .., (mp_append r b _).mpr ⟨y, v, rfl, h1, h2⟩⟩
  | .text l :: r, b, w => by
    constructor
    · rintro ⟨d, v, rfl, hl, h⟩
      obtain ⟨x, y, rfl, h1, h2⟩ := (mp_append r b v).mp h
      exact ⟨d :: x, y, rfl, ⟨d, x, rfl, hl, h1⟩, h2⟩
    · rintro ⟨u, v, rfl, ⟨d, y, rfl, hl, h1⟩, h2⟩
      exact ⟨d, y ++ v, rfl, hl, (mp_append r b _).mpr ⟨y, v, rfl, h1, h2⟩⟩
theorem lastStar_split {acc : List Part} (h : lastStar acc = true) : ∃ a, acc = a ++ [.star] := by
  unfold lastStar at h
  cases q : acc.getLast? with
  | none => rw [q] at h; cases h
  | some z =>
    rw [q] at h
    cases z with
    | text l => cases h
    | star =>
      obtain ⟨a, e⟩ := List.getLast?_eq_some_iff.mp q
      exact ⟨a, e⟩
theorem mp_star_end {acc : List Part} (h : lastStar acc = true) {u : List Nat} (x : List Nat) (m : Mp acc u) : Mp acc (u ++ x) := by
  obtain ⟨a, rfl⟩ := lastStar_split h
  obtain ⟨y, z, rfl, h1, v, t, rfl, h2⟩ := (mp_append a [.star] u).mp m
  rw [show t = [] from h2]
  exact (mp_append a [.star] _).mpr ⟨y, v ++ x, by simp, h1, v ++ x, [], by simp, rfl⟩
theorem mp_one_star (w : List Nat) : Mp [.star] w := ⟨w, [], by simp, rfl⟩
theorem mp_one_text (l w : List Nat) : Mp [.text l] w ↔ ∃ d, w = [d] ∧ (l = [46] ∨ l = escOne d) := by
  constructor
  · rintro ⟨d, v, rfl, h, e⟩; rw [show v = [] from e]; exact ⟨d, rfl, h⟩
  · rintro ⟨d, rfl, h⟩; exact ⟨d, [], rfl, h, rfl⟩
theorem escOne_dot (d : Nat) : escOne d ≠ [46] := by
  unfold escOne
  split
  · intro e; cases e
  · intro e; cases e; rename_i h; exact h (by decide)
theorem escOne_inj {c d : Nat} (h : escOne c = escOne d) : c = d := by
  unfold escOne at h
  split at h <;> split at h <;> injection h with h1 h2
  · injection h2
  · cases h2
  · cases h2
theorem mp_fold : ∀ (p : List Nat) (acc : List Part) (w : List Nat), Mp (p.foldl pushed acc) w ↔ ∃ u v, w = u ++ v ∧ Mp acc u ∧ Mt p v
  | [], acc, w => by
    constructor
    · intro h; exact ⟨w, [], by simp, h, rfl⟩
    · rintro ⟨u, v, rfl, h1, h2⟩
      rw [show v = [] from h2]; simpa using h1
  | c :: p, acc, w => by
    rw [List.foldl_cons, mp_fold p (pushed acc c) w]
    by_cases h42 : c = 42
    · subst h42
      have e : pushed acc 42 = if lastStar acc then acc else acc ++ [.star] := by unfold pushed; rw [if_pos rfl]
      rw [e]
      split
      · rename_i hs
        constructor
        · rintro ⟨u, v, rfl, h1, h2⟩
          exact ⟨u, v, rfl, h1, mt_star.mpr ⟨[], v, rfl, h2⟩⟩
        · rintro ⟨u, v, rfl, h1, h2⟩
          obtain ⟨x, y, rfl, h3⟩ := mt_star.mp h2
          exact ⟨u ++ x, y, (List.append_assoc ..).symm, mp_star_end hs x h1, h3⟩
      · constructor
        · rintro ⟨u, v, rfl, h1, h2⟩
          obtain ⟨x, y, rfl, h3, h4⟩ := (mp_append acc _ u).mp h1
          exact ⟨x, y ++ v, List.append_assoc .., h3, mt_star.mpr ⟨y, v, rfl, h2⟩⟩
        · rintro ⟨u, v, rfl, h1, h2⟩
          obtain ⟨x, y, rfl, h3⟩ := mt_star.mp h2
          exact ⟨u ++ x, y, (List.append_assoc ..).symm, (mp_append acc _ _).mpr ⟨u, x, rfl, h1, mp_one_star x⟩, h3⟩
    · have e : ∃ l, pushed acc c = acc ++ [.text l] ∧ ∀ d, (l = [46] ∨ l = escOne d) ↔ (c = 63 ∨ c = d) := by
        unfold pushed
        rw [if_neg h42]
        by_cases h63 : c = 63
        · rw [if_pos h63]; exact ⟨[46], rfl, fun d => ⟨fun _ => .inl h63, fun _ => .inl rfl⟩⟩
        · rw [if_neg h63]
          refine ⟨escOne c, rfl, fun d => ⟨fun h => ?_, fun h => ?_⟩⟩
          · rcases h with h | h
            · exact absurd h (escOne_dot c)
            · exact .inr (escOne_inj h)
          · rcases h with h | h
            · exact absurd h h63
            · exact .inr (by rw [h])
      obtain ⟨l, e, hl⟩ := e
      rw [e]
      constructor
      · rintro ⟨u, v, rfl, h1, h2⟩
        obtain ⟨x, y, rfl, h3, h4⟩ := (mp_append acc _ u).mp h1
        obtain ⟨d, rfl, h5⟩ := (mp_one_text l y).mp h4
        exact ⟨x, d :: v, by simp, h3, (mt_one h42).mpr ⟨d, v, rfl, (hl d).mp h5, h2⟩⟩
      · rintro ⟨u, v, rfl, h1, h2⟩
        obtain ⟨d, y, rfl, h3, h4⟩ := (mt_one h42).mp h2
        exact ⟨u ++ [d], y, by simp, (mp_append acc _ _).mpr ⟨u, [d], rfl, h1, (mp_one_text l _).mpr ⟨d, rfl, (hl d).mpr h3⟩⟩, h4⟩
theorem mp_mt (p w : List Nat) : Mp (partsOf p) w ↔ Mt p w := by
  unfold partsOf
  rw [mp_fold]
  constructor
  · rintro ⟨u, v, rfl, h1, h2⟩; rw [show u = [] from h1]; exact h2
  · intro h; exact ⟨[], w, rfl, rfl, h⟩

/-! what the reader reads -/
noncomputable def okT (l : List Nat) : Prop := l = [46] ∨ ∃ c, l = escOne c
noncomputable def okP (ps : List Part) : Prop := ∀ l, Part.text l ∈ ps → okT l
noncomputable def tokL : List Nat → List Nat
  | [46] => []
  | [_, c] => [c]
  | l => l
theorem tokL_esc (c : Nat) : tokL (escOne c) = [c] := by
  unfold escOne
  split
  · rfl
  · rename_i h
    have : c ≠ 46 := fun e => h (by rw [e]; decide)
    unfold tokL
    split
    · rename_i e; cases e; exact absurd rfl this
    · rename_i e; cases e
    · rfl
theorem specials_sub : ∀ c ∈ specials, c ∈ special := by decide +kernel
theorem special_alnum : ∀ c ∈ special, Txt.isalnum (Sx [c]) = false := by decide +kernel
theorem push_okP (acc : List Part) (c : Nat) (h : okP acc) : okP (pushed acc c) := by
  have short : ∀ q, (∀ l, q = .text l → okT l) → okP (acc ++ [q]) := fun q hq l hm => by
    rcases List.mem_append.mp hm with hm | hm
    · exact h l hm
    · exact hq l (List.mem_singleton.mp hm).symm
  unfold pushed
  split
  · split
    · exact h
    · exact short _ fun l e => by cases e
  · split
    · exact short _ fun l e => by cases e; exact .inl rfl
    · exact short _ fun l e => by cases e; exact .inr ⟨c, rfl⟩
theorem parts_okP (p : List Nat) : okP (partsOf p) := by
  suffices ∀ (p : List Nat) (acc : List Part), okP acc → okP (p.foldl pushed acc) from this p [] fun l h => by cases h
  intro p
  induction p with
  | nil => intro acc h; exact h
  | cons c p ih => intro acc h; exact ih _ (push_okP acc c h)

noncomputable def NoStarHead (l : List Nat) : Prop := ∀ r, l ≠ 42 :: r
theorem rd_text {f : Nat} {l rest : List Nat} {fz : List Run} {cur : Run} {st : List Nat} (h : okT l) (hr : NoStarHead rest) (hst : st ≠ closed) : rd (f + 1) (l ++ rest) fz cur st = rd f rest fz (cur ++ [tokL l]) st := by
  have hst' : (st == closed) = false := beq_eq_false_iff_ne.mpr hst
  have n6 : ∀ (c : Nat) (r : List Nat), c ≠ 40 → ((c :: r).take 6 == opener) = false := fun c r hc => by
    rw [beq_eq_false_iff_ne]; intro e; rw [List.take_succ_cons] at e; injection e with e1; exact hc e1
  have plain : ∀ (c : Nat), c ∉ special → rd (f + 1) (c :: rest) fz cur st = rd f rest fz (cur ++ [[c]]) st := fun c hc => by
    have h1 : c ≠ 40 := fun e => hc (by rw [e]; decide)
    have h2 : c ≠ 41 := fun e => hc (by rw [e]; decide)
    have h3 : c ≠ 46 := fun e => hc (by rw [e]; decide)
    have h4 : c ≠ 92 := fun e => hc (by rw [e]; decide)
    have h5 : c ∉ specials := fun e => hc (specials_sub c e)
    have e2 : ([c] == [41]) = false := by simpa using h2
    have e3 : ([c] ++ rest.take 1 == [46, 42]) = false := by rw [beq_eq_false_iff_ne]; intro e; injection e with e; exact h3 e
    have e4 : ([c] == [92]) = false := by simpa using h4
    have e5 : tok c rest = [c] := by
      unfold tok
      rw [List.lookup_cons, e4, List.lookup_cons, show ([c] == [46]) = false by simpa using h3]; rfl
    rw [rd, n6 c _ h1, e2, e3, hst', e4, e5]
    simp [h5]
  rcases h with rfl | ⟨c, rfl⟩
  · have e3 : ([46] ++ rest.take 1 == [46, 42]) = false := by
      rw [beq_eq_false_iff_ne]; intro e
      cases rest with
      | nil => cases e
      | cons a r =>
        injection e with _ e; injection e with e
        exact hr r (by rw [e])
    show rd (f + 1) (46 :: rest) fz cur st = _
    rw [rd, n6 46 _ (by decide), e3, hst']
    have e5 : tok 46 rest = [] := rfl
    rw [e5]
    simp [show ¬ 46 ∈ specials by decide, tokL]
  · rw [tokL_esc]
    by_cases q : c ∈ special
    · have e : escOne c = [92, c] := by unfold escOne; rw [if_pos q]
      rw [e]
      show rd (f + 1) (92 :: c :: rest) fz cur st = _
      rw [rd, n6 92 _ (by decide), hst']
      have e5 : tok 92 (c :: rest) = [c] := rfl
      rw [e5]
      simp [show ¬ 92 ∈ specials by decide, special_alnum c q]
    · have e : escOne c = [c] := by unfold escOne; rw [if_neg q]
      rw [e]; exact plain c q
theorem okT_len {l : List Nat} (h : okT l) : 1 ≤ l.length := by
  rcases h with rfl | ⟨c, rfl⟩
  · exact Nat.le_refl _
  · unfold escOne; split <;> simp
theorem okT_head {l rest : List Nat} (h : okT l) : NoStarHead (l ++ rest) := fun r e => by
  rcases h with rfl | ⟨c, rfl⟩
  · injection e with e; cases e
  · unfold escOne at e
    split at e
    · injection e with e; cases e
    · rename_i q; injection e with e; exact q (by rw [e]; decide)
theorem texts_head : ∀ {ts : List (List Nat)} {rest : List Nat}, (∀ l ∈ ts, okT l) → NoStarHead rest → NoStarHead (ts.flatten ++ rest)
  | [], rest, h, hr => hr
  | l :: ts, rest, h, hr => by rw [List.flatten_cons, List.append_assoc]; exact okT_head (h l (.head _))
theorem rd_texts {rest : List Nat} {fz : List Run} {st : List Nat} {fin : Option (List Run × List Nat)} (hr : NoStarHead rest) (hst : st ≠ closed) : ∀ (ts : List (List Nat)) (f : Nat) (cur : Run), (∀ l ∈ ts, okT l) → (ts.flatten ++ rest).length ≤ f →
    (∀ f', rest.length ≤ f' → rd f' rest fz (cur ++ ts.map tokL) st = fin) → rd f (ts.flatten ++ rest) fz cur st = fin
  | [], f, cur, h, hf, k => by have := k f hf; simpa using this
  | l :: ts, f, cur, h, hf, k => by
    have hl := okT_len (h l (.head _))
    rw [List.flatten_cons, List.append_assoc] at hf ⊢
    rw [List.length_append] at hf
    obtain ⟨g, rfl⟩ : ∃ g, f = g + 1 := ⟨f - 1, by omega⟩
    rw [rd_text (h l (.head _)) (texts_head (fun l' hm => h l' (.tail _ hm)) hr) hst]
    refine rd_texts hr hst ts g (cur ++ [tokL l]) (fun l' hm => h l' (.tail _ hm)) (by omega) fun f' hf' => ?_
    have := k f' hf'
    rwa [List.append_assoc]

noncomputable def runsOf : List Part → List Run
  | [] => [[]]
  | .star :: r => [] :: runsOf r
  | .text l :: r => match runsOf r with
    | h :: t => (tokL l :: h) :: t
    | [] => [[tokL l]]
theorem runsOf_ne : ∀ (ps : List Part), runsOf ps ≠ []
  | [] => List.cons_ne_nil _ _
  | .star :: r => List.cons_ne_nil _ _
  | .text l :: r => by unfold runsOf; split <;> exact List.cons_ne_nil _ _
theorem runsOf_split : ∀ (ps : List Part), runsOf ps = match (splitT ps).2 with
    | [] => [(splitT ps).1.map tokL]
    | _ :: r => (splitT ps).1.map tokL :: runsOf r
  | [] => rfl
  | .star :: r => rfl
  | .text l :: r => by
    have ih := runsOf_split r
    show (match runsOf r with | h :: t => (tokL l :: h) :: t | [] => [[tokL l]]) = _
    rw [ih]
    simp only [splitT]
    cases q : (splitT r).2 <;> simp
theorem okP_split {ps : List Part} (h : okP ps) : (∀ l ∈ (splitT ps).1, okT l) ∧ okP (splitT ps).2 := by
  constructor
  · induction ps with
    | nil => intro l hm; cases hm
    | cons a r ih =>
      cases a with
      | star => intro l hm; cases hm
      | text t =>
        intro l hm
        rcases List.mem_cons.mp hm with rfl | hm
        · exact h _ (.head _)
        · exact ih (fun l' hm' => h l' (.tail _ hm')) l hm
  · rw [splitT_snd]; exact fun l hm => h l (List.mem_of_mem_drop hm)
theorem front_closed : front ≠ closed ∧ grp ≠ closed ∧ lastS ≠ closed := by decide
theorem groups_head (n : Nat) (ps : List Part) : NoStarHead (groups n ps).flatten := by
  intro r e
  unfold groups at e
  split at e
  · cases e
  · cases e
  · cases e
  · split at e
    · injection e with e; cases e
    · split at e
      · injection e with e; cases e
      · injection e with e; cases e
theorem rd_groups : ∀ (n : Nat) (r : List Part) (F : Nat) (fz : List Run) (cur : Run) (st : List Nat), okP r → r.length < n → (groups n (.star :: r)).flatten.length ≤ F → (st = front ∨ st = closed) →
    rd F (groups n (.star :: r)).flatten fz cur st = some (fz ++ cur :: runsOf r, lastS)
  | 0, r, F, fz, cur, st, ok, hn, hF, hst => by omega
  | n + 1, r, F, fz, cur, st, ok, hn, hF, hst => by
    have hfc : ([front, closed].any (· == st) && true) = true := by rcases hst with rfl | rfl <;> decide
    have dot : ∀ (g : Nat) (rest : List Nat), rd (g + 1) (46 :: 42 :: rest) fz cur st = rd g rest (fz ++ [cur]) [] lastS := fun g rest => by
      rw [rd, hfc]
      simp [opener]
    obtain ⟨okt, okr⟩ := okP_split ok
    by_cases hr : r.isEmpty = true
    · have hr0 : r = [] := List.isEmpty_iff.mp hr
      subst hr0
      have e : groups (n + 1) [.star] = [[46, 42]] := by unfold groups; rfl
      rw [e] at hF ⊢
      simp only [List.flatten_cons, List.flatten_nil, List.append_nil, List.length_cons, List.length_nil] at hF ⊢
      obtain ⟨g, rfl⟩ : ∃ g, F = g + 1 := ⟨F - 1, by omega⟩
      rw [dot, rd_end]
      simp [runsOf, grp, closed, lastS]
    · by_cases h2 : (splitT r).2.isEmpty = true
      · have e : groups (n + 1) (.star :: r) = [[46, 42], (splitT r).1.flatten] := by rw [groups, if_neg hr, if_pos h2]
        rw [e] at hF ⊢
        have h20 : (splitT r).2 = [] := List.isEmpty_iff.mp h2
        have er := runsOf_split r
        rw [h20] at er
        simp only [List.flatten_cons, List.flatten_nil, List.append_nil, List.length_append, List.length_cons, List.length_nil] at hF ⊢
        obtain ⟨g, rfl⟩ : ∃ g, F = g + 1 := ⟨F - 1, by omega⟩
        show rd (g + 1) (46 :: 42 :: (splitT r).1.flatten) fz cur st = _
        rw [dot]
        have := rd_texts (rest := []) (fz := fz ++ [cur]) (st := lastS) (fin := some (fz ++ cur :: runsOf r, lastS)) (fun r e => by cases e) front_closed.2.2 (splitT r).1 g [] okt (by simp only [List.length_append, List.length_nil]; omega) fun f' _ => by
          rw [rd_end, er]
          simp [grp, closed, lastS]
        simpa using this
      · have e : groups (n + 1) (.star :: r) = ([40, 63, 62, 46, 42, 63] ++ (splitT r).1.flatten ++ [41]) :: groups n (splitT r).2 := by rw [groups, if_neg hr, if_neg h2]
        rw [e] at hF ⊢
        have hne : (splitT r).2 ≠ [] := fun e => h2 (by rw [e]; rfl)
        obtain ⟨r', hr'⟩ := (splitT_head r).resolve_left hne
        have er := runsOf_split r
        rw [hr'] at er
        simp only at er
        have hlen := splitT_len r
        rw [hr', List.length_cons] at hlen
        rw [hr'] at hF ⊢ okr
        have ih := rd_groups n r'
        have hgh := groups_head n (.star :: r')
        generalize groups n (.star :: r') = G at ih hF hgh ⊢
        rw [List.flatten_cons, List.append_assoc, List.append_assoc] at hF ⊢
        simp only [List.length_append, List.length_cons, List.length_nil] at hF
        obtain ⟨g, rfl⟩ : ∃ g, F = g + 1 := ⟨F - 1, by omega⟩
        have open_ : rd (g + 1) ([40, 63, 62, 46, 42, 63] ++ ((splitT r).1.flatten ++ ([41] ++ G.flatten))) fz cur st = rd g ((splitT r).1.flatten ++ ([41] ++ G.flatten)) (fz ++ [cur]) [] grp := by
          show rd (g + 1) (40 :: 63 :: 62 :: 46 :: 42 :: 63 :: _) fz cur st = _
          rw [rd, hfc]
          simp [opener]
        rw [open_]
        refine rd_texts (fun r e => by cases e) front_closed.2.1 (splitT r).1 g [] okt (by simp only [List.length_append, List.length_cons, List.length_nil]; omega) fun f' hf' => ?_
        simp only [List.length_append, List.length_cons, List.length_nil] at hf'
        obtain ⟨g', rfl⟩ : ∃ g, f' = g + 1 := ⟨f' - 1, by omega⟩
        have close_ : ∀ (cur' : Run), rd (g' + 1) ([41] ++ G.flatten) (fz ++ [cur]) cur' grp = rd g' G.flatten (fz ++ [cur]) cur' closed := fun cur' => by
          show rd (g' + 1) (41 :: _) _ _ _ = _
          rw [rd]
          simp [opener]
        rw [close_, ih g' (fz ++ [cur]) _ closed (fun l hm => okr l (.tail _ hm)) (by omega) (by omega) (.inr rfl), er]
        simp
/-- what the law's reader reads of an expression -/
theorem readOf_parts (ps : List Part) (ok : okP ps) : readOf (pieces ps).flatten = some (runsOf ps, if (splitT ps).2 = [] then front else lastS) := by
  obtain ⟨okt, okr⟩ := okP_split ok
  have er := runsOf_split ps
  have hlen := splitT_len ps
  unfold readOf pieces
  rw [List.flatten_append]
  rcases splitT_head ps with h | ⟨r, h⟩
  · rw [h] at er ⊢
    simp only at er
    rw [if_pos rfl, er]
    have e : groups (ps.length + 1) [] = [] := by unfold groups; rfl
    rw [e]
    refine rd_texts (fun r e => by cases e) front_closed.1 (splitT ps).1 _ [] okt (by omega) fun f' _ => ?_
    show rd f' [] _ _ _ = _
    rw [rd_end]
    simp [grp, closed, front]
  · rw [h] at er hlen okr ⊢
    simp only at er
    rw [if_neg (List.cons_ne_nil _ _), er]
    have ih := rd_groups (ps.length + 1) r
    have hgh := groups_head (ps.length + 1) (.star :: r)
    generalize groups (ps.length + 1) (.star :: r) = G at ih hgh ⊢
    refine rd_texts hgh front_closed.1 (splitT ps).1 _ [] okt (by omega) fun f' hf' => ?_
    rw [ih f' [] _ front (fun l hm => okr l (.tail _ hm)) (by simp at hlen; omega) hf' (.inl rfl)]
    simp
end
section
/-- a run fits a word sign by sign -/
noncomputable def SM : Run → List Nat → Prop
  | [], u => u = []
  | t :: r, u => ∃ d v, u = d :: v ∧ (t = [] ∨ t = [d]) ∧ SM r v
theorem SM.length : ∀ {r : Run} {u : List Nat}, SM r u → u.length = r.length
  | [], u, h => by rw [show u = [] from h]; rfl
  | t :: r, u, h => by obtain ⟨d, v, rfl, _, h⟩ := h; rw [List.length_cons, List.length_cons, SM.length h]
theorem sm_iff : ∀ (r : Run) (u : List Nat), SM r u ↔ u.length = r.length ∧ ∀ j, j < r.length → r.getD j [] = [] ∨ r.getD j [] = [u.getD j 0]
  | [], u => by
    constructor
    · intro h; rw [show u = [] from h]; exact ⟨rfl, fun j hj => absurd hj (Nat.not_lt_zero _)⟩
    · rintro ⟨h, _⟩; exact List.eq_nil_of_length_eq_zero h
  | t :: r, u => by
    constructor
    · rintro ⟨d, v, rfl, h1, h2⟩
      obtain ⟨h3, h4⟩ := (sm_iff r v).mp h2
      refine ⟨by rw [List.length_cons, List.length_cons, h3], fun j hj => ?_⟩
      cases j with
      | zero => simpa using h1
      | succ j => simpa using h4 j (by simpa using hj)
    · rintro ⟨h1, h2⟩
      cases u with
      | nil => simp at h1
      | cons d v =>
        refine ⟨d, v, rfl, by simpa using h2 0 (by simp), (sm_iff r v).mpr ⟨by simpa using h1, fun j hj => by simpa using h2 (j + 1) (by simpa using hj)⟩⟩
theorem stands_sm (r : Run) (w : List Nat) (p : Nat) : stands r w p = true ↔ ∃ u v, p + r.length ≤ w.length ∧ w.drop p = u ++ v ∧ SM r u := by
  unfold stands
  rw [Bool.and_eq_true, decide_eq_true_eq, beq_iff_eq, List.filter_eq_nil_iff]
  have gd : ∀ {u v : List Nat} {j : Nat}, w.drop p = u ++ v → j < u.length → w.getD (p + j) 0 = u.getD j 0 := fun {u v j} e hj => by
    rw [List.getD_eq_getElem?_getD, List.getD_eq_getElem?_getD, ← List.getElem?_drop, e, List.getElem?_append_left hj]
  constructor
  · rintro ⟨h1, h2⟩
    have hl : ((w.drop p).take r.length).length = r.length := by rw [List.length_take, List.length_drop]; omega
    refine ⟨(w.drop p).take r.length, (w.drop p).drop r.length, by omega, (List.take_append_drop ..).symm, (sm_iff r _).mpr ⟨hl, fun j hj => ?_⟩⟩
    have := h2 (j : Int) (ups_mem.mpr (by omega))
    rw [← gd (List.take_append_drop r.length (w.drop p)).symm (by omega)]
    simp at this
    rw [List.getD_eq_getElem?_getD, List.getD_eq_getElem?_getD]
    by_cases q : r[j]?.getD [] = []
    · exact .inl q
    · exact .inr (this q).symm
  · rintro ⟨u, v, h0, e, h⟩
    obtain ⟨h1, h2⟩ := (sm_iff r u).mp h
    refine ⟨by omega, fun k hk => ?_⟩
    have hb := mem_ups hk
    have := h2 k.toNat (by omega)
    rw [← gd e (by omega)] at this
    rw [List.getD_eq_getElem?_getD, List.getD_eq_getElem?_getD] at this
    simp
    exact fun hn => (this.resolve_left hn).symm

/-- runs with anything between -/
noncomputable def RM : List Run → List Nat → Prop
  | [], w => False
  | [r], w => SM r w
  | r :: s :: rs, w => ∃ u x v, w = u ++ (x ++ v) ∧ SM r u ∧ RM (s :: rs) v
theorem tokL_match {l : List Nat} (h : okT l) (d : Nat) : (l = [46] ∨ l = escOne d) ↔ (tokL l = [] ∨ tokL l = [d]) := by
  rcases h with rfl | ⟨c, rfl⟩
  · exact ⟨fun _ => .inl rfl, fun _ => .inl rfl⟩
  · rw [tokL_esc]
    constructor
    · rintro (h | h)
      · exact absurd h (escOne_dot c)
      · exact .inr (by rw [escOne_inj h])
    · rintro (h | h)
      · cases h
      · injection h with h; exact .inr (by rw [h])
theorem mp_runs : ∀ (ps : List Part) (w : List Nat), okP ps → (Mp ps w ↔ RM (runsOf ps) w)
  | [], w, ok => Iff.rfl
  | .star :: r, w, ok => by
    have ih := fun v => mp_runs r v fun l hm => ok l (.tail _ hm)
    have hne := runsOf_ne r
    show (∃ u v, w = u ++ v ∧ Mp r v) ↔ RM ([] :: runsOf r) w
    cases q : runsOf r with
    | nil => exact absurd q hne
    | cons s rs =>
      rw [q] at ih
      constructor
      · rintro ⟨u, v, rfl, h⟩; exact ⟨[], u, v, rfl, rfl, (ih v).mp h⟩
      · rintro ⟨u, x, v, rfl, h1, h2⟩; rw [show u = [] from h1]; exact ⟨x, v, rfl, (ih v).mpr h2⟩
  | .text l :: r, w, ok => by
    have ih := fun v => mp_runs r v fun l hm => ok l (.tail _ hm)
    have hne := runsOf_ne r
    have hl := tokL_match (ok l (.head _))
    show (∃ d v, w = d :: v ∧ (l = [46] ∨ l = escOne d) ∧ Mp r v) ↔ RM (match runsOf r with | h :: t => (tokL l :: h) :: t | [] => [[tokL l]]) w
    cases q : runsOf r with
    | nil => exact absurd q hne
    | cons h t =>
      rw [q] at ih
      cases t with
      | nil =>
        constructor
        · rintro ⟨d, v, rfl, h1, h2⟩; exact ⟨d, v, rfl, (hl d).mp h1, (ih v).mp h2⟩
        · rintro ⟨d, v, rfl, h1, h2⟩; exact ⟨d, v, rfl, (hl d).mpr h1, (ih v).mpr h2⟩
      | cons s t =>
        constructor
        · rintro ⟨d, v, rfl, h1, h2⟩
          obtain ⟨u, x, y, rfl, h3, h4⟩ := (ih v).mp h2
          exact ⟨d :: u, x, y, rfl, ⟨d, u, rfl, (hl d).mp h1, h3⟩, h4⟩
        · rintro ⟨u, x, y, rfl, ⟨d, u', rfl, h1, h3⟩, h4⟩
          exact ⟨d, u' ++ (x ++ y), rfl, (hl d).mpr h1, (ih _).mpr ⟨u', x, y, rfl, h3, h4⟩⟩

/-- anything, then runs -/
noncomputable def AM (rs : List Run) (w : List Nat) : Prop := ∃ x v, w = x ++ v ∧ RM rs v
theorem AM.more {rs : List Run} {w : List Nat} (x : List Nat) (h : AM rs w) : AM rs (x ++ w) := by
  obtain ⟨y, v, rfl, h⟩ := h
  exact ⟨x ++ y, v, (List.append_assoc ..).symm, h⟩
theorem AM.back {rs : List Run} {w : List Nat} {j k : Nat} (hjk : j ≤ k) (h : AM rs (w.drop k)) : AM rs (w.drop j) := by
  have e : w.drop j = (w.drop j).take (k - j) ++ w.drop k := by
    have e2 : w.drop k = (w.drop j).drop (k - j) := by rw [List.drop_drop]; congr 1; omega
    rw [e2, List.take_append_drop]
  rw [e]; exact h.more _
theorem am_cons (m : Run) (rs : List Run) (hne : rs ≠ []) (w : List Nat) (p : Nat) (hp : p ≤ w.length) : AM (m :: rs) (w.drop p) ↔ ∃ k, p ≤ k ∧ stands m w k = true ∧ AM rs (w.drop (k + m.length)) := by
  obtain ⟨s, t, rfl⟩ := List.exists_cons_of_ne_nil hne
  constructor
  · rintro ⟨x, v, e, u, y, z, rfl, h1, h2⟩
    have hlen := congrArg List.length e
    simp only [List.length_drop, List.length_append] at hlen
    have hu := h1.length
    have d1 : w.drop (p + x.length) = u ++ (y ++ z) := by rw [← List.drop_drop, e, List.drop_left]
    refine ⟨p + x.length, by omega, (stands_sm m w _).mpr ⟨u, y ++ z, by omega, d1, h1⟩, y, z, ?_, h2⟩
    rw [← List.drop_drop, d1, ← hu, List.drop_left]
  · rintro ⟨k, hk, h1, y, z, e, h2⟩
    obtain ⟨u, v, h0, e1, h3⟩ := (stands_sm m w k).mp h1
    refine AM.back hk ⟨[], _, rfl, u, y, z, ?_, h3, h2⟩
    have : v = y ++ z := by rw [← e, ← List.drop_drop, e1, ← h3.length, List.drop_left]
    rw [e1, this]
theorem am_one (l : Run) (w : List Nat) (p : Nat) (hp : p ≤ w.length) : AM [l] (w.drop p) ↔ p + l.length ≤ w.length ∧ stands l w (w.length - l.length) = true := by
  constructor
  · rintro ⟨x, v, e, h⟩
    have hv : v.length = l.length := SM.length h
    have hlen := congrArg List.length e
    simp only [List.length_drop, List.length_append] at hlen
    refine ⟨by omega, (stands_sm l w _).mpr ⟨v, [], by omega, ?_, h⟩⟩
    rw [show w.length - l.length = p + x.length by omega, ← List.drop_drop, e, List.drop_left, List.append_nil]
  · rintro ⟨hle, h⟩
    obtain ⟨u, v, h0, e, h1⟩ := (stands_sm l w _).mp h
    have hlen := congrArg List.length e
    simp only [List.length_drop, List.length_append] at hlen
    have hu := h1.length
    have hv : v = [] := List.eq_nil_of_length_eq_zero (by omega)
    rw [hv, List.append_nil] at e
    exact AM.back (k := w.length - l.length) (by omega) ⟨[], _, rfl, by rw [e]; exact h1⟩
theorem first_none {m : Run} {w : List Nat} {p : Nat} (h : firstOf m w p = []) (k : Nat) (hk : p ≤ k) : stands m w k = false := by
  cases q : stands m w k with
  | false => rfl
  | true =>
    have hl := stands_le q
    unfold firstOf at h
    rw [List.filter_eq_nil_iff] at h
    exact absurd (by simpa using q) (h (k : Int) (ups_mem.mpr (by omega)))
theorem first_some {m : Run} {w : List Nat} {p : Nat} {k : Int} {r : List Int} (h : firstOf m w p = k :: r) : p ≤ k.toNat ∧ stands m w k.toNat = true ∧ ∀ j, p ≤ j → stands m w j = true → k.toNat ≤ j := by
  unfold firstOf at h
  have hm : k ∈ (ups (p : Int) (w.length + 1 - p)).filter fun k => stands m w k.toNat := by rw [h]; exact .head _
  obtain ⟨h1, h2⟩ := List.mem_filter.mp hm
  have hb := mem_ups h1
  have hs := (ups_asc (p : Int) (w.length + 1 - p)).filter (fun k => stands m w k.toNat)
  rw [h] at hs
  refine ⟨by omega, h2, fun j hj hq => ?_⟩
  have hl := stands_le hq
  have hj : (j : Int) ∈ (ups (p : Int) (w.length + 1 - p)).filter fun k => stands m w k.toNat := List.mem_filter.mpr ⟨ups_mem.mpr (by omega), by simpa using hq⟩
  rw [h] at hj
  rcases List.mem_cons.mp hj with e | hj
  · omega
  · have := (List.pairwise_cons.mp hs).1 _ hj; omega
theorem am_mid (w : List Nat) (l : Run) : ∀ (ms : List Run) (p : Nat), p ≤ w.length → (AM (ms ++ [l]) (w.drop p) ↔ ∃ q, mid ms w p = some q ∧ q + l.length ≤ w.length ∧ stands l w (w.length - l.length) = true)
  | [], p, hp => by
    rw [List.nil_append, am_one l w p hp]
    constructor
    · intro h; exact ⟨p, rfl, h⟩
    · rintro ⟨q, e, h⟩; injection e with e; rw [e]; exact h
  | m :: ms, p, hp => by
    rw [List.cons_append, am_cons m _ (by simp) w p hp]
    cases q : firstOf m w p with
    | nil =>
      have e : mid (m :: ms) w p = none := by rw [mid, q]
      rw [e]
      constructor
      · rintro ⟨k, hk, h, _⟩; rw [first_none q k hk] at h; cases h
      · rintro ⟨q, h, _⟩; cases h
    | cons k r =>
      have e : mid (m :: ms) w p = mid ms w (k.toNat + m.length) := by rw [mid, q]
      obtain ⟨h1, h2, h3⟩ := first_some q
      have hl := stands_le h2
      rw [e, ← am_mid w l ms (k.toNat + m.length) hl]
      constructor
      · rintro ⟨j, hj, hs, h⟩
        exact h.back (by have := h3 j hj hs; omega)
      · intro h; exact ⟨k.toNat, h1, h2, h⟩
theorem split_star : ∀ (ps : List Part), (splitT ps).2 = [] ↔ (runsOf ps).length = 1 := by
  intro ps
  have e := runsOf_split ps
  rcases splitT_head ps with h | ⟨r, h⟩
  · rw [h] at e
    simp only at e
    rw [h, e]; simp
  · rw [h] at e
    simp only at e
    rw [h, e]
    have := List.length_pos_iff.mpr (runsOf_ne r)
    simp [runsOf_ne r]
theorem takes_rm (r0 : Run) (rest : List Run) (w : List Nat) (st : List Nat) (hst : st = if rest = [] then front else lastS) : takes r0 rest st w = true ↔ RM (r0 :: rest) w := by
  cases rest with
  | nil =>
    rw [if_pos rfl] at hst
    subst hst
    have e : takes r0 [] front w = (stands r0 w 0 && (r0.length == w.length)) := by unfold takes; simp [mid]
    rw [e, Bool.and_eq_true]
    show stands r0 w 0 = true ∧ (r0.length == w.length) = true ↔ SM r0 w
    rw [stands_sm, beq_iff_eq]
    constructor
    · rintro ⟨⟨u, v, h0, e, h⟩, hl⟩
      have hu := h.length
      have hlen := congrArg List.length e
      simp only [List.length_drop, List.length_append] at hlen
      have hv : v = [] := List.eq_nil_of_length_eq_zero (by omega)
      rw [hv, List.append_nil, List.drop_zero] at e
      rw [e]; exact h
    · intro h
      exact ⟨⟨w, [], by rw [h.length]; omega, by simp, h⟩, h.length.symm⟩
  | cons s rs =>
    rw [if_neg (List.cons_ne_nil _ _)] at hst
    subst hst
    have e : ∀ l : Run, l = (r0 :: s :: rs).getLast (List.cons_ne_nil _ _) → takes r0 (s :: rs) lastS w = (stands r0 w 0 && match mid (s :: rs).dropLast w r0.length with | none => false | some p => decide ((p : Int) ≤ w.length - l.length) && stands l w (w.length - l.length)) := fun l hl => by
      subst hl
      unfold takes
      simp only [show ¬ lastS = front by decide, if_false]
      all_goals (cases mid (s :: rs).dropLast w r0.length <;> rfl)
    have hl : (r0 :: s :: rs).getLast (List.cons_ne_nil _ _) = (s :: rs).getLast (List.cons_ne_nil _ _) := List.getLast_cons _
    rw [e _ hl.symm, Bool.and_eq_true]
    have hsp := List.dropLast_concat_getLast (List.cons_ne_nil s rs)
    generalize (s :: rs).getLast (List.cons_ne_nil _ _) = l at hsp ⊢
    have hrm : RM (r0 :: s :: rs) w ↔ stands r0 w 0 = true ∧ AM (s :: rs) (w.drop r0.length) := by
      rw [stands_sm]
      constructor
      · rintro ⟨u, x, v, rfl, h1, h2⟩
        refine ⟨⟨u, x ++ v, by rw [← h1.length]; simp, rfl, h1⟩, x, v, ?_, h2⟩
        rw [← h1.length, List.drop_left]
      · rintro ⟨⟨u, v, h0, e, h1⟩, x, y, e2, h2⟩
        rw [List.drop_zero] at e
        subst e
        rw [← h1.length, List.drop_left] at e2
        exact ⟨u, x, y, by rw [e2], h1, h2⟩
    rw [hrm]
    refine and_congr_right fun h => ?_
    have h0 := stands_le h
    rw [← hsp, am_mid w l _ r0.length (by omega), List.dropLast_concat]
    cases mid (s :: rs).dropLast w r0.length with
    | none => simp
    | some q =>
      simp only [Option.some.injEq, exists_eq_left', Bool.and_eq_true, decide_eq_true_eq]
      refine and_congr_left fun _ => ?_
      constructor <;> intro h <;> omega
/-- the first law: the reading of an expression takes what the pattern fits -/
theorem law_takes (p w : List Nat) : takesD (readOf (inn p)) w = fits p w := by
  have ok := parts_okP p
  rw [Bool.eq_iff_iff, fits_mt, ← mp_mt, mp_runs _ _ ok]
  unfold inn
  rw [readOf_parts _ ok]
  have hsp := split_star (partsOf p)
  have hne := runsOf_ne (partsOf p)
  generalize runsOf (partsOf p) = rs at hsp hne ⊢
  cases rs with
  | nil => exact absurd rfl hne
  | cons r0 rest =>
    refine takes_rm r0 rest w _ ?_
    by_cases q : (splitT (partsOf p)).2 = []
    · have := hsp.mp q
      have hr : rest = [] := by simpa using this
      rw [if_pos q, if_pos hr]
    · rw [if_neg q, if_neg fun e => q (hsp.mpr (by rw [e]; rfl))]
end
section
abbrev KvT := List (List Nat × List Nat)
noncomputable def wr1 (kv : KvT) (c : Nat) : List Nat := (kv.lookup [c]).getD [c]
theorem wr_nil (kv : KvT) : written kv [] = [] := rfl
theorem wr_cons (kv : KvT) (c : Nat) (y : List Nat) : written kv (c :: y) = wr1 kv c ++ written kv y := by simp [written, wr1]
theorem wr_append (kv : KvT) (a b : List Nat) : written kv (a ++ b) = written kv a ++ written kv b := by simp [written]
theorem wr_self (kv : KvT) : ∀ (l : List Nat), (∀ c ∈ l, wr1 kv c = [c]) → written kv l = l
  | [], _ => rfl
  | c :: l, h => by rw [wr_cons, h c (.head _), wr_self kv l fun d hd => h d (.tail _ hd)]; rfl
theorem mt_append : ∀ (a b w : List Nat), Mt (a ++ b) w ↔ ∃ u v, w = u ++ v ∧ Mt a u ∧ Mt b v
  | [], b, w => by
    constructor
    · intro h; exact ⟨[], w, rfl, rfl, h⟩
    · rintro ⟨u, v, rfl, h1, h2⟩
      rw [show u = [] from h1]; exact h2
  | c :: a, b, w => by
    by_cases hc : c = 42
    · subst hc
      rw [List.cons_append, mt_star]
      constructor
      · rintro ⟨u, v, rfl, h⟩
        obtain ⟨x, y, rfl, h1, h2⟩ := (mt_append a b v).mp h
        exact ⟨u ++ x, y, (List.append_assoc ..).symm, mt_star.mpr ⟨u, x, rfl, h1⟩, h2⟩
      · rintro ⟨u, v, rfl, h1, h2⟩
        obtain ⟨x, y, rfl, h3⟩ := mt_star.mp h1
        exact ⟨x, y ++ v, List.append_assoc .., (mt_append a b _).mpr ⟨y, v, rfl, h3, h2⟩⟩
    · rw [List.cons_append, mt_one hc]
      constructor
      · rintro ⟨d, v, rfl, hl, h⟩
        obtain ⟨x, y, rfl, h1, h2⟩ := (mt_append a b v).mp h
        exact ⟨d :: x, y, rfl, (mt_one hc).mpr ⟨d, x, rfl, hl, h1⟩, h2⟩
      · rintro ⟨u, v, rfl, h1, h2⟩
        obtain ⟨d, y, rfl, hl, h1⟩ := (mt_one hc).mp h1
        exact ⟨d, y ++ v, rfl, hl, (mt_append a b _).mpr ⟨y, v, rfl, h1, h2⟩⟩
theorem mt_lit : ∀ (e w : List Nat), (∀ s ∈ e, s ≠ 42 ∧ s ≠ 63) → (Mt e w ↔ w = e)
  | [], w, h => Iff.rfl
  | c :: e, w, h => by
    obtain ⟨h1, h2⟩ := h c (.head _)
    rw [mt_one h1]
    constructor
    · rintro ⟨d, v, rfl, hc, hv⟩
      rw [(mt_lit e v fun s hs => h s (.tail _ hs)).mp hv, hc.resolve_left h2]
    · rintro rfl
      exact ⟨c, e, rfl, .inr rfl, (mt_lit e e fun s hs => h s (.tail _ hs)).mpr rfl⟩
theorem blank_one : ∀ {u v a b : List Nat}, u ++ 32 :: v = a ++ 32 :: b → 32 ∉ u → 32 ∉ v → a = u ∧ b = v
  | [], v, [], b, e, h1, h2 => by injection e with _ e; exact ⟨rfl, e.symm⟩
  | [], v, c :: a, b, e, h1, h2 => by
    injection e with _ e
    exact absurd (by rw [e]; simp) h2
  | c :: u, v, [], b, e, h1, h2 => by
    injection e with e _
    exact absurd (by rw [e]; exact .head _) h1
  | c :: u, v, d :: a, b, e, h1, h2 => by
    injection e with e1 e2
    obtain ⟨h3, h4⟩ := blank_one e2 (fun h => h1 (.tail _ h)) h2
    exact ⟨by rw [h3, e1], h4⟩
theorem mt_blank {a b u v : List Nat} (h1 : 32 ∉ u) (h2 : 32 ∉ v) : Mt (a ++ ([32] ++ b)) (u ++ ([32] ++ v)) ↔ Mt a u ∧ Mt b v := by
  rw [mt_append]
  constructor
  · rintro ⟨x, y, e, h3, h4⟩
    obtain ⟨z, t, rfl, h5, h6⟩ := (mt_append [32] b y).mp h4
    rw [(mt_lit [32] z (by decide)).mp h5] at e
    obtain ⟨e1, e2⟩ := blank_one (b := t) (v := v) e h1 h2
    subst e1
    subst e2
    exact ⟨h3, h6⟩
  · rintro ⟨h3, h4⟩
    exact ⟨u, [32] ++ v, rfl, h3, (mt_append [32] b _).mpr ⟨[32], v, rfl, (mt_lit [32] _ (by decide)).mpr rfl, h4⟩⟩

/-- the signs of a row behind the blank; of a pattern, stars apart; of what stands ahead of it -/
noncomputable def rowS : List Nat := [38, 60, 62, 34, 46, 10, 13, 9, 39]
noncomputable def patS : List Nat := [38, 60, 62, 34, 46]
noncomputable def headS : List Nat := [100, 45, 108, 114, 119, 120, 83, 115, 84, 116, 63, 42, 32]
/-- a table whose writing can be read -/
structure Code (kv : KvT) : Prop where
  head : ∀ c ∈ headS, wr1 kv c = [c]
  ne : ∀ d ∈ rowS, wr1 kv d ≠ []
  blank : ∀ d ∈ rowS, 32 ∉ wr1 kv d
  lit : ∀ c ∈ patS, ∀ s ∈ wr1 kv c, s ≠ 42 ∧ s ≠ 63
  pre : ∀ c ∈ patS, ∀ d ∈ rowS, d = c ∨ ((wr1 kv d).isPrefixOf (wr1 kv c) = false ∧ (wr1 kv c).isPrefixOf (wr1 kv d) = false)
  inner : ∀ c ∈ patS, ∀ d ∈ rowS, ∀ s ∈ (wr1 kv d).tail, s ≠ (wr1 kv c).headD 0
  sub : ∀ c ∈ patS, c ∈ rowS
theorem codeA0 : Code tabA0 := ⟨by decide +kernel, by decide +kernel, by decide +kernel, by decide +kernel, by decide +kernel, by decide +kernel, by decide +kernel⟩
theorem codeC0 : Code tabC0 := ⟨by decide +kernel, by decide +kernel, by decide +kernel, by decide +kernel, by decide +kernel, by decide +kernel, by decide +kernel⟩
theorem codeA1 : Code tabA1 := ⟨by decide +kernel, by decide +kernel, by decide +kernel, by decide +kernel, by decide +kernel, by decide +kernel, by decide +kernel⟩
theorem codeC1 : Code tabC1 := ⟨by decide +kernel, by decide +kernel, by decide +kernel, by decide +kernel, by decide +kernel, by decide +kernel, by decide +kernel⟩
theorem pre_of {a b x y : List Nat} (h : a ++ x = b ++ y) : a.isPrefixOf b = true ∨ b.isPrefixOf a = true := by
  rcases List.append_eq_append_iff.mp h with ⟨z, rfl, _⟩ | ⟨z, rfl, _⟩
  · left; rw [List.isPrefixOf_iff_prefix]; exact ⟨z, rfl⟩
  · right; rw [List.isPrefixOf_iff_prefix]; exact ⟨z, rfl⟩
section
variable {kv : KvT} (C : Code kv)
include C
theorem Code.sync {c : Nat} (hc : c ∈ patS) : ∀ (v s t : List Nat), (∀ d ∈ v, d ∈ rowS) → written kv v = s ++ (wr1 kv c ++ t) → ∃ v1 v2, v = v1 ++ c :: v2 ∧ s = written kv v1 ∧ t = written kv v2
  | [], s, t, hv, e => by
    have := congrArg List.length e
    rw [wr_nil] at this
    simp only [List.length_append, List.length_nil] at this
    exact absurd (List.eq_nil_of_length_eq_zero (by omega)) (C.ne c (C.sub c hc))
  | d :: v, s, t, hv, e => by
    have hd := hv d (.head _)
    rw [wr_cons] at e
    rcases List.append_eq_append_iff.mp e with ⟨z, hs, e2⟩ | ⟨z, hz, e2⟩
    · -- the writing of d stands whole ahead
      obtain ⟨v1, v2, rfl, h1, h2⟩ := Code.sync hc v z t (fun d' h => hv d' (.tail _ h)) e2
      exact ⟨d :: v1, v2, rfl, by rw [hs, wr_cons, h1], h2⟩
    · -- it reaches into what is sought
      cases s with
      | nil =>
        rw [List.nil_append] at hz e
        rcases C.pre c hc d hd with rfl | ⟨h1, h2⟩
        · have := List.append_cancel_left e
          exact ⟨[], v, rfl, rfl, this.symm⟩
        · rcases pre_of e with h | h
          · rw [h1] at h; cases h
          · rw [h2] at h; cases h
      | cons a s =>
        cases z with
        | nil =>
          rw [List.append_nil] at hz
          rw [List.nil_append] at e2
          obtain ⟨v1, v2, rfl, h1, h2⟩ := Code.sync hc v [] t (fun d' h => hv d' (.tail _ h)) (by rw [List.nil_append]; exact e2.symm)
          exact ⟨d :: v1, v2, rfl, by rw [← hz, wr_cons, ← h1, List.append_nil], h2⟩
        | cons b z =>
          exfalso
          have hne := C.ne c (C.sub c hc)
          obtain ⟨h, tl, hh⟩ := List.exists_cons_of_ne_nil hne
          have hb : b = h := by rw [hh] at e2; injection e2 with e2; exact e2.symm
          have := C.inner c hc d hd b (by rw [hz]; simp)
          rw [hh] at this
          exact this hb
  termination_by v => v.length
theorem Code.both (w32 : True) : ∀ (b v : List Nat), (∀ c ∈ b, c = 42 ∨ c ∈ patS) → (∀ d ∈ v, d ∈ rowS) →
    (Mt (written kv b) (written kv v) → Mt b v) ∧ (∀ s t, written kv v = s ++ t → Mt (written kv b) t → ∃ v1 v2, v = v1 ++ v2 ∧ Mt b v2)
  | [], v, hb, hv => by
    constructor
    · intro h
      have h : written kv v = [] := h
      cases v with
      | nil => rfl
      | cons d v => rw [wr_cons] at h; exact absurd (List.append_eq_nil_iff.mp h).1 (C.ne d (hv d (.head _)))
    · intro s t _ _; exact ⟨v, [], (List.append_nil v).symm, rfl⟩
  | c :: b, v, hb, hv => by
    have hb' : ∀ c ∈ b, c = 42 ∨ c ∈ patS := fun x h => hb x (.tail _ h)
    rw [wr_cons]
    rcases hb c (.head _) with rfl | hc
    · rw [C.head 42 (by decide)]
      constructor
      · intro h
        obtain ⟨x, y, e, h⟩ := mt_star.mp h
        obtain ⟨v1, v2, e2, h2⟩ := (Code.both w32 b v hb' hv).2 x y e h
        exact mt_star.mpr ⟨v1, v2, e2, h2⟩
      · intro s t e h
        obtain ⟨x, y, rfl, h3⟩ := mt_star.mp h
        obtain ⟨v1, v2, e2, h2⟩ := (Code.both w32 b v hb' hv).2 (s ++ x) y (by rw [e, List.append_assoc]) h3
        exact ⟨v1, v2, e2, mt_star.mpr ⟨[], v2, rfl, h2⟩⟩
    · have c42 : c ≠ 42 := by rintro rfl; exact absurd hc (by decide)
      have key : ∀ s t, written kv v = s ++ t → Mt (wr1 kv c ++ written kv b) t → ∃ v1 v2, v = v1 ++ c :: v2 ∧ s = written kv v1 ∧ Mt b v2 := fun s t e h => by
        obtain ⟨x, y, rfl, h1, h2⟩ := (mt_append _ _ t).mp h
        rw [(mt_lit _ x (C.lit c hc)).mp h1] at e
        obtain ⟨v1, v2, rfl, h3, h4⟩ := C.sync hc v s y hv e
        refine ⟨v1, v2, rfl, h3, (Code.both w32 b v2 hb' fun d hd => hv d (by simp [hd])).1 ?_⟩
        rw [← h4]; exact h2
      constructor
      · intro h
        obtain ⟨v1, v2, rfl, h1, h2⟩ := key [] _ rfl h
        cases v1 with
        | nil => exact (mt_one c42).mpr ⟨c, v2, rfl, .inr rfl, h2⟩
        | cons a v1 => rw [wr_cons] at h1; exact absurd (List.append_eq_nil_iff.mp h1.symm).1 (C.ne a (hv a (.head _)))
      · intro s t e h
        obtain ⟨v1, v2, rfl, h1, h2⟩ := key s t e h
        exact ⟨v1, c :: v2, rfl, (mt_one c42).mpr ⟨c, v2, rfl, .inr rfl, h2⟩⟩
theorem Code.up : ∀ (b v : List Nat), (∀ c ∈ b, c = 42 ∨ c ∈ patS) → Mt b v → Mt (written kv b) (written kv v)
  | [], v, hb, h => by rw [show v = [] from h]; exact rfl
  | c :: b, v, hb, h => by
    have hb' : ∀ c ∈ b, c = 42 ∨ c ∈ patS := fun x h => hb x (.tail _ h)
    rw [wr_cons]
    rcases hb c (.head _) with rfl | hc
    · rw [C.head 42 (by decide)]
      obtain ⟨x, y, rfl, h3⟩ := mt_star.mp h
      exact mt_star.mpr ⟨written kv x, written kv y, wr_append .., Code.up b y hb' h3⟩
    · have c42 : c ≠ 42 := by rintro rfl; exact absurd hc (by decide)
      have c63 : c ≠ 63 := by rintro rfl; exact absurd hc (by decide)
      obtain ⟨d, y, rfl, h1, h2⟩ := (mt_one c42).mp h
      rw [← h1.resolve_left c63, wr_cons]
      exact (mt_append _ _ _).mpr ⟨_, _, rfl, (mt_lit _ _ (C.lit c hc)).mpr rfl, Code.up b y hb' h2⟩
theorem Code.blankFree : ∀ (v : List Nat), (∀ d ∈ v, d ∈ rowS) → 32 ∉ written kv v
  | [], _ => by rw [wr_nil]; exact List.not_mem_nil
  | d :: v, h => by
    rw [wr_cons, List.mem_append, not_or]
    exact ⟨C.blank d (h d (.head _)), Code.blankFree v fun x hx => h x (.tail _ hx)⟩
theorem Code.law {a b u v : List Nat} (ha : ∀ c ∈ a, c ∈ headS) (hu : ∀ c ∈ u, c ∈ headS ∧ c ≠ 32) (hb : ∀ c ∈ b, c = 42 ∨ c ∈ patS) (hv : ∀ d ∈ v, d ∈ rowS) :
    fits (written kv (a ++ ([32] ++ b))) (written kv (u ++ ([32] ++ v))) = fits (a ++ ([32] ++ b)) (u ++ ([32] ++ v)) := by
  have h32u : 32 ∉ u := fun h => (hu 32 h).2 rfl
  have h32v : 32 ∉ v := fun h => absurd (hv 32 h) (by decide)
  rw [Bool.eq_iff_iff, fits_mt, fits_mt, mt_blank h32u h32v, wr_append, wr_append, wr_append, wr_append, wr_self kv a fun c h => C.head c (ha c h), wr_self kv u fun c h => C.head c (hu c h).1, wr_self kv [32] (by intro c h; rw [List.mem_singleton.mp h]; exact C.head 32 (by decide)),
    mt_blank h32u (C.blankFree v hv)]
  exact and_congr_right fun _ => ⟨(C.both trivial b v hb hv).1, C.up b v hb⟩
end
theorem getD_in {l : List Nat} {i : Nat} (h : i < l.length) : l.getD i 0 ∈ l := by
  rw [List.getD_eq_getElem?_getD, List.getElem?_eq_getElem h]; exact List.getElem_mem _
theorem seg_signs (x : Int) (i : Nat) (hi : i < 3) : ∀ c ∈ lawSeg x i, c ∈ headS ∧ c ≠ 32 := by
  have h1 := bit_cases x (8 - 3 * i)
  have h2 := bit_cases x (7 - 3 * i)
  have h3 := bit_cases x (6 - 3 * i)
  have h4 := bit_cases x (11 - i)
  intro c hc
  unfold lawSeg at hc
  rcases List.mem_append.mp hc with hc | hc
  · rcases List.mem_append.mp hc with hc | hc
    · rw [List.mem_singleton.mp hc]; rcases h1 with h | h <;> rw [h] <;> decide
    · rw [List.mem_singleton.mp hc]; rcases h2 with h | h <;> rw [h] <;> decide
  · rw [List.mem_singleton.mp hc]
    match i, hi with
    | 0, _ | 1, _ | 2, _ => rcases h3 with h | h <;> rcases h4 with h' | h' <;> rw [h, h'] <;> decide
theorem mode_signs (x : Int) : ∀ c ∈ lawMode x, c ∈ headS ∧ c ≠ 32 := by
  intro c hc
  unfold lawMode at hc
  rcases List.mem_append.mp hc with hc | hc
  · rcases List.mem_append.mp hc with hc | hc
    · rcases List.mem_append.mp hc with hc | hc
      · have : x % 3 = 0 ∨ x % 3 = 1 ∨ x % 3 = 2 := by omega
        rw [List.mem_singleton.mp hc]
        rcases this with h | h | h <;> rw [h] <;> decide
      · exact seg_signs x 0 (by decide) c hc
    · exact seg_signs x 1 (by decide) c hc
  · exact seg_signs x 2 (by decide) c hc
noncomputable def rowTail (x : Int) : List Nat := ((ups 0 (x / 3 % 5).toNat).map fun k => [[38, 60, 62, 34, 46, 10, 13].getD (x / 15 / 7 ^ k.toNat % 7).toNat 0]).flatten ++ lawTail x
noncomputable def patHead (y : Int) : List Nat := [[100, 45, 108, 63, 42].getD (y % 5).toNat 0] ++ [63, 63, 63, 63, 63, 63, 63, 63, 63]
noncomputable def patTail (y : Int) : List Nat := ((ups 0 (y / 5 % 7).toNat).map fun k => [[42, 38, 60, 62, 34, 46].getD (y / 35 / 6 ^ k.toNat % 6).toNat 0]).flatten
theorem row_parts (x : Int) : lawRow x = lawMode x ++ ([32] ++ rowTail x) := by simp [lawRow, rowTail]
theorem pat_parts (y : Int) : lawPat y = patHead y ++ ([32] ++ patTail y) := by simp [lawPat, patHead, patTail]
theorem rowTail_signs (x : Int) : ∀ d ∈ rowTail x, d ∈ rowS := by
  intro d hd
  unfold rowTail at hd
  rcases List.mem_append.mp hd with hd | hd
  · obtain ⟨l, hl, hd⟩ := List.mem_flatten.mp hd
    obtain ⟨k, _, rfl⟩ := List.mem_map.mp hl
    rw [List.mem_singleton.mp hd]
    have := getD_in (l := [38, 60, 62, 34, 46, 10, 13]) (i := (x / 15 / 7 ^ k.toNat % 7).toNat) (by simp; omega)
    have sub : ∀ c ∈ [38, 60, 62, 34, 46, 10, 13], c ∈ rowS := by decide
    exact sub _ this
  · have : x % 4 = 0 ∨ x % 4 = 1 ∨ x % 4 = 2 ∨ x % 4 = 3 := by omega
    unfold lawTail at hd
    rcases this with h | h | h | h <;> rw [h] at hd
    · cases hd
    · rw [List.mem_singleton.mp hd]; decide
    · rw [List.mem_singleton.mp hd]; decide
    · rw [List.mem_singleton.mp hd]; decide
theorem patTail_signs (y : Int) : ∀ c ∈ patTail y, c = 42 ∨ c ∈ patS := by
  intro d hd
  unfold patTail at hd
  obtain ⟨l, hl, hd⟩ := List.mem_flatten.mp hd
  obtain ⟨k, _, rfl⟩ := List.mem_map.mp hl
  rw [List.mem_singleton.mp hd]
  have := getD_in (l := [42, 38, 60, 62, 34, 46]) (i := (y / 35 / 6 ^ k.toNat % 6).toNat) (by simp; omega)
  have sub : ∀ c ∈ [42, 38, 60, 62, 34, 46], c = 42 ∨ c ∈ patS := by decide
  exact sub _ this
theorem patHead_signs (y : Int) : ∀ c ∈ patHead y, c ∈ headS := by
  have : y % 5 = 0 ∨ y % 5 = 1 ∨ y % 5 = 2 ∨ y % 5 = 3 ∨ y % 5 = 4 := by omega
  unfold patHead
  rcases this with h | h | h | h | h <;> rw [h] <;> decide
/-- the second law -/
theorem law_written {kv : KvT} (C : Code kv) (x y : Int) : fits (written kv (lawPat y)) (written kv (lawRow x)) = fits (lawPat y) (lawRow x) := by
  rw [row_parts, pat_parts]
  exact C.law (patHead_signs y) (mode_signs x) (patTail_signs y) (rowTail_signs x)

theorem runsOf_len : ∀ (ps : List Part), (runsOf ps).length ≤ ps.length + 1 ∧ ∀ r ∈ runsOf ps, r.length ≤ ps.length
  | [] => by simp [runsOf]
  | .star :: r => by
    obtain ⟨h1, h2⟩ := runsOf_len r
    simp only [runsOf, List.length_cons]
    refine ⟨by omega, fun x hx => ?_⟩
    rcases List.mem_cons.mp hx with rfl | hx
    · exact Nat.zero_le _
    · have := h2 x hx; omega
  | .text l :: r => by
    obtain ⟨h1, h2⟩ := runsOf_len r
    have hne := runsOf_ne r
    unfold runsOf
    cases q : runsOf r with
    | nil => exact absurd q hne
    | cons h t =>
      rw [q] at h1 h2
      simp only [List.length_cons] at h1 ⊢
      refine ⟨by omega, fun x hx => ?_⟩
      rcases List.mem_cons.mp hx with rfl | hx
      · have := h2 h (.head _); simp only [List.length_cons]; omega
      · have := h2 x (.tail _ hx); omega
theorem small_read (p : List Nat) (hp : p.length ≤ 200) : Small (readOf (inn p)) ∧ (inn p).length ≤ 5000 := by
  have ok := parts_okP p
  have hl := partsOf_len p
  have hs := pieces_small (partsOf p) (parts_ok p).2
  have hr := runsOf_len (partsOf p)
  unfold inn
  rw [readOf_parts _ ok]
  exact ⟨⟨runsOf_ne _, by omega, fun r h => by have := hr.2 r h; omega⟩, by omega⟩
end
section
theorem tr_for2 {P : Cx} {n : Nat} {X : XS} {B : Heap} {env : Env} {Γ : Gam} {O : Own} {R : Oc → Prop} {rest body orelse : List Stmt} {e : Expr} {pos : Pos} {x y : Str} {px py tpos : Pos} {kk₀ : Nat} {ds : List (D × D)} (I : Nat → Gam → Own → Prop) (R₁ : Oc → Prop) (once : CellsOnce env)
    (hsrc : ∀ s, St P X B env Γ O s → SrcT P n (Mut X env O) env s.heap e (ds.map fun q => [q.1, q.2])) (h0 : I 0 Γ O)
    (turn : ∀ i d Γ₁ O₁, ds[i]? = some d → I i Γ₁ O₁ → ∀ X' B', Tr P n X' B' env ((y, d.2) :: (x, d.1) :: Γ₁) O₁ body fun oc => match oc with | .next Γ' O' => I (i + 1) Γ' O' | .brk Γ' O' => R₁ (.next Γ' O') | .ret d => R₁ (.ret d))
    (done : ∀ Γ₁ O₁, I ds.length Γ₁ O₁ → Tr P n X B env Γ₁ O₁ orelse R₁)
    (next : ∀ Γ' O', R₁ (.next Γ' O') → Tr P n X B env Γ' O' rest R) (hb : ∀ Γ' O', R₁ (.brk Γ' O') → R (.brk Γ' O')) (hr : ∀ d, R₁ (.ret d) → R (.ret d))
    (hf : env.scope.kind = .function := by kernel_rfl) (hkx : env.kindOf x = some .local := by kernel_rfl) (hky : env.kindOf y = some .local := by kernel_rfl)
    (he : (assignEach [.Name x px, .Name y py] env).map (·.2) = [fun v => assign (.Name x px) env v, fun v => assign (.Name y py) env v] := by kernel_rfl)
    (hstar : (assignEach [.Name x px, .Name y py] env).findIdx? (·.1) = none := by kernel_rfl) (hl : (assignEach [.Name x px, .Name y py] env).length = 2 := by kernel_rfl)
    (hs : ∀ x, foldedSetIterable e env x = pure x := by intro _; kernel_rfl) :
    Tr P n X B env Γ O (.For (.Tuple [.Name x px, .Name y py] kk₀ tpos) e body orelse pos :: rest) R := by
  refine tr_forT (names := [x, y]) I once hsrc h0 hf (fun dl hm => ?_) hstar hl (fun i d Γ₁ O₁ hd hI X' B' => ?_) (by rw [List.length_map]; exact done) next hb hr hs
  · obtain ⟨q, _, rfl⟩ := List.mem_map.mp hm
    refine ⟨[(x, q.1), (y, q.2)], rfl, ?_, rfl⟩
    rw [he]
    exact .cons (fun M A v Q E s h => wpAny_assign_Name h) (.inl hkx) (.cons (fun M A v Q E s h => wpAny_assign_Name h) (.inl hky) .nil)
  · rw [List.getElem?_map] at hd
    obtain ⟨q, hq, rfl⟩ := Option.map_eq_some_iff.mp hd
    exact turn i q Γ₁ O₁ hq hI X' B'

noncomputable def FmV : List (Addr × List Value) → List (Int × Nat) → Prop
  | [], [] => True
  | (_, vs) :: r, (b, c) :: q => (∃ t u, vs = [.int b t, .str (Sx [c]) u]) ∧ FmV r q
  | _, _ => False
theorem FmV.length : ∀ {r : List (Addr × List Value)} {q : List (Int × Nat)}, FmV r q → r.length = q.length
  | [], [], _ => rfl
  | (_, vs) :: r, (b, c) :: q, h => by rw [List.length_cons, List.length_cons, FmV.length h.2]
  | [], (b, c) :: q, h => h.elim
  | (_, vs) :: r, [], h => h.elim
theorem FmV.get {P : Cx} : ∀ {r : List (Addr × List Value)} {q : List (Int × Nat)}, FmV r q → ∀ (i : Nat) T vals, r[i]? = some (T, vals) → ∃ d, ((q.map fun z => (D.int z.1, D.str [z.2])).map fun z => [z.1, z.2])[i]? = some d ∧ ∀ X h, Rds P X h d vals
  | [], [], _, i, T, vals, e => by simp at e
  | (a, vs) :: r, (b, c) :: q, h, i, T, vals, e => by
    cases i with
    | zero =>
      rw [List.getElem?_cons_zero] at e
      injection e with e
      injection e with e1 e2
      obtain ⟨t, u, hv⟩ := h.1
      refine ⟨[.int b, .str [c]], rfl, fun X h => ?_⟩
      rw [← e2, hv]
      exact ⟨_, _, rfl, ⟨t, rfl⟩, _, _, rfl, ⟨u, rfl⟩, rfl⟩
    | succ i => simpa using FmV.get h.2 i T vals (by simpa using e)
  | [], (b, c) :: q, h, _, _, _, _ => h.elim
  | (_, vs) :: r, [], h, _, _, _, _ => h.elim
/-- the world holds the table of the modes -/
structure Fm (P : Cx) : Prop where
  tab : ∃ (t : Addr) (items : Array Value), P.mg (Str.ofString "_filemode_table") = some (.ref t) ∧ P.W.IsTuple t items ∧ items.size = 10 ∧
    ∀ i, i < 10 → ∃ a its rows, items.getD i .none = .ref a ∧ P.W.IsTuple a its ∧ its.toList = rows.map (fun r => .ref r.1) ∧ (∀ r ∈ rows, IsTup P.W r.1 r.2.toArray) ∧ FmV rows (fmTable.getD i [])

noncomputable def fmHit (i : Nat) (mode b : Int) : Bool := if i = 0 then Builtin.bitAnd mode 61440 == b else Builtin.bitAnd mode b == b
noncomputable def fmPick (i : Nat) (mode : Int) : List (Int × Nat) → Nat
  | [] => if i = 0 then 63 else 45
  | q :: r => if fmHit i mode q.1 then q.2 else fmPick i mode r
noncomputable def fmSign (mode : Int) (i : Nat) : Nat := fmPick i mode (fmTable.getD i [])
noncomputable def fmText (mode : Int) : List Nat := (List.range 10).map (fmSign mode)
noncomputable def fmD (mode : Int) (i : Nat) : List D := ((List.range i).map fun k => [fmSign mode k]).map D.str
theorem fmD_succ (mode : Int) (i : Nat) : fmD mode (i + 1) = fmD mode i ++ [.str [fmSign mode i]] := by simp [fmD, List.range_succ]
theorem fmD_len (mode : Int) (i : Nat) : (fmD mode i).length = i := by simp [fmD]

set_option maxHeartbeats 2000000 in
theorem ifmt_cn {P : Cx} (W : Wd P) (m : Int) : Cn P 1 (Str.ofString "S_IFMT") [.int m] (.int (Builtin.bitAnd m 61440)) := by
  have e : recOf (Str.ofString "S_IFMT") = recOf (Str.ofString "S_IFMT") := rfl
  conv at e => rhs; whnf
  refine cn_of W [(Str.ofString "mode", .int m)] [Str.ofString "mode"] rfl (List.cons_ne_nil _ _) e ?_ rfl ?_ (by decide +kernel) (by decide +kernel) ?_
  · intro pm cd doc vs h; match vs, h with | [v0], _ => rfl
  · exact fun n => List.forall_mem_cons.mpr ⟨.inl (by kernel_rfl), fun _ h => nomatch h⟩
  intro X B L a cd once
  clear e
  dsimp only at once ⊢
  with_reducible refine tr_ret (d := .int (Builtin.bitAnd m 61440)) (fun s st => ev_band ?_ ?_) rfl
  · ktr_rel
  · ktr_rel

/-- the inner loop: where it stands; how it ends -/
noncomputable def FI (m : Int) (a : Addr) (i : Nat) (j : Nat) (Γ : Gam) (O : Own) : Prop :=
  Γ.lookup (Str.ofString "mode") = some (.int m) ∧ Γ.lookup (Str.ofString "perm") = some (.val (.ref a)) ∧ Γ.lookup (Str.ofString "index") = some (.int (i : Nat)) ∧ O = [(a, .list (fmD m i))] ∧ fmSign m i = fmPick i m ((fmTable.getD i []).drop j)
noncomputable def FR (m : Int) (a : Addr) (i : Nat) (oc : Oc) : Prop := ∃ Γ, oc = .next Γ [(a, .list (fmD m (i + 1)))] ∧ Γ.lookup (Str.ofString "mode") = some (.int m) ∧ Γ.lookup (Str.ofString "perm") = some (.val (.ref a))
noncomputable def FB (m : Int) (a : Addr) (i j : Nat) : Oc → Prop
  | .next Γ' O' => FI m a i (j + 1) Γ' O'
  | .brk Γ' O' => FR m a i (.next Γ' O')
  | .ret d => False
set_option maxHeartbeats 2000000 in
theorem fm_cn {P : Cx} (W : Wd P) (M : Fm P) (m : Int) : Cn P 2 (Str.ofString "filemode") [.int m] (.str (fmText m)) := by
  have e : recOf (Str.ofString "filemode") = recOf (Str.ofString "filemode") := rfl
  conv at e => rhs; whnf
  refine cn_of W [(Str.ofString "mode", .int m)] [Str.ofString "mode"] rfl (List.cons_ne_nil _ _) e ?_ rfl ?_ (by decide +kernel) (by decide +kernel) ?_
  · intro pm cd doc vs h; match vs, h with | [v0], _ => rfl
  · exact fun n => List.forall_mem_cons.mpr ⟨.inl (by kernel_rfl), fun _ h => nomatch h⟩
  intro X B L a cd once
  clear e
  dsimp only at once ⊢
  obtain ⟨t, items, hmg, hT, hz, hrows⟩ := M.tab
  with_reducible refine tr_own (ds := []) (fun s st => .nil) (by kernel_rfl) (.inl (by kernel_rfl)) (fun a => ?_)
  refine tr_for2 (ds := (List.range items.size).map fun i => (D.int (i : Nat), D.val (items.getD i .none))) (fun i Γ O => Γ.lookup (Str.ofString "mode") = some (.int m) ∧ Γ.lookup (Str.ofString "perm") = some (.val (.ref a)) ∧ O = [(a, .list (fmD m i))]) (fun oc => ∃ Γ, oc = .next Γ [(a, .list (fmD m 10))] ∧ Γ.lookup (Str.ofString "perm") = some (.val (.ref a))) once (fun s st => ?_) ⟨by k_mem, by k_mem, rfl⟩ ?_ ?_ ?_ ?_ ?_
  · rw [List.map_map]
    exact srcT_enum (ev_bltn W ⟨by kernel_rfl, by kernel_rfl, by kernel_rfl⟩ st.kW blt_enumerate) (ev_glob W.good ⟨by kernel_rfl, by kernel_rfl, by kernel_rfl⟩ st.kW (by kernel_rfl) hmg) st.kW hT
  · rintro i d Γ₁ O₁ hd ⟨h1, h2, rfl⟩ X' B'
    have hi : i < 10 := by
      rcases Nat.lt_or_ge i 10 with q | q
      · exact q
      · rw [List.getElem?_eq_none (by simpa [hz] using q)] at hd; cases hd
    obtain ⟨ai, its, rows, hai, hti, hri, hrt, hfv⟩ := hrows i hi
    have hd' : d = (D.int (i : Nat), D.val (.ref ai)) := by
      rw [List.getElem?_map, List.getElem?_range (by omega)] at hd
      injection hd with hd
      rw [← hd]; show (D.int (i : Nat), D.val (items.getD i .none)) = _; rw [hai]
    subst hd'
    dsimp only
    have hlen := fmD_len m i
    with_reducible refine tr_for2 (ds := (fmTable.getD i []).map fun z => (D.int z.1, D.str [z.2])) (FI m a i) (FR m a i) once (fun s st => ?_) ?_ ?_ ?_ ?_ ?_ ?_
    · exact srcT_tup (t := ai) (by ktr_rel) st.kW hti hri hrt (FmV.get hfv) (by rw [List.length_map, List.length_map, ← hfv.length, ← Array.length_toList, hri, List.length_map])
    · exact ⟨by k_mem, by k_mem, by k_mem, rfl, rfl⟩
    · rintro j d Γ₂ O₂ hd ⟨g1, g2, g3, rfl, g4⟩ X'' B''
      rw [List.getElem?_map] at hd
      obtain ⟨q, hq, rfl⟩ := Option.map_eq_some_iff.mp hd
      obtain ⟨b, c⟩ := q
      dsimp only
      have hdrop : (fmTable.getD i []).drop j = (b, c) :: (fmTable.getD i []).drop (j + 1) := by
        have hj : j < (fmTable.getD i []).length := by
          rcases Nat.lt_or_ge j (fmTable.getD i []).length with q | q
          · exact q
          · rw [List.getElem?_eq_none q] at hq; cases hq
        rw [List.drop_eq_getElem_cons hj]
        rw [List.getElem?_eq_getElem hj] at hq
        injection hq with hq
        rw [hq]
      rw [hdrop] at g4
      have hpick : fmSign m i = if fmHit i m b then c else fmPick i m ((fmTable.getD i []).drop (j + 1)) := by rw [g4]; rfl
      refine tr_mono (R₁ := FB m a i j) (fun oc h => by cases oc with | next _ _ => exact h | brk _ _ => exact h | ret _ => exact h.elim) ?_
      have stay : fmHit i m b = false → FB m a i j (.next ((Str.ofString "char", .str [c]) :: (Str.ofString "bit", .int b) :: Γ₂) [(a, .list (fmD m i))]) := fun h => by
        rw [h] at hpick
        exact ⟨by k_mem, by k_mem, by k_mem, rfl, hpick⟩
      with_reducible refine tr_if (b := ((i : Int) == 0)) (R₁ := FB m a i j) (fun s st => ?_) (fun h => ?_) (fun h => ?_) (fun Γ' O' h => tr_nil h) (fun Γ' O' h => h) (fun d h => h)
      · ktr_rel
      · have hi0 : i = 0 := by simpa using h
        have hh : fmHit i m b = (Builtin.bitAnd m 61440 == b) := by unfold fmHit; rw [if_pos hi0]
        with_reducible refine tr_if (b := (Builtin.bitAnd m 61440 == b)) (R₁ := FB m a i j) (fun s st => tt_cm (cm_ieq (ev_calln (n := 1) W ⟨(by kernel_rfl), (by kernel_rfl), (by kernel_rfl)⟩ st.kW (ifmt_cn W m) (.cons ?_ .nil)) ?_)) (fun h2 => ?_) (fun h2 => ?_) (fun Γ' O' h => tr_nil h) (fun Γ' O' h => h) (fun d h => h)
        · ktr_rel
        · ktr_rel
        · rw [hh, h2] at hpick
          refine tr_append (d := .str [c]) (fun s st => ?_) (fun s st => ?_) (tr_brk ?_) (by omega)
          · ktr_rel
          · ktr_rel
          · exact ⟨_, by rw [fmD_succ, hpick]; rfl, by k_mem, by k_mem⟩
        · exact tr_nil (stay (by rw [hh, h2]))
      · have hi0 : ¬ i = 0 := by simpa using h
        have hh : fmHit i m b = (Builtin.bitAnd m b == b) := by unfold fmHit; rw [if_neg hi0]
        with_reducible refine tr_if (b := (Builtin.bitAnd m b == b)) (R₁ := FB m a i j) (fun s st => tt_cm (cm_ieq (ev_band ?_ ?_) ?_)) (fun h2 => ?_) (fun h2 => ?_) (fun Γ' O' h => tr_nil h) (fun Γ' O' h => h) (fun d h => h)
        · ktr_rel
        · ktr_rel
        · ktr_rel
        · rw [hh, h2] at hpick
          refine tr_append (d := .str [c]) (fun s st => ?_) (fun s st => ?_) (tr_brk ?_) (by omega)
          · ktr_rel
          · ktr_rel
          · exact ⟨_, by rw [fmD_succ, hpick]; rfl, by k_mem, by k_mem⟩
        · exact tr_nil (stay (by rw [hh, h2]))
    · rintro Γ₂ O₂ ⟨g1, g2, g3, rfl, g4⟩
      rw [List.length_map, List.drop_length] at g4
      have g5 : fmSign m i = if i = 0 then 63 else 45 := g4
      with_reducible refine tr_if (b := ((i : Int) == 0)) (R₁ := FR m a i) (fun s st => ?_) (fun h => ?_) (fun h => ?_) (fun Γ' O' h => tr_nil h) (fun Γ' O' h => h) (fun d h => h)
      · ktr_rel
      · have hi0 : i = 0 := by simpa using h
        rw [if_pos hi0] at g5
        refine tr_append (d := .str [63]) (fun s st => ?_) (fun s st => ?_) (tr_nil ?_) (by omega)
        · ktr_rel
        · ktr_rel
        · exact ⟨_, by rw [fmD_succ, g5], by k_mem, by k_mem⟩
      · have hi0 : ¬ i = 0 := by simpa using h
        rw [if_neg hi0] at g5
        refine tr_append (d := .str [45]) (fun s st => ?_) (fun s st => ?_) (tr_nil ?_) (by omega)
        · ktr_rel
        · ktr_rel
        · exact ⟨_, by rw [fmD_succ, g5], by k_mem, by k_mem⟩
    · rintro Γ' O' ⟨Γ, e, g1, g2⟩
      cases e
      exact tr_nil ⟨g1, g2, rfl⟩
    · rintro Γ' O' ⟨Γ, e, g1, g2⟩; cases e
    · rintro d ⟨Γ, e, g1, g2⟩; cases e
  · rintro Γ₁ O₁ ⟨h1, h2, rfl⟩
    rw [List.length_map, List.length_range, hz]
    exact tr_nil ⟨Γ₁, rfl, h2⟩
  · rintro Γ' O' ⟨Γ, e, h2⟩
    cases e
    refine tr_shut h2 (tr_ret (d := .str (fmText m)) (fun s st => ?_) rfl)
    refine ev_eq (ev_join (ds := fmD m 10) (ls := (List.range 10).map fun k => [fmSign m k]) ?_ ?_ rfl ?_) ?_
    · ktr_rel
    · ktr_rel
    · simp [List.range_succ]
    · simp [fmText, List.range_succ]
  · rintro Γ' O' ⟨Γ, e, _⟩; cases e
  · rintro d ⟨Γ, e, _⟩; cases e
end
section
theorem and_self_iff (M β n : Nat) (hβ : β < 2 ^ n) : (M &&& β == β) = ((List.range n).all fun k => !β.testBit k || M.testBit k) := by
  rw [Bool.eq_iff_iff, beq_iff_eq, List.all_eq_true]
  constructor
  · intro h k _
    have := congrArg (fun z => z.testBit k) h
    simp only [Nat.testBit_and] at this
    cases q : β.testBit k with
    | false => rfl
    | true => rw [q, Bool.and_true] at this; rw [this]; rfl
  · intro h
    refine Nat.eq_of_testBit_eq fun k => ?_
    rw [Nat.testBit_and]
    by_cases hk : k < n
    · have := h k (List.mem_range.mpr hk)
      cases q : β.testBit k with
      | false => rw [Bool.and_false]
      | true => rw [q] at this; rw [Bool.and_true]; simpa using this
    · rw [Nat.testBit_lt_two_pow (Nat.lt_of_lt_of_le hβ (Nat.pow_le_pow_right (by decide) (by omega))), Bool.and_false]
theorem bitAnd_nat (M β : Nat) : Builtin.bitAnd (M : Int) (β : Int) = ((M &&& β : Nat) : Int) := by
  unfold Builtin.bitAnd
  rw [show decide (0 ≤ (M : Int)) = true by simp, show decide (0 ≤ (β : Int)) = true by simp]
  simp
theorem cast_beq (a b : Nat) : (((a : Nat) : Int) == (b : Int)) = (a == b) := by
  rw [Bool.eq_iff_iff, beq_iff_eq, beq_iff_eq]; omega
theorem hit_of {M β i : Nat} {b : Bool} (hi : i ≠ 0) (h : (M &&& β == β) = b) : fmHit i (M : Int) (β : Int) = b := by
  unfold fmHit
  rw [if_neg hi, bitAnd_nat, cast_beq, h]
theorem hit_12 {M β i : Nat} {b : Bool} (hi : i ≠ 0) (hβ : β < 2 ^ 12) (h : ∀ t : Nat → Bool, t = M.testBit → ((List.range 12).all fun k => !β.testBit k || t k) = b) : fmHit i (M : Int) (β : Int) = b :=
  hit_of hi ((and_self_iff M β 12 hβ).trans (h _ rfl))
section
variable {M : Nat}
theorem h256 : fmHit 1 M (256 : Int) = (M.testBit 8 && true) := hit_12 (β := 256) (by decide) (by decide) fun t e => by rw [← e]; rfl
theorem h128 : fmHit 2 M (128 : Int) = (M.testBit 7 && true) := hit_12 (β := 128) (by decide) (by decide) fun t e => by rw [← e]; rfl
theorem h2112 : fmHit 3 M (2112 : Int) = (M.testBit 6 && (M.testBit 11 && true)) := hit_12 (β := 2112) (by decide) (by decide) fun t e => by rw [← e]; rfl
theorem h2048 : fmHit 3 M (2048 : Int) = (M.testBit 11 && true) := hit_12 (β := 2048) (by decide) (by decide) fun t e => by rw [← e]; rfl
theorem h64 : fmHit 3 M (64 : Int) = (M.testBit 6 && true) := hit_12 (β := 64) (by decide) (by decide) fun t e => by rw [← e]; rfl
theorem h32 : fmHit 4 M (32 : Int) = (M.testBit 5 && true) := hit_12 (β := 32) (by decide) (by decide) fun t e => by rw [← e]; rfl
theorem h16 : fmHit 5 M (16 : Int) = (M.testBit 4 && true) := hit_12 (β := 16) (by decide) (by decide) fun t e => by rw [← e]; rfl
theorem h1032 : fmHit 6 M (1032 : Int) = (M.testBit 3 && (M.testBit 10 && true)) := hit_12 (β := 1032) (by decide) (by decide) fun t e => by rw [← e]; rfl
theorem h1024 : fmHit 6 M (1024 : Int) = (M.testBit 10 && true) := hit_12 (β := 1024) (by decide) (by decide) fun t e => by rw [← e]; rfl
theorem h8 : fmHit 6 M (8 : Int) = (M.testBit 3 && true) := hit_12 (β := 8) (by decide) (by decide) fun t e => by rw [← e]; rfl
theorem h4 : fmHit 7 M (4 : Int) = (M.testBit 2 && true) := hit_12 (β := 4) (by decide) (by decide) fun t e => by rw [← e]; rfl
theorem h2 : fmHit 8 M (2 : Int) = (M.testBit 1 && true) := hit_12 (β := 2) (by decide) (by decide) fun t e => by rw [← e]; rfl
theorem h513 : fmHit 9 M (513 : Int) = (M.testBit 0 && (M.testBit 9 && true)) := hit_12 (β := 513) (by decide) (by decide) fun t e => by rw [← e]; rfl
theorem h512 : fmHit 9 M (512 : Int) = (M.testBit 9 && true) := hit_12 (β := 512) (by decide) (by decide) fun t e => by rw [← e]; rfl
theorem h1 : fmHit 9 M (1 : Int) = (M.testBit 0 && true) := hit_12 (β := 1) (by decide) (by decide) fun t e => by rw [← e]; rfl
end
noncomputable def fmBase (x : Int) : Int := [16384, 32768, 40960].getD (x % 3).toNat 0
theorem top_of {q m : Nat} (hm : m < 4096) (hq : q < 16) : (2 ^ 12 * q + m) &&& 61440 = 2 ^ 12 * q := by
  refine Nat.eq_of_testBit_eq fun k => ?_
  have e1 := Nat.testBit_two_pow_mul_add (i := 12) q (b := m) hm k
  have e2 := Nat.testBit_two_pow_mul_add (i := 12) q (b := 0) (by decide) k
  have e3 := Nat.testBit_two_pow_mul_add (i := 12) 15 (b := 0) (by decide) k
  rw [Nat.add_zero] at e2
  rw [show 2 ^ 12 * 15 + 0 = 61440 by decide] at e3
  rw [Nat.testBit_and, e1, e2, e3]
  split
  · simp
  · by_cases hk : k - 12 < 4
    · generalize k - 12 = j at *
      match j, hk with
      | 0, _ | 1, _ | 2, _ | 3, _ => simp [show Nat.testBit 15 0 = true by decide, show Nat.testBit 15 1 = true by decide, show Nat.testBit 15 2 = true by decide, show Nat.testBit 15 3 = true by decide]
    · rw [Nat.testBit_lt_two_pow (x := q) (Nat.lt_of_lt_of_le hq (show 2 ^ 4 ≤ 2 ^ (k - 12) from Nat.pow_le_pow_right (by decide) (by omega)))]; rfl
theorem base_cases (x : Int) : (x % 3 = 0 ∧ fmBase x = 16384) ∨ (x % 3 = 1 ∧ fmBase x = 32768) ∨ (x % 3 = 2 ∧ fmBase x = 40960) := by
  have : x % 3 = 0 ∨ x % 3 = 1 ∨ x % 3 = 2 := by omega
  unfold fmBase
  rcases this with h | h | h <;> rw [h]
  · exact .inl ⟨rfl, rfl⟩
  · exact .inr (.inl ⟨rfl, rfl⟩)
  · exact .inr (.inr ⟨rfl, rfl⟩)
theorem low_bit (x : Int) (q k : Nat) (hk : k < 12) : (2 ^ 12 * q + (x / 15 % 4096).toNat).testBit k = (bit x k == 1) := by
  have hm : (x / 15 % 4096).toNat < 2 ^ 12 := by omega
  rw [Nat.testBit_two_pow_mul_add (i := 12) q hm k, if_pos hk, Nat.testBit_eq_decide_div_mod_eq]
  unfold bit
  rw [Bool.eq_iff_iff, decide_eq_true_eq, beq_iff_eq]
  match k, hk with
  | 0, _ | 1, _ | 2, _ | 3, _ | 4, _ | 5, _ | 6, _ | 7, _ | 8, _ | 9, _ | 10, _ | 11, _ => omega
theorem sign0 {m : Nat} (hm : m < 4096) (q : Nat) (hq : q < 16) : fmSign ((2 ^ 12 * q + m : Nat) : Int) 0 = fmPick 0 ((2 ^ 12 * q : Nat) : Int) (fmTable.getD 0 []) := by
  have e1 : Builtin.bitAnd ((2 ^ 12 * q + m : Nat) : Int) 61440 = ((2 ^ 12 * q : Nat) : Int) := (bitAnd_nat _ 61440).trans (by rw [top_of hm hq])
  have e2 : Builtin.bitAnd ((2 ^ 12 * q : Nat) : Int) 61440 = ((2 ^ 12 * q : Nat) : Int) := (bitAnd_nat _ 61440).trans (by have := top_of (m := 0) (by decide) hq; rw [Nat.add_zero] at this; rw [this])
  have key : ∀ l, fmPick 0 ((2 ^ 12 * q + m : Nat) : Int) l = fmPick 0 ((2 ^ 12 * q : Nat) : Int) l := fun l => by
    induction l with
    | nil => rfl
    | cons a r ih =>
      have : fmHit 0 ((2 ^ 12 * q + m : Nat) : Int) a.1 = fmHit 0 ((2 ^ 12 * q : Nat) : Int) a.1 := by unfold fmHit; rw [if_pos rfl, if_pos rfl, e1, e2]
      unfold fmPick
      rw [this, ih]
  exact key _
theorem law_mode_q (x : Int) (q : Nat) (hq : q < 16) (h0 : fmPick 0 ((2 ^ 12 * q : Nat) : Int) (fmTable.getD 0 []) = [100, 45, 108].getD (x % 3).toNat 0) : fmText ((2 ^ 12 * q + (x / 15 % 4096).toNat : Nat) : Int) = lawMode x := by
  have hm : (x / 15 % 4096).toNat < 4096 := by omega
  have s0 := (sign0 hm q hq).trans h0
  have lb := low_bit x q
  generalize (2 ^ 12 * q + (x / 15 % 4096).toNat : Nat) = M at s0 lb ⊢
  have p1 : ∀ (i : Nat) (b : Int) (c : Nat) (k : Nat), i ≠ 0 → k < 12 → fmHit i M b = (M.testBit k && true) → fmPick i M [(b, c)] = [45, c].getD (bit x k).toNat 0 := fun i b c k hi hk h => by
    show (if fmHit i M b = true then c else if i = 0 then 63 else 45) = _
    rw [h, lb k hk, if_neg hi]
    rcases bit_cases x k with e | e <;> rw [e] <;> rfl
  have p3 : ∀ (i : Nat) (b₁ b₂ b₃ : Int) (c₁ c₂ c₃ : Nat) (k l : Nat), i ≠ 0 → k < 12 → l < 12 → fmHit i M b₁ = (M.testBit k && (M.testBit l && true)) → fmHit i M b₂ = (M.testBit l && true) → fmHit i M b₃ = (M.testBit k && true) →
      fmPick i M [(b₁, c₁), (b₂, c₂), (b₃, c₃)] = [45, c₃, c₂, c₁].getD (bit x k + 2 * bit x l).toNat 0 := fun i b₁ b₂ b₃ c₁ c₂ c₃ k l hi hk hl g1 g2 g3 => by
    show (if fmHit i M b₁ = true then c₁ else if fmHit i M b₂ = true then c₂ else if fmHit i M b₃ = true then c₃ else if i = 0 then 63 else 45) = _
    rw [g1, g2, g3, lb k hk, lb l hl, if_neg hi]
    rcases bit_cases x k with e | e <;> rcases bit_cases x l with e' | e' <;> rw [e, e'] <;> rfl
  have s1 : fmSign M 1 = _ := p1 1 256 114 8 (by decide) (by decide) h256
  have s2 : fmSign M 2 = _ := p1 2 128 119 7 (by decide) (by decide) h128
  have s3 : fmSign M 3 = _ := p3 3 2112 2048 64 115 83 120 6 11 (by decide) (by decide) (by decide) h2112 h2048 h64
  have s4 : fmSign M 4 = _ := p1 4 32 114 5 (by decide) (by decide) h32
  have s5 : fmSign M 5 = _ := p1 5 16 119 4 (by decide) (by decide) h16
  have s6 : fmSign M 6 = _ := p3 6 1032 1024 8 115 83 120 3 10 (by decide) (by decide) (by decide) h1032 h1024 h8
  have s7 : fmSign M 7 = _ := p1 7 4 114 2 (by decide) (by decide) h4
  have s8 : fmSign M 8 = _ := p1 8 2 119 1 (by decide) (by decide) h2
  have s9 : fmSign M 9 = _ := p3 9 513 512 1 116 84 120 0 9 (by decide) (by decide) (by decide) h513 h512 h1
  show [fmSign M 0, fmSign M 1, fmSign M 2, fmSign M 3, fmSign M 4, fmSign M 5, fmSign M 6, fmSign M 7, fmSign M 8, fmSign M 9] = _
  rw [s0, s1, s2, s3, s4, s5, s6, s7, s8, s9]
  rfl
/-- filemode writes what the law asks for -/
theorem law_mode (x : Int) : fmText (fmBase x + x / 15 % 4096) = lawMode x := by
  have hm : x / 15 % 4096 = ((x / 15 % 4096).toNat : Int) := by omega
  rcases base_cases x with ⟨h, e⟩ | ⟨h, e⟩ | ⟨h, e⟩
  · have := law_mode_q x 4 (by decide) (by rw [h]; decide +kernel)
    rw [← this, e]; congr 1; omega
  · have := law_mode_q x 8 (by decide) (by rw [h]; decide +kernel)
    rw [← this, e]; congr 1; omega
  · have := law_mode_q x 10 (by decide) (by rw [h]; decide +kernel)
    rw [← this, e]; congr 1; omega
end
section
theorem look_eq {x : Str} {d d' : D} {Γ : Gam} (h : Γ.lookup x = some d) (e : d = d') : Γ.lookup x = some d' := e ▸ h
/-- what the law builds -/
noncomputable def lawNums (ns : List Int) : List Int := ns.take 2 ++ [3055, 5901, 7369, 4154]
noncomputable def lawPats (ns : List Int) : List Int := (ns.drop 2).take 1 ++ [46, 8639]
theorem take2 (ns : List Int) : ((ns.map D.int).drop (kms_lo none (ns.map D.int).length)).take (kms_hi (some 2) (ns.map D.int).length - kms_lo none (ns.map D.int).length) = (ns.take 2).map D.int := by
  have : kms_hi (some 2) (ns.map D.int).length - kms_lo none (ns.map D.int).length = min 2 ns.length := by simp [kms_lo, kms_hi]
  rw [this, show kms_lo none (ns.map D.int).length = 0 from rfl, List.drop_zero, ← List.map_take]
  congr 1
  rcases Nat.le_total 2 ns.length with h | h
  · rw [Nat.min_eq_left h]
  · rw [Nat.min_eq_right h, List.take_of_length_le (Nat.le_refl _), List.take_of_length_le h]
theorem take1 (ns : List Int) : ((ns.map D.int).drop (kms_lo (some 2) (ns.map D.int).length)).take (kms_hi (some 3) (ns.map D.int).length - kms_lo (some 2) (ns.map D.int).length) = ((ns.drop 2).take 1).map D.int := by
  have e1 : kms_lo (some 2) (ns.map D.int).length = min 2 ns.length := by simp [kms_lo]
  have e2 : kms_hi (some 3) (ns.map D.int).length = min 3 ns.length := by simp [kms_hi]
  rw [e1, e2, ← List.map_drop, ← List.map_take]
  congr 1
  rcases Nat.lt_or_ge 2 ns.length with h | h
  · rw [Nat.min_eq_left (by omega), Nat.min_eq_left (by omega)]
  · rw [List.drop_eq_nil_of_le h, List.drop_eq_nil_of_le (by omega)]; simp
theorem look_val : ∀ {kv : KvT} {c z : List Nat}, kv.lookup c = some z → ∃ p ∈ kv, p.2 = z
  | [], c, z, q => by cases q
  | a :: r, c, z, q => by
    rw [List.lookup_cons] at q
    split at q
    · injection q with q; exact ⟨a, .head _, q⟩
    · obtain ⟨p, hp, e⟩ := look_val q; exact ⟨p, .tail _ hp, e⟩
theorem esc_writ (steps : List (Nat × List Nat)) (kv : KvT) (hk : (kv.all fun p => steps.any fun s => p.1 == [s.1]) = true) (h : (steps.all fun p => esc steps [p.1] == (kv.lookup [p.1]).getD [p.1]) = true) (l : List Nat) : esc steps l = written kv l := by
  rw [esc_flat]
  unfold written
  congr 1
  refine List.map_congr_left fun d _ => ?_
  by_cases q : d ∈ steps.map (·.1)
  · obtain ⟨p, hp, rfl⟩ := List.mem_map.mp q
    exact eq_of_beq (List.all_eq_true.mp h p hp)
  · rw [esc_other steps d q]
    have : kv.lookup [d] = none := by
      rw [List.lookup_eq_none_iff]
      intro p hp
      obtain ⟨s, hs, e⟩ := List.any_eq_true.mp (List.all_eq_true.mp hk p hp)
      rw [beq_iff_eq] at e
      rw [e]
      simp only [bne_iff_ne, ne_eq, List.cons.injEq, and_true]
      rintro rfl
      exact q (List.mem_map_of_mem hs)
    rw [this]; rfl
theorem written_len {kv : KvT} (h : ∀ p ∈ kv, p.2.length ≤ 6) (l : List Nat) : (written kv l).length ≤ 6 * l.length := by
  induction l with
  | nil => simp [wr_nil]
  | cons c l ih =>
    have : (wr1 kv c).length ≤ 6 := by
      unfold wr1
      cases q : kv.lookup [c] with
      | none => simp
      | some z =>
        obtain ⟨p, hp, e⟩ : ∃ p ∈ kv, p.2 = z := look_val q
        rw [← e]; exact h p hp
    rw [wr_cons, List.length_append, List.length_cons]; omega
theorem row_len (x : Int) : (lawRow x).length ≤ 20 := by
  rw [row_parts]
  have h1 := mode_len x
  have h2 := tail_len x
  have hc := flat_ones (f := fun k => [38, 60, 62, 34, 46, 10, 13].getD (x / 15 / 7 ^ k.toNat % 7).toNat 0) (ups 0 (x / 3 % 5).toNat)
  rw [ups_length] at hc
  unfold rowTail
  simp only [List.length_append, List.length_cons, List.length_nil]
  omega
theorem pat_len (y : Int) : (lawPat y).length ≤ 20 := by
  rw [pat_parts]
  have hc := flat_ones (f := fun k => [42, 38, 60, 62, 34, 46].getD (y / 35 / 6 ^ k.toNat % 6).toNat 0) (ups 0 (y / 5 % 7).toNat)
  rw [ups_length] at hc
  unfold patTail patHead
  simp only [List.length_append, List.length_cons, List.length_nil]
  omega
/-- no bracket is written -/
theorem pat_free (y : Int) : ∀ c ∈ lawPat y, c ≠ 91 := by
  intro c hc
  rw [pat_parts] at hc
  rcases List.mem_append.mp hc with h | h
  · have := patHead_signs y c h; rintro rfl; revert this; decide
  rcases List.mem_append.mp h with h | h
  · rw [List.mem_singleton.mp h]; decide
  · have := patTail_signs y c h; rintro rfl; revert this; decide
theorem wr_free {kv : KvT} (h : ∀ p ∈ kv, 91 ∉ p.2) {l : List Nat} (hl : ∀ c ∈ l, c ≠ 91) : ∀ c ∈ written kv l, c ≠ 91 := by
  induction l with
  | nil => intro c hc; rw [wr_nil] at hc; cases hc
  | cons d l ih =>
    intro c hc
    rw [wr_cons] at hc
    rcases List.mem_append.mp hc with hc | hc
    · unfold wr1 at hc
      cases q : kv.lookup [d] with
      | none => rw [q] at hc; rw [List.mem_singleton.mp hc]; exact hl d (.head _)
      | some z =>
        rw [q] at hc
        have hc : c ∈ z := hc
        rintro rfl
        have : ∃ p ∈ kv, p.2 = z := by
          exact look_val q
        obtain ⟨p, hp, rfl⟩ := this
        exact h p hp hc
    · exact ih (fun c hc => hl c (.tail _ hc)) c hc
/-- a table with its writer: all that is asked comes out -/
theorem right_of {P : Cx} (W : Wd P) (S : Sp P) {kv : KvT} (C : Code kv) (h6 : ∀ p ∈ kv, p.2.length ≤ 6 ∧ 91 ∉ p.2) {wn : Str} {wa : Addr} (hwa : P.mg wn = some (.ref wa)) (hw : ∀ l : List Nat, l.length ≤ 1000 → Cn P 1 wn [.str l] (.str (written kv l)))
    (xs ys : List Int) (hx : xs.length ≤ 100) (hy : ys.length ≤ 100) :
    Cn P 4 (Str.ofString "_law_right") [.val (.ref wa), .dict kv, .list ((xs.map lawRow).map D.str), .list ((ys.map lawPat).map D.str)] (.bool true) := by
  have wl : ∀ l, (written kv l).length ≤ 6 * l.length := written_len fun p hp => (h6 p hp).1
  refine right_cn W inn wa kv (xs.map lawRow) (ys.map lawPat) (by rw [List.length_map]; omega) (by rw [List.length_map]; omega) ?_ ?_ ?_ ?_ ?_ ?_
  · intro r hr
    obtain ⟨x, _, rfl⟩ := List.mem_map.mp hr
    have := row_len x; have := wl (lawRow x); omega
  · intro r hr
    obtain ⟨y, _, rfl⟩ := List.mem_map.mp hr
    have := pat_len y; have := wl (lawPat y); omega
  · intro r hr
    have : r.length ≤ 1000 := by
      rcases List.mem_append.mp hr with h | h
      · obtain ⟨x, _, rfl⟩ := List.mem_map.mp h; have := row_len x; omega
      · obtain ⟨x, _, rfl⟩ := List.mem_map.mp h; have := pat_len x; omega
    obtain ⟨a, e, c⟩ := (hw r this).le (show 1 ≤ 3 by omega)
    rw [hwa] at e
    injection e with e; injection e with e
    rw [e]; exact c
  · intro p hp
    obtain ⟨y, _, rfl⟩ := List.mem_map.mp hp
    have l1 := pat_len y
    have l2 := wl (lawPat y)
    have f1 := pat_free y
    have s1 := small_read (lawPat y) (by omega)
    have s2 := small_read (written kv (lawPat y)) (by omega)
    exact ⟨translate_cn W S _ (by omega) f1, translate_cn W S _ (by omega) (wr_free (fun p hp => (h6 p hp).2) f1), s1.2, s2.2, s1.1, s2.1⟩
  · intro p hp r hr
    exact law_takes p r
  · intro p hp r hr
    obtain ⟨y, _, rfl⟩ := List.mem_map.mp hp
    obtain ⟨x, _, rfl⟩ := List.mem_map.mp hr
    rw [law_takes, law_written C]
theorem addr_of {P : Cx} {n : Nat} {x : Str} {ds : List D} {d : D} (c : Cn P n x ds d) : ∃ a, P.mg x = some (.ref a) := let ⟨a, h, _⟩ := c; ⟨a, h⟩
theorem w_A0 {P : Cx} (W : Wd P) (l : List Nat) (hl : l.length ≤ 1000) : Cn P 1 (Str.ofString "_escape_attrib") [.str l] (.str (written tabA0 l)) := by
  rw [← esc_writ attrib tabA0 (by decide +kernel) (by decide +kernel)]; exact attrib_cn W l hl
theorem w_C0 {P : Cx} (W : Wd P) (l : List Nat) (hl : l.length ≤ 1000) : Cn P 1 (Str.ofString "_escape_cdata") [.str l] (.str (written tabC0 l)) := by
  rw [← esc_writ cdata tabC0 (by decide +kernel) (by decide +kernel)]; exact cdata_cn W l hl
theorem w_A1 {P : Cx} (W : Wd P) (l : List Nat) (hl : l.length ≤ 1000) : Cn P 1 (Str.ofString "_escape_attrib_c14n") [.str l] (.str (written tabA1 l)) := by
  rw [← esc_writ attribC tabA1 (by decide +kernel) (by decide +kernel)]; exact attribC_cn W l hl
theorem w_C1 {P : Cx} (W : Wd P) (l : List Nat) (hl : l.length ≤ 1000) : Cn P 1 (Str.ofString "_escape_cdata_c14n") [.str l] (.str (written tabC1 l)) := by
  rw [← esc_writ cdataC tabC1 (by decide +kernel) (by decide +kernel)]; exact cdataC_cn W l hl
/-- the writers and their tables, for an even and for an odd sum -/
theorem law_pair {P : Cx} (W : Wd P) (S : Sp P) (odd : Int) (ho : odd = 0 ∨ odd = 1) : ∃ (a0 c0 a1 c1 wa wc : Addr) (ka kc : KvT),
    P.mg (Str.ofString "_escape_attrib") = some (.ref a0) ∧ P.mg (Str.ofString "_escape_cdata") = some (.ref c0) ∧ P.mg (Str.ofString "_escape_attrib_c14n") = some (.ref a1) ∧ P.mg (Str.ofString "_escape_cdata_c14n") = some (.ref c1) ∧
    ([.list [.val (.ref a0), .val (.ref c0)], .list [.val (.ref a1), .val (.ref c1)]] : List D)[odd.toNat]? = some (.list [.val (.ref wa), .val (.ref wc)]) ∧
    Cn P 1 (Str.ofString "_law_tables") [.int odd] (.list [.dict ka, .dict kc]) ∧
    ∀ (xs ys : List Int), xs.length ≤ 100 → ys.length ≤ 100 → Cn P 4 (Str.ofString "_law_right") [.val (.ref wa), .dict ka, .list ((xs.map lawRow).map D.str), .list ((ys.map lawPat).map D.str)] (.bool true) ∧ Cn P 4 (Str.ofString "_law_right") [.val (.ref wc), .dict kc, .list ((xs.map lawRow).map D.str), .list ((ys.map lawPat).map D.str)] (.bool true) := by
  obtain ⟨a0, ha0⟩ := addr_of (w_A0 W [] (by decide))
  obtain ⟨c0, hc0⟩ := addr_of (w_C0 W [] (by decide))
  obtain ⟨a1, ha1⟩ := addr_of (w_A1 W [] (by decide))
  obtain ⟨c1, hc1⟩ := addr_of (w_C1 W [] (by decide))
  rcases ho with rfl | rfl
  · exact ⟨a0, c0, a1, c1, a0, c0, tabA0, tabC0, ha0, hc0, ha1, hc1, rfl, tables0_cn W, fun xs ys hx hy => ⟨right_of W S codeA0 (by decide +kernel) ha0 (w_A0 W) xs ys hx hy, right_of W S codeC0 (by decide +kernel) hc0 (w_C0 W) xs ys hx hy⟩⟩
  · exact ⟨a0, c0, a1, c1, a1, c1, tabA1, tabC1, ha0, hc0, ha1, hc1, rfl, tables1_cn W, fun xs ys hx hy => ⟨right_of W S codeA1 (by decide +kernel) ha1 (w_A1 W) xs ys hx hy, right_of W S codeC1 (by decide +kernel) hc1 (w_C1 W) xs ys hx hy⟩⟩
theorem ints_flat {ns : List Int} (g : Int → Int) : (ns.map fun k => D.int (g k)) = (ns.map g).map D.int := by rw [List.map_map]; rfl
theorem strs_flat {ns : List Int} (g : Int → List Nat) : (ns.map fun k => D.str (g k)) = (ns.map g).map D.str := by rw [List.map_map]; rfl
theorem base_get (x : Int) : ([.int 16384, .int 32768, .int 40960] : List D)[(x % 3).toNat]? = some (.int (fmBase x)) := by
  rcases base_cases x with ⟨h, e⟩ | ⟨h, e⟩ | ⟨h, e⟩ <;> rw [h, e] <;> rfl
theorem nil_filter {l : List Int} : l.filter (fun _ => false) = [] := List.filter_eq_nil_iff.mpr fun _ _ => by decide

set_option maxHeartbeats 2000000 in
theorem law_cn {P : Cx} (W : Wd P) (S : Sp P) (M : Fm P) (ns : List Int) (hn : ns.length ≤ 63) : Cn P 5 (Str.ofString "law") [.list (ns.map D.int)] (.bool true) := by
  have e : recOf (Str.ofString "law") = recOf (Str.ofString "law") := rfl
  conv at e => rhs; whnf
  refine cn_of W [(Str.ofString "script", .list (ns.map D.int))] [Str.ofString "script"] rfl (List.cons_ne_nil _ _) e ?_ rfl ?_ (by decide +kernel) (by decide +kernel) ?_
  · intro pm cd doc vs h; match vs, h with | [v0], _ => rfl
  · exact fun n => List.forall_mem_cons.mpr ⟨.inl (by kernel_rfl), fun _ h => nomatch h⟩
  intro X B L a cd once
  clear e
  dsimp only at once ⊢
  have hnl : (lawNums ns).length ≤ 10 := by unfold lawNums; simp only [List.length_append, List.length_take, List.length_cons, List.length_nil]; omega
  have hpl : (lawPats ns).length ≤ 10 := by unfold lawPats; simp only [List.length_append, List.length_take, List.length_cons, List.length_nil]; omega
  have hsl : (ns.map D.int).length ≤ 1000000 := by rw [List.length_map]; omega
  have he1 : (ns.take 2).map D.int ++ [D.int 3055, .int 5901, .int 7369, .int 4154] = (lawNums ns).map D.int := by unfold lawNums; rw [List.map_append]; rfl
  have he2 : ((ns.drop 2).take 1).map D.int ++ [D.int 46, .int 8639] = (lawPats ns).map D.int := by unfold lawPats; rw [List.map_append]; rfl
  with_reducible refine tr_setL (d := .list ((lawNums ns).map D.int)) (fun s st => ev_eq (ev_lcat (ds := (ns.take 2).map D.int) (es := [.int 3055, .int 5901, .int 7369, .int 4154]) (ev_lslice (ds := ns.map D.int) (i := none) (j := some 2) ?_ ?_ ?_ ?_ ?_) (ev_list (.cons ?_ (.cons ?_ (.cons ?_ (.cons ?_ .nil))))) ?_) ?_) ?_
  · ktr_rel
  · exact trivial
  · exact ev_int
  · exact hsl
  · exact take2 ns
  iterate 4 ktr_rel
  · rw [List.length_map, List.length_take]; simp only [List.length_cons, List.length_nil]; omega
  · rw [he1]
  generalize lawNums ns = xs at hnl
  have hb : (xs.map lawMode != xs.map lawMode) = false := bne_self_eq_false _
  with_reducible refine tr_if (b := false) (R₁ := fun oc => oc = .next [(Str.ofString "numbers", .list (xs.map D.int)), (Str.ofString "script", .list (ns.map D.int))] []) (fun s st => tt_eq (tt_cm (cm_Sne (ds := (xs.map lawMode).map D.str) (es := (xs.map lawMode).map D.str) (ns := xs.map lawMode) (ms := xs.map lawMode) (ev_eq (ev_compI (ns := xs) (q := fun _ => true) (g := fun k => .str (lawMode k)) (src_list ?_) ?_ (fun k hk C h' kk V => tts_nil) (fun k => flat_str) (fun k hk _ C h' kk V => ev_eq (ev_calln W ⟨(by kernel_rfl), (by kernel_rfl), (by kernel_rfl)⟩ (st.kW.trans kk) ((fm_cn W M (fmBase k + k / 15 % 4096)).le (by omega)) (.cons (ev_add (ev_item (ds := [.int 16384, .int 32768, .int 40960]) (i := k % 3) (ev_list (.cons ?_ (.cons ?_ (.cons ?_ .nil)))) ?_ ?_ (base_get k) ?_) ?_) .nil)) ?_)) ?_) (ev_eq (ev_compI (ns := xs) (q := fun _ => true) (g := fun k => .str (lawMode k)) (src_list ?_) ?_ (fun k hk C h' kk V => tts_nil) (fun k => flat_str) (fun k hk _ C h' kk V => ev_calln W ⟨(by kernel_rfl), (by kernel_rfl), (by kernel_rfl)⟩ (st.kW.trans kk) ((mode_cn W k).le (by omega)) (.cons ?_ .nil))) ?_) rfl rfl)) hb) (fun h => ?_) (fun h => tr_nil rfl) ?_ ?_ ?_
  · ktr_rel
  · omega
  iterate 4 ktr_rel
  · omega
  · decide
  · ktr_rel
  · rw [law_mode]
  · rw [all_filter, strs_flat]
  · ktr_rel
  · omega
  · ktr_rel
  · rw [all_filter, strs_flat]
  · cases h
  rotate_left
  · rintro Γ' O' e; cases e
  · rintro d e; cases e
  rintro Γ' O' e
  cases e
  generalize hys : lawPats ns = ys at hpl he2
  with_reducible refine tr_tup (ps := [(Str.ofString "rows", .list ((xs.map lawRow).map D.str)), (Str.ofString "patterns", .list ((ys.map lawPat).map D.str))]) (fun s st => ev_tup (.cons (ev_eq (ev_compI (ns := xs) (q := fun _ => true) (g := fun k => .str (lawRow k)) (src_list ?_) ?_ (fun k hk C h' kk V => tts_nil) (fun k => flat_str) (fun k hk _ C h' kk V => ev_calln W ⟨(by kernel_rfl), (by kernel_rfl), (by kernel_rfl)⟩ (st.kW.trans kk) ((row_cn W k).le (by omega)) (.cons ?_ .nil))) ?_) (.cons (ev_eq (ev_compI (ns := ys) (q := fun _ => true) (g := fun k => .str (lawPat k)) (src_list (ev_eq (ev_lcat (ds := ((ns.drop 2).take 1).map D.int) (es := [.int 46, .int 8639]) (ev_lslice (ds := ns.map D.int) (i := some 2) (j := some 3) ?_ ?_ ?_ ?_ ?_) (ev_list (.cons ?_ (.cons ?_ .nil))) ?_) ?_)) ?_ (fun k hk C h' kk V => tts_nil) (fun k => flat_str) (fun k hk _ C h' kk V => ev_calln W ⟨(by kernel_rfl), (by kernel_rfl), (by kernel_rfl)⟩ (st.kW.trans kk) ((pat_cn W k).le (by omega)) (.cons ?_ .nil))) ?_) .nil))) (by kernel_rfl) ?_ ?_
  · ktr_rel
  · omega
  · ktr_rel
  · rw [all_filter, strs_flat]
  · ktr_rel
  · exact ev_int
  · exact ev_int
  · exact hsl
  · exact take1 ns
  · ktr_rel
  · ktr_rel
  · rw [List.length_map, List.length_take]; simp only [List.length_cons, List.length_nil]; omega
  · rw [he2]
  · omega
  · ktr_rel
  · rw [all_filter, strs_flat]
  · exact .cons (fun M A v Q E s h => wpAny_assign_Name h) (.inr ⟨by kernel_rfl, Option.isSome_iff_exists.mp (by kernel_rfl)⟩) (.cons (fun M A v Q E s h => wpAny_assign_Name h) (.inr ⟨by kernel_rfl, Option.isSome_iff_exists.mp (by kernel_rfl)⟩) .nil)
  show Tr P 4 X B _ ((Str.ofString "patterns", .list ((ys.map lawPat).map D.str)) :: (Str.ofString "rows", .list ((xs.map lawRow).map D.str)) :: (Str.ofString "numbers", .list (xs.map D.int)) :: (Str.ofString "script", .list (ns.map D.int)) :: []) _ _ _
  have hodd : (ns.take 2).sum % 2 = 0 ∨ (ns.take 2).sum % 2 = 1 := by omega
  with_reducible refine tr_setC (d := .int ((ns.take 2).sum % 2)) (fun s st => ev_mod (ev_sum (ns := ns.take 2) ?_ (ev_lslice (ds := ns.map D.int) (i := none) (j := some 2) ?_ ?_ ?_ ?_ ?_)) ?_ ?_) ?_
  · ktr_rel
  · ktr_rel
  · exact trivial
  · exact ev_int
  · exact hsl
  · exact take2 ns
  · ktr_rel
  · decide
  generalize (ns.take 2).sum % 2 = odd at hodd
  obtain ⟨a0, c0, a1, c1, wa, wc, ka, kc, m1, m2, m3, m4, hpick, htab, hright⟩ := law_pair W S odd hodd
  obtain ⟨r1, r2⟩ := hright xs ys (by omega) (by omega)
  have g := W.good
  with_reducible refine tr_setC (d := .list [.val (.ref wa), .val (.ref wc)]) (fun s st => ev_item (ds := [.list [.val (.ref a0), .val (.ref c0)], .list [.val (.ref a1), .val (.ref c1)]]) (i := odd) (ev_list (.cons (ev_list (.cons ?_ (.cons ?_ .nil))) (.cons (ev_list (.cons ?_ (.cons ?_ .nil))) .nil))) ?_ ?_ hpick ?_) ?_
  · exact ev_glob g ⟨by kernel_rfl, by kernel_rfl, by kernel_rfl⟩ st.kW (by kernel_rfl) m1
  · exact ev_glob g ⟨by kernel_rfl, by kernel_rfl, by kernel_rfl⟩ st.kW (by kernel_rfl) m2
  · exact ev_glob g ⟨by kernel_rfl, by kernel_rfl, by kernel_rfl⟩ st.kW (by kernel_rfl) m3
  · exact ev_glob g ⟨by kernel_rfl, by kernel_rfl, by kernel_rfl⟩ st.kW (by kernel_rfl) m4
  · ktr_rel
  · omega
  · simp
  generalize (xs.map lawRow).map D.str = rows at r1 r2
  generalize (ys.map lawPat).map D.str = pats at r1 r2
  have h01 : ∀ k ∈ ups 0 2, k = 0 ∨ k = 1 := fun k hk => by have := mem_ups hk; omega
  have hpickk : ∀ k ∈ ups 0 2, ∃ (w : Addr) (kv : KvT), ([.val (.ref wa), .val (.ref wc)] : List D)[k.toNat]? = some (.val (.ref w)) ∧ ([.dict ka, .dict kc] : List D)[k.toNat]? = some (.dict kv) ∧ Cn P 4 (Str.ofString "_law_right") [.val (.ref w), .dict kv, .list rows, .list pats] (.bool true) ∧ 0 ≤ k := fun k hk => by
    rcases h01 k hk with rfl | rfl
    · exact ⟨wa, ka, rfl, rfl, r1, by decide⟩
    · exact ⟨wc, kc, rfl, rfl, r2, by decide⟩
  with_reducible refine tr_ret (d := .bool true) (fun s st => ev_eq (ev_cm (cm_Leq (ds := ([] : List Int).map D.int) (es := ([] : List Int).map D.int) (ns := []) (ms := []) (ev_eq (ev_compI (ns := ups 0 2) (q := fun _ => false) (g := D.int) (src_up (j := 0) (k := 2) (r := 2) ?_ ?_ ?_ ?_) ?_ (fun k hk C h' kk V => ?_) (fun k => flat_int) (fun k hk h9 C h' kk V => ?_)) ?_) (ev_list .nil) rfl rfl)) ?_) rfl
  · ktr_rel
  · rfl
  · decide
  · decide
  · rw [ups_length]; decide
  · obtain ⟨w, kv, p1, p2, p3, p4⟩ := hpickk k hk
    refine tts_one (tt_eq (tt_not (tt_bool (ev_calln W ⟨(by kernel_rfl), (by kernel_rfl), (by kernel_rfl)⟩ (st.kW.trans kk) p3 (.cons (ev_item (ds := [.val (.ref wa), .val (.ref wc)]) (i := k) ?_ ?_ p4 p1 ?_) (.cons (ev_item (ds := [.dict ka, .dict kc]) (i := k) (ev_calln W ⟨(by kernel_rfl), (by kernel_rfl), (by kernel_rfl)⟩ (st.kW.trans kk) (htab.le (by omega)) (.cons ?_ .nil)) ?_ p4 p2 ?_) (.cons ?_ (.cons ?_ .nil))))))) rfl)
    · ktr_rel
    · ktr_rel
    · simp
    · ktr_rel
    · ktr_rel
    · simp
    · ktr_rel
    · ktr_rel
  · cases h9
  · rw [nil_filter]
  · rfl
end
section
theorem spE_one {e : DictEntry} {r : List DictEntry} {c : Nat} {cs : List Nat} (h : spE (e :: r) (c :: cs) = true) : ∃ t u, e = ⟨hashInt c, .int c t, .str (Sx [92, c]) u⟩ ∧ spE r cs = true := by
  unfold spE at h
  split at h
  · rename_i h1 h2; cases h1
  · rename_i hash k t x u r' c' cs' h1 h2
    cases h1; cases h2
    simp only [Bool.and_eq_true, beq_iff_eq] at h
    obtain ⟨⟨⟨a, b⟩, d⟩, e⟩ := h
    subst b; subst d; subst a
    exact ⟨t, u, rfl, e⟩
  · cases h
theorem spE_keys {prog : Program} {w : World} : ∀ {es : List DictEntry} {cs : List Nat}, spE es cs = true → ∀ e ∈ es, ∃ k, (intKind prog w).is k e.key = true ∧ e.hash = (intKind prog w).hash k
  | [], cs, h, e, he => by cases he
  | e :: r, [], h, _, _ => by simp [spE] at h
  | e :: r, c :: cs, h, e', he => by
    obtain ⟨t, u, rfl, h'⟩ := spE_one h
    rcases List.mem_cons.mp he with rfl | he
    · exact ⟨(c : Int), by show ((c : Int) == (c : Int)) = true; simp, rfl⟩
    · exact spE_keys h' e' he
theorem spE_find : ∀ {es : List DictEntry} {cs : List Nat}, spE es cs = true → ∀ c : Nat, (c ∈ cs → ∃ t, (es.find? fun e => Value.isInt c e.key).map (·.val) = some (.str (Sx [92, c]) t)) ∧ (c ∉ cs → (es.find? fun e => Value.isInt c e.key).map (·.val) = none)
  | [], [], h, c => ⟨fun h => (by cases h), fun _ => rfl⟩
  | [], c :: cs, h, _ => by simp [spE] at h
  | e :: r, [], h, _ => by simp [spE] at h
  | e :: r, d :: cs, h, c => by
    obtain ⟨t, u, rfl, h'⟩ := spE_one h
    have ih := spE_find h' c
    have hk : Value.isInt (c : Int) (.int (d : Int) t) = ((d : Int) == (c : Int)) := rfl
    rw [List.find?_cons]
    simp only [hk]
    by_cases q : d = c
    · subst q
      simp
    · rw [show ((d : Int) == (c : Int)) = false by rw [beq_eq_false_iff_ne]; omega]
      refine ⟨fun hm => ih.1 ((List.mem_cons.mp hm).resolve_left fun e => q e.symm), fun hm => ih.2 fun h => hm (.tail _ h)⟩
/-! the table of the modes -/
theorem lit_tuple {h : Heap} {v : Value} {xs : List WData} {as : List Addr} (r : ReadsLit h v (.tuple xs) as) : ∃ a vs, v = .ref a ∧ h.IsTuple a vs ∧ ReadsAllW [] (fun _ => none) h vs.toList xs as := by
  cases r with
  | tuple ho hc hd hr => exact ⟨_, _, rfl, ⟨_, ho, hc, _, hd⟩, hr⟩
theorem lit_row {h : Heap} {v : Value} {q : Int × Nat} {as : List Addr} (r : ReadsLit h v (rowLit q) as) : ∃ a vs, v = .ref a ∧ IsTup h a vs.toArray ∧ ∃ t u, vs = [.int q.1 t, .str (Sx [q.2]) u] := by
  obtain ⟨a, vs, e, ht, hr⟩ := lit_tuple r
  refine ⟨a, vs.toList, e, (show h.IsTuple a vs.toList.toArray by simpa using ht), ?_⟩
  generalize vs.toList = l at hr
  cases hr with
  | cons r1 r2 =>
    cases r1 with
    | int i t =>
      cases r2 with
      | cons r3 r4 =>
        cases r3 with
        | str x u =>
          cases r4 with
          | nil => exact ⟨t, u, rfl⟩
theorem lit_rows {h : Heap} : ∀ {ps : List (Int × Nat)} {l : List Value} {as : List Addr}, ReadsAllW [] (fun _ => none) h l (ps.map rowLit) as → ∃ rows : List (Addr × List Value), l = rows.map (fun r => .ref r.1) ∧ (∀ r ∈ rows, IsTup h r.1 r.2.toArray) ∧ FmV rows ps
  | [], l, as, r => by
    rw [List.map_nil] at r
    cases r
    exact ⟨[], rfl, fun r h => (by cases h), trivial⟩
  | p :: ps, l, as, r => by
    rw [List.map_cons] at r
    cases r with
    | cons r1 r2 =>
      obtain ⟨a, vs, rfl, ht, t, u, hv⟩ := lit_row r1
      obtain ⟨rows, rfl, h1, h2⟩ := lit_rows r2
      refine ⟨(a, vs) :: rows, rfl, fun r hm => ?_, ⟨t, u, hv⟩, h2⟩
      rcases List.mem_cons.mp hm with rfl | hm
      · exact ht
      · exact h1 r hm
theorem lit_tabs {h : Heap} : ∀ {ts : List (List (Int × Nat))} {l : List Value} {as : List Addr}, ReadsAllW [] (fun _ => none) h l (ts.map fun ps => .tuple (ps.map rowLit)) as → l.length = ts.length ∧ ∀ i, i < ts.length →
    ∃ a its rows, l.getD i .none = .ref a ∧ h.IsTuple a its ∧ its.toList = rows.map (fun r => .ref r.1) ∧ (∀ r ∈ rows, IsTup h r.1 r.2.toArray) ∧ FmV rows (ts.getD i [])
  | [], l, as, r => by
    rw [List.map_nil] at r
    cases r
    exact ⟨rfl, fun i hi => absurd hi (Nat.not_lt_zero _)⟩
  | p :: ts, l, as, r => by
    rw [List.map_cons] at r
    cases r with
    | cons r1 r2 =>
      obtain ⟨h1, h2⟩ := lit_tabs r2
      refine ⟨by rw [List.length_cons, List.length_cons, h1], fun i hi => ?_⟩
      cases i with
      | zero =>
        obtain ⟨a, vs, rfl, ht, hr⟩ := lit_tuple r1
        obtain ⟨rows, e, h3, h4⟩ := lit_rows hr
        exact ⟨a, vs, rows, rfl, ht, e, h3, h4⟩
      | succ i => simpa using h2 i (by simpa using hi)
theorem fm_of {P : Cx} (V : LooseAre [(Str.ofString "_filemode_table", fmLit)] P.mg P.W) : Fm P := by
  obtain ⟨v, hv, r⟩ := V.val _ (.head _)
  obtain ⟨a, vs, rfl, ht, hr⟩ := lit_tuple r
  obtain ⟨h1, h2⟩ := lit_tabs hr
  refine ⟨a, vs, hv, ht, (by rw [Array.length_toList] at h1; exact h1), fun i hi => ?_⟩
  obtain ⟨b, its, rows, h3, h4⟩ := h2 i hi
  refine ⟨b, its, rows, ?_, h4⟩
  rw [← h3]
  simp only [Array.getD, List.getD_eq_getElem?_getD]
  rw [Array.getElem?_toList]
  split
  · rename_i q; rw [Array.getElem?_eq_getElem q]; rfl
  · rename_i q; rw [Array.getElem?_eq_none (by omega)]; rfl

end
section
/-! the looks at the text, one by one -/
theorem look_a : sreFenced pw.main = true := by kernel_rfl
theorem look_b : ((moduleNames pw.main.body).isEmpty || lookedIntoSs (moduleNames pw.main.body) pw.main.body) = true := by kernel_rfl
theorem look_c : namesResolve pw = true := by kernel_rfl
theorem look_d : (pw.boundNames.all (fun n => !worldNames.contains n)) = true := by kernel_rfl
theorem look_e : noRoadLSs { strict := !(importedModules pw.main.body).all cThrough.contains, foot := none, bare := (["vars", "dir", "locals"] : List Str).filter (readsOut pw pw.main.body) } pw.main.body = true := by
  rw [PySem.W.Fast.te8326940854005059898]
  kernel_rfl
theorem look_f : (namesMeet pw pw.main.body fun _ n => attrL n) = true := by kernel_rfl
theorem look_all : looksOpen pw = true := by
  show (sreFenced pw.main && ((moduleNames pw.main.body).isEmpty || lookedIntoSs (moduleNames pw.main.body) pw.main.body) && namesResolve pw && pw.boundNames.all (fun n => !worldNames.contains n) &&
    noRoadLSs { strict := !(importedModules pw.main.body).all cThrough.contains, foot := none, bare := (["vars", "dir", "locals"] : List Str).filter (readsOut pw pw.main.body) } pw.main.body && namesMeet pw pw.main.body fun _ n => attrL n) = true
  rw [look_a, look_b, look_c, look_d, look_e, look_f]; rfl
theorem part_all : PySem.Challenge.rw_rx0131_01.row.partSaid = true := by
  unfold OpenRow.partSaid
  rw [show looksOpen PySem.Challenge.rw_rx0131_01.row.prog = true from look_all]
  kernel_rfl
theorem row_all : PySem.Challenge.rw_rx0131_01.row.wellSaid = true := by
  unfold OpenRow.wellSaid
  rw [part_all]
  kernel_rfl
theorem said_law : OpenLaw.wellSaid PySem.Challenge.rw_rx0131_01 = true := by
  unfold OpenLaw.wellSaid
  rw [row_all]
  kernel_rfl
theorem def_law : defOf viewQ (Str.ofString "law") = some (recOf (Str.ofString "law"), []) := by kernel_rfl
theorem the_law : pw.theDef (Str.ofString "law") = some ((recOf (Str.ofString "law")).params, (recOf (Str.ofString "law")).body, (recOf (Str.ofString "law")).scope) := by kernel_rfl
theorem kw_law : kwWritten? (recOf (Str.ofString "law")).params.kwonlyargs (recOf (Str.ofString "law")).params.kw_defaults = some [] := by kernel_rfl
theorem name_law : (recOf (Str.ofString "law")).name = Str.ofString "law" := by kernel_rfl
theorem room_caller : Room 5 callerA := ⟨rfl, by decide, by decide⟩
theorem sp_view {P : Cx} (g : ∃ a o, P.mg (Str.ofString "_special_chars_map") = some (.ref a) ∧ (a == sysModules) = false ∧ P.W.get? a = some o ∧ spObj o = true) : Sp P := by
  obtain ⟨a, o, h1, h2, h3, e2⟩ := g
  unfold spObj at e2
  split at e2
  · rename_i t es n sl
    simp only [Bool.and_eq_true, beq_iff_eq, Array.isEmpty_iff] at e2
    obtain ⟨⟨q1, q2⟩, q3⟩ := e2
    subst q1; subst q2
    refine ⟨⟨a, fun k => findBy (intKind P.prog P.w).is es k, h1, h2, ⟨_, es, n, h3, ⟨rfl, rfl, rfl⟩, rfl, ?_, fun _ => rfl⟩, fun c => ?_⟩⟩
    · intro e he
      exact spE_keys q3 e (Array.mem_toList_iff.mpr he)
    · have := spE_find q3 c
      show (_ → ∃ t, findBy (intKind P.prog P.w).is es (c : Int) = _) ∧ (_ → findBy (intKind P.prog P.w).is es (c : Int) = none)
      unfold findBy
      rw [← Array.find?_toList]
      exact this
  · cases e2
theorem wd_view {P : Cx} {mean : ExcName → Option Value} (T : Top viewQ (looseW viewQ looseQ) mean P.mg P.mb P.W) : Wd P :=
  ⟨⟨T.g, T.b, T.nolimit⟩, by rw [← show recsOf viewQ = recsOf PySem.Challenge.pw_rx0131_01 from recs_q]; exact T.fn, fun x hx => ⟨by
    refine T.free x.1 ?_ ?_ ?_ ?_ ?_ <;> (revert hx; revert x; decide +kernel), by
    have h1 : x.1 ≠ "__name__" := by revert hx; revert x; decide +kernel
    have h2 : bootBuiltins x.1 = some x.2 := by
      simp only [bltUsed, List.mem_cons, List.not_mem_nil, or_false] at hx
      rcases hx with rfl | rfl | rfl | rfl | rfl | rfl | rfl | rfl <;> kernel_rfl
    rw [T.builtins _ h1, h2]⟩⟩
end
set_option maxHeartbeats 4000000 in
theorem holds_all : PySem.Challenge.rw_rx0131_01.Holds := by
  w_on
  refine holds_law said_law fun said => ?_
  refine holds_open (q := viewQ) (loose := looseQ) (Xt := XtQ) (XP := XPQ) (Yf := fun _ => ()) (Ya := fun _ => ()) (YP := fun _ _ => True) (d := recOf (Str.ofString "law")) (kwd := []) (N := 4850)
    left_all (fun _ _ _ => trivial) (fun _ _ _ _ _ => trivial) xpQ_of xpQ_keeps def_law the_law kw_law (fun s e => recFacts_of (Bool.and_eq_true_iff.mp (Bool.and_eq_true_iff.mp e).2).1) (by rfl) (by first | assumption | decide +kernel) (by decide +kernel) ⟨rfl, rfl, rfl, rfl, rfl, by decide +kernel⟩ ?hw ?hc
  case hw => w_witness2
  intro w s₀ s₁ mg mb G Y fa o pm cd doc dV kV ho hd hcd hD hmg hg args vals as hpre hlay hrd hwl hlo
  have X := Ground.X G
  refine Ground.open G ?_
  intro T B D TE TW
  wrow_args hpre hlay hrd hwl hlo
  rename_i ns hs hlay0 hL1 hr1 hl2 w4 w3 sc vs w0 hL ra w1 r0 hI hr hc1 hc2
  have hlen : ns.length ≤ 63 := by omega
  have hfa : mg (Str.ofString "law") = some (.ref fa) := by rw [← name_law]; exact hmg
  clear G Y hd hcd hD B D TE TW hmg
  have W : Wd ⟨PySem.Challenge.rw_rx0131_01.row.prog, w, s₁.heap, mg, mb⟩ := wd_view T
  have S : Sp ⟨PySem.Challenge.rw_rx0131_01.row.prog, w, s₁.heap, mg, mb⟩ := sp_view X.2
  have M : Fm ⟨PySem.Challenge.rw_rx0131_01.row.prog, w, s₁.heap, mg, mb⟩ := fm_of X.1.2
  obtain ⟨fb, e, _, c⟩ := law_cn W S M ns hlen
  have e : mg (Str.ofString "law") = some (.ref fb) := e
  rw [hfa] at e
  injection e with e
  injection e with e
  subst e
  refine c (fun _ => False) callerA s₁ [.ref sc] _ _ room_caller ⟨Sub.refl, fun _ h => h.elim, Nat.zero_le _⟩ ⟨_, _, rfl, ⟨sc, vs.toArray, rfl, id, hL, of_ints hI⟩, rfl⟩ fun v h' tk k r => ?_
  rw [show v = .bool true from r]
  exact ⟨.inl ⟨_, .bool true, [], rfl, fun cls => rfl, .bool true, (by kernel_rfl), fun _ => ⟨List.nodup_nil, fun a h => nomatch h⟩⟩, OldK.of_keep k, rfl, AllBare.of_eq hg⟩
end Mine
theorem PySem.Challenge.cw_rx0131_01_holds : PySem.Challenge.rw_rx0131_01.Holds := by
  exact Mine.holds_all
