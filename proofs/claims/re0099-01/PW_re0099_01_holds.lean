import PyProof.Rows.All
import PyProof.FactsBase
import PyProof.TableTree
import PyProof.FactsTree
import Wide.All
import OpenK.AllK
import Wide.FinOn
import Lean
import PySem.Challenge.RW_re0099_01
set_option Elab.async false

section
open PySem PySem.W
namespace Mine
/-- the text's statements, by their place -/
noncomputable def stAt (i : Nat) : Stmt := (PySem.Challenge.pw_re0099_01.main.body[i]?).getD (.Pass default)
noncomputable def fnBody (i : Nat) : List Stmt := match stAt i with | .FunctionDef _ _ b .. => b | _ => []
noncomputable def fnArgs (i : Nat) : Arguments := match stAt i with | .FunctionDef _ a .. => a | _ => { posonlyargs := [], args := [], vararg := none, kwonlyargs := [], kw_defaults := [], kwarg := none, defaults := [] }
noncomputable def fnScope (i : Nat) : Scope := match stAt i with | .FunctionDef _ _ _ _ _ _ sc .. => sc | _ => { kind := .module, names := [], isGenerator := false, isCoroutine := false, more := [] }
end Mine
end

section
open PySem PySem.W
namespace Mine
set_option maxRecDepth 100000
set_option linter.unusedVariables false
/-- the pairs of the long table, out of the text -/
noncomputable def b3Pairs : List (Int × Str) := match stAt 12 with
  | .Assign _ (.Dict ks vs _) _ => (ks.zip vs).filterMap fun kv => match kv with
    | (some (.Constant (.int k) _ _), .Constant (.str v) _ _) => some (k, v)
    | _ => none
  | _ => []
noncomputable def b3From (d : Nat) : Nat → List (Int × Str) → List DictEntry
  | _, [] => []
  | t, (k, v) :: r => ⟨k, .int k t, .str v (t + 1)⟩ :: b3From d (t + d) r
/-- the table is laid in runs of 17 pairs; each takes three tokens, but for the last run's: two -/
noncomputable def b3Run (j : Nat) : List DictEntry := if j < 38 then b3From 3 (436 + 51 * j) ((b3Pairs.drop (17 * j)).take 17) else b3From 2 2374 (b3Pairs.drop 646)
noncomputable def b3All : Nat → List DictEntry
  | 0 => []
  | j + 1 => b3All j ++ b3Run j
noncomputable def dictObj (es : List DictEntry) : Obj := ⟨.type "dict", none, .dict es.toArray es.length, #[]⟩
noncomputable def o0v0 (P : Params) : Obj := Obj.mk (Value.type "dict") none (Data.dict #[DictEntry.mk (PyData.keyHash P (Str.ofString "__name__")) (Value.str (Str.ofString "__name__") 1) (Value.str (Str.ofString "builtins") 160), DictEntry.mk (PyData.keyHash P (Str.ofString "__doc__")) (Value.str (Str.ofString "__doc__") 2) (Value.builtin "builtins.__doc__:str#opaque"), DictEntry.mk (PyData.keyHash P (Str.ofString "__package__")) (Value.str (Str.ofString "__package__") 3) (Value.builtin "builtins.__package__:str#opaque"), DictEntry.mk (PyData.keyHash P (Str.ofString "__loader__")) (Value.str (Str.ofString "__loader__") 4) (Value.builtin "builtins.__loader__:shared#opaque"), DictEntry.mk (PyData.keyHash P (Str.ofString "__spec__")) (Value.str (Str.ofString "__spec__") 5) (Value.builtin "builtins.__spec__#opaque"), DictEntry.mk (PyData.keyHash P (Str.ofString "__build_class__")) (Value.str (Str.ofString "__build_class__") 6) (Value.builtin "__build_class__"), DictEntry.mk (PyData.keyHash P (Str.ofString "__import__")) (Value.str (Str.ofString "__import__") 7) (Value.builtin "__import__"), DictEntry.mk (PyData.keyHash P (Str.ofString "abs")) (Value.str (Str.ofString "abs") 8) (Value.builtin "abs"), DictEntry.mk (PyData.keyHash P (Str.ofString "all")) (Value.str (Str.ofString "all") 9) (Value.builtin "all"), DictEntry.mk (PyData.keyHash P (Str.ofString "any")) (Value.str (Str.ofString "any") 10) (Value.builtin "any"), DictEntry.mk (PyData.keyHash P (Str.ofString "ascii")) (Value.str (Str.ofString "ascii") 11) (Value.builtin "ascii"), DictEntry.mk (PyData.keyHash P (Str.ofString "bin")) (Value.str (Str.ofString "bin") 12) (Value.builtin "bin"), DictEntry.mk (PyData.keyHash P (Str.ofString "breakpoint")) (Value.str (Str.ofString "breakpoint") 13) (Value.builtin "breakpoint"), DictEntry.mk (PyData.keyHash P (Str.ofString "callable")) (Value.str (Str.ofString "callable") 14) (Value.builtin "callable"), DictEntry.mk (PyData.keyHash P (Str.ofString "chr")) (Value.str (Str.ofString "chr") 15) (Value.builtin "chr"), DictEntry.mk (PyData.keyHash P (Str.ofString "compile")) (Value.str (Str.ofString "compile") 16) (Value.builtin "compile"), DictEntry.mk (PyData.keyHash P (Str.ofString "delattr")) (Value.str (Str.ofString "delattr") 17) (Value.builtin "delattr"), DictEntry.mk (PyData.keyHash P (Str.ofString "dir")) (Value.str (Str.ofString "dir") 18) (Value.builtin "dir"), DictEntry.mk (PyData.keyHash P (Str.ofString "divmod")) (Value.str (Str.ofString "divmod") 19) (Value.builtin "divmod"), DictEntry.mk (PyData.keyHash P (Str.ofString "eval")) (Value.str (Str.ofString "eval") 20) (Value.builtin "eval"), DictEntry.mk (PyData.keyHash P (Str.ofString "exec")) (Value.str (Str.ofString "exec") 21) (Value.builtin "exec"), DictEntry.mk (PyData.keyHash P (Str.ofString "format")) (Value.str (Str.ofString "format") 22) (Value.builtin "format"), DictEntry.mk (PyData.keyHash P (Str.ofString "getattr")) (Value.str (Str.ofString "getattr") 23) (Value.builtin "getattr"), DictEntry.mk (PyData.keyHash P (Str.ofString "globals")) (Value.str (Str.ofString "globals") 24) (Value.builtin "globals"), DictEntry.mk (PyData.keyHash P (Str.ofString "hasattr")) (Value.str (Str.ofString "hasattr") 25) (Value.builtin "hasattr"), DictEntry.mk (PyData.keyHash P (Str.ofString "hash")) (Value.str (Str.ofString "hash") 26) (Value.builtin "hash"), DictEntry.mk (PyData.keyHash P (Str.ofString "hex")) (Value.str (Str.ofString "hex") 27) (Value.builtin "hex"), DictEntry.mk (PyData.keyHash P (Str.ofString "id")) (Value.str (Str.ofString "id") 28) (Value.builtin "id"), DictEntry.mk (PyData.keyHash P (Str.ofString "input")) (Value.str (Str.ofString "input") 29) (Value.builtin "input"), DictEntry.mk (PyData.keyHash P (Str.ofString "isinstance")) (Value.str (Str.ofString "isinstance") 30) (Value.builtin "isinstance"), DictEntry.mk (PyData.keyHash P (Str.ofString "issubclass")) (Value.str (Str.ofString "issubclass") 31) (Value.builtin "issubclass"), DictEntry.mk (PyData.keyHash P (Str.ofString "iter")) (Value.str (Str.ofString "iter") 32) (Value.builtin "iter"), DictEntry.mk (PyData.keyHash P (Str.ofString "aiter")) (Value.str (Str.ofString "aiter") 33) (Value.builtin "aiter"), DictEntry.mk (PyData.keyHash P (Str.ofString "len")) (Value.str (Str.ofString "len") 34) (Value.builtin "len"), DictEntry.mk (PyData.keyHash P (Str.ofString "locals")) (Value.str (Str.ofString "locals") 35) (Value.builtin "locals"), DictEntry.mk (PyData.keyHash P (Str.ofString "max")) (Value.str (Str.ofString "max") 36) (Value.builtin "max"), DictEntry.mk (PyData.keyHash P (Str.ofString "min")) (Value.str (Str.ofString "min") 37) (Value.builtin "min"), DictEntry.mk (PyData.keyHash P (Str.ofString "next")) (Value.str (Str.ofString "next") 38) (Value.builtin "next"), DictEntry.mk (PyData.keyHash P (Str.ofString "anext")) (Value.str (Str.ofString "anext") 39) (Value.builtin "anext"), DictEntry.mk (PyData.keyHash P (Str.ofString "oct")) (Value.str (Str.ofString "oct") 40) (Value.builtin "oct"), DictEntry.mk (PyData.keyHash P (Str.ofString "ord")) (Value.str (Str.ofString "ord") 41) (Value.builtin "ord"), DictEntry.mk (PyData.keyHash P (Str.ofString "pow")) (Value.str (Str.ofString "pow") 42) (Value.builtin "pow"), DictEntry.mk (PyData.keyHash P (Str.ofString "print")) (Value.str (Str.ofString "print") 43) (Value.builtin "print"), DictEntry.mk (PyData.keyHash P (Str.ofString "repr")) (Value.str (Str.ofString "repr") 44) (Value.builtin "repr"), DictEntry.mk (PyData.keyHash P (Str.ofString "round")) (Value.str (Str.ofString "round") 45) (Value.builtin "round"), DictEntry.mk (PyData.keyHash P (Str.ofString "setattr")) (Value.str (Str.ofString "setattr") 46) (Value.builtin "setattr"), DictEntry.mk (PyData.keyHash P (Str.ofString "sorted")) (Value.str (Str.ofString "sorted") 47) (Value.builtin "sorted"), DictEntry.mk (PyData.keyHash P (Str.ofString "sum")) (Value.str (Str.ofString "sum") 48) (Value.builtin "sum"), DictEntry.mk (PyData.keyHash P (Str.ofString "vars")) (Value.str (Str.ofString "vars") 49) (Value.builtin "vars"), DictEntry.mk (PyData.keyHash P (Str.ofString "None")) (Value.str (Str.ofString "None") 50) Value.none, DictEntry.mk (PyData.keyHash P (Str.ofString "Ellipsis")) (Value.str (Str.ofString "Ellipsis") 51) Value.ellipsis, DictEntry.mk (PyData.keyHash P (Str.ofString "NotImplemented")) (Value.str (Str.ofString "NotImplemented") 52) Value.notImplemented, DictEntry.mk (PyData.keyHash P (Str.ofString "False")) (Value.str (Str.ofString "False") 53) (Value.bool false), DictEntry.mk (PyData.keyHash P (Str.ofString "True")) (Value.str (Str.ofString "True") 54) (Value.bool true), DictEntry.mk (PyData.keyHash P (Str.ofString "bool")) (Value.str (Str.ofString "bool") 55) (Value.type "bool"), DictEntry.mk (PyData.keyHash P (Str.ofString "memoryview")) (Value.str (Str.ofString "memoryview") 56) (Value.type "memoryview"), DictEntry.mk (PyData.keyHash P (Str.ofString "bytearray")) (Value.str (Str.ofString "bytearray") 57) (Value.type "bytearray"), DictEntry.mk (PyData.keyHash P (Str.ofString "bytes")) (Value.str (Str.ofString "bytes") 58) (Value.type "bytes"), DictEntry.mk (PyData.keyHash P (Str.ofString "classmethod")) (Value.str (Str.ofString "classmethod") 59) (Value.type "classmethod"), DictEntry.mk (PyData.keyHash P (Str.ofString "complex")) (Value.str (Str.ofString "complex") 60) (Value.type "complex"), DictEntry.mk (PyData.keyHash P (Str.ofString "dict")) (Value.str (Str.ofString "dict") 61) (Value.type "dict"), DictEntry.mk (PyData.keyHash P (Str.ofString "enumerate")) (Value.str (Str.ofString "enumerate") 62) (Value.type "enumerate"), DictEntry.mk (PyData.keyHash P (Str.ofString "filter")) (Value.str (Str.ofString "filter") 63) (Value.type "filter"), DictEntry.mk (PyData.keyHash P (Str.ofString "float")) (Value.str (Str.ofString "float") 64) (Value.type "float"), DictEntry.mk (PyData.keyHash P (Str.ofString "frozenset")) (Value.str (Str.ofString "frozenset") 65) (Value.type "frozenset"), DictEntry.mk (PyData.keyHash P (Str.ofString "property")) (Value.str (Str.ofString "property") 66) (Value.type "property"), DictEntry.mk (PyData.keyHash P (Str.ofString "int")) (Value.str (Str.ofString "int") 67) (Value.type "int"), DictEntry.mk (PyData.keyHash P (Str.ofString "list")) (Value.str (Str.ofString "list") 68) (Value.type "list"), DictEntry.mk (PyData.keyHash P (Str.ofString "map")) (Value.str (Str.ofString "map") 69) (Value.type "map"), DictEntry.mk (PyData.keyHash P (Str.ofString "object")) (Value.str (Str.ofString "object") 70) (Value.type "object"), DictEntry.mk (PyData.keyHash P (Str.ofString "range")) (Value.str (Str.ofString "range") 71) (Value.type "range"), DictEntry.mk (PyData.keyHash P (Str.ofString "reversed")) (Value.str (Str.ofString "reversed") 72) (Value.type "reversed"), DictEntry.mk (PyData.keyHash P (Str.ofString "set")) (Value.str (Str.ofString "set") 73) (Value.type "set"), DictEntry.mk (PyData.keyHash P (Str.ofString "slice")) (Value.str (Str.ofString "slice") 74) (Value.type "slice"), DictEntry.mk (PyData.keyHash P (Str.ofString "staticmethod")) (Value.str (Str.ofString "staticmethod") 75) (Value.type "staticmethod"), DictEntry.mk (PyData.keyHash P (Str.ofString "str")) (Value.str (Str.ofString "str") 76) (Value.type "str"), DictEntry.mk (PyData.keyHash P (Str.ofString "super")) (Value.str (Str.ofString "super") 77) (Value.type "super"), DictEntry.mk (PyData.keyHash P (Str.ofString "tuple")) (Value.str (Str.ofString "tuple") 78) (Value.type "tuple"), DictEntry.mk (PyData.keyHash P (Str.ofString "type")) (Value.str (Str.ofString "type") 79) (Value.type "type"), DictEntry.mk (PyData.keyHash P (Str.ofString "zip")) (Value.str (Str.ofString "zip") 80) (Value.type "zip"), DictEntry.mk (PyData.keyHash P (Str.ofString "__debug__")) (Value.str (Str.ofString "__debug__") 81) (Value.bool true), DictEntry.mk (PyData.keyHash P (Str.ofString "BaseException")) (Value.str (Str.ofString "BaseException") 82) (Value.type "BaseException"), DictEntry.mk (PyData.keyHash P (Str.ofString "BaseExceptionGroup")) (Value.str (Str.ofString "BaseExceptionGroup") 83) (Value.type "BaseExceptionGroup"), DictEntry.mk (PyData.keyHash P (Str.ofString "Exception")) (Value.str (Str.ofString "Exception") 84) (Value.type "Exception"), DictEntry.mk (PyData.keyHash P (Str.ofString "GeneratorExit")) (Value.str (Str.ofString "GeneratorExit") 85) (Value.type "GeneratorExit"), DictEntry.mk (PyData.keyHash P (Str.ofString "KeyboardInterrupt")) (Value.str (Str.ofString "KeyboardInterrupt") 86) (Value.type "KeyboardInterrupt"), DictEntry.mk (PyData.keyHash P (Str.ofString "SystemExit")) (Value.str (Str.ofString "SystemExit") 87) (Value.type "SystemExit"), DictEntry.mk (PyData.keyHash P (Str.ofString "ArithmeticError")) (Value.str (Str.ofString "ArithmeticError") 88) (Value.type "ArithmeticError"), DictEntry.mk (PyData.keyHash P (Str.ofString "AssertionError")) (Value.str (Str.ofString "AssertionError") 89) (Value.type "AssertionError"), DictEntry.mk (PyData.keyHash P (Str.ofString "AttributeError")) (Value.str (Str.ofString "AttributeError") 90) (Value.type "AttributeError"), DictEntry.mk (PyData.keyHash P (Str.ofString "BufferError")) (Value.str (Str.ofString "BufferError") 91) (Value.type "BufferError"), DictEntry.mk (PyData.keyHash P (Str.ofString "EOFError")) (Value.str (Str.ofString "EOFError") 92) (Value.type "EOFError"), DictEntry.mk (PyData.keyHash P (Str.ofString "ImportError")) (Value.str (Str.ofString "ImportError") 93) (Value.type "ImportError"), DictEntry.mk (PyData.keyHash P (Str.ofString "LookupError")) (Value.str (Str.ofString "LookupError") 94) (Value.type "LookupError"), DictEntry.mk (PyData.keyHash P (Str.ofString "MemoryError")) (Value.str (Str.ofString "MemoryError") 95) (Value.type "MemoryError"), DictEntry.mk (PyData.keyHash P (Str.ofString "NameError")) (Value.str (Str.ofString "NameError") 96) (Value.type "NameError"), DictEntry.mk (PyData.keyHash P (Str.ofString "OSError")) (Value.str (Str.ofString "OSError") 97) (Value.type "OSError"), DictEntry.mk (PyData.keyHash P (Str.ofString "ReferenceError")) (Value.str (Str.ofString "ReferenceError") 98) (Value.type "ReferenceError"), DictEntry.mk (PyData.keyHash P (Str.ofString "RuntimeError")) (Value.str (Str.ofString "RuntimeError") 99) (Value.type "RuntimeError"), DictEntry.mk (PyData.keyHash P (Str.ofString "StopAsyncIteration")) (Value.str (Str.ofString "StopAsyncIteration") 100) (Value.type "StopAsyncIteration"), DictEntry.mk (PyData.keyHash P (Str.ofString "StopIteration")) (Value.str (Str.ofString "StopIteration") 101) (Value.type "StopIteration"), DictEntry.mk (PyData.keyHash P (Str.ofString "SyntaxError")) (Value.str (Str.ofString "SyntaxError") 102) (Value.type "SyntaxError"), DictEntry.mk (PyData.keyHash P (Str.ofString "SystemError")) (Value.str (Str.ofString "SystemError") 103) (Value.type "SystemError"), DictEntry.mk (PyData.keyHash P (Str.ofString "TypeError")) (Value.str (Str.ofString "TypeError") 104) (Value.type "TypeError"), DictEntry.mk (PyData.keyHash P (Str.ofString "ValueError")) (Value.str (Str.ofString "ValueError") 105) (Value.type "ValueError"), DictEntry.mk (PyData.keyHash P (Str.ofString "Warning")) (Value.str (Str.ofString "Warning") 106) (Value.type "Warning"), DictEntry.mk (PyData.keyHash P (Str.ofString "FloatingPointError")) (Value.str (Str.ofString "FloatingPointError") 107) (Value.type "FloatingPointError"), DictEntry.mk (PyData.keyHash P (Str.ofString "OverflowError")) (Value.str (Str.ofString "OverflowError") 108) (Value.type "OverflowError"), DictEntry.mk (PyData.keyHash P (Str.ofString "ZeroDivisionError")) (Value.str (Str.ofString "ZeroDivisionError") 109) (Value.type "ZeroDivisionError"), DictEntry.mk (PyData.keyHash P (Str.ofString "BytesWarning")) (Value.str (Str.ofString "BytesWarning") 110) (Value.type "BytesWarning"), DictEntry.mk (PyData.keyHash P (Str.ofString "DeprecationWarning")) (Value.str (Str.ofString "DeprecationWarning") 111) (Value.type "DeprecationWarning"), DictEntry.mk (PyData.keyHash P (Str.ofString "EncodingWarning")) (Value.str (Str.ofString "EncodingWarning") 112) (Value.type "EncodingWarning"), DictEntry.mk (PyData.keyHash P (Str.ofString "FutureWarning")) (Value.str (Str.ofString "FutureWarning") 113) (Value.type "FutureWarning"), DictEntry.mk (PyData.keyHash P (Str.ofString "ImportWarning")) (Value.str (Str.ofString "ImportWarning") 114) (Value.type "ImportWarning"), DictEntry.mk (PyData.keyHash P (Str.ofString "PendingDeprecationWarning")) (Value.str (Str.ofString "PendingDeprecationWarning") 115) (Value.type "PendingDeprecationWarning"), DictEntry.mk (PyData.keyHash P (Str.ofString "ResourceWarning")) (Value.str (Str.ofString "ResourceWarning") 116) (Value.type "ResourceWarning"), DictEntry.mk (PyData.keyHash P (Str.ofString "RuntimeWarning")) (Value.str (Str.ofString "RuntimeWarning") 117) (Value.type "RuntimeWarning"), DictEntry.mk (PyData.keyHash P (Str.ofString "SyntaxWarning")) (Value.str (Str.ofString "SyntaxWarning") 118) (Value.type "SyntaxWarning"), DictEntry.mk (PyData.keyHash P (Str.ofString "UnicodeWarning")) (Value.str (Str.ofString "UnicodeWarning") 119) (Value.type "UnicodeWarning"), DictEntry.mk (PyData.keyHash P (Str.ofString "UserWarning")) (Value.str (Str.ofString "UserWarning") 120) (Value.type "UserWarning"), DictEntry.mk (PyData.keyHash P (Str.ofString "BlockingIOError")) (Value.str (Str.ofString "BlockingIOError") 121) (Value.type "BlockingIOError"), DictEntry.mk (PyData.keyHash P (Str.ofString "ChildProcessError")) (Value.str (Str.ofString "ChildProcessError") 122) (Value.type "ChildProcessError"), DictEntry.mk (PyData.keyHash P (Str.ofString "ConnectionError")) (Value.str (Str.ofString "ConnectionError") 123) (Value.type "ConnectionError"), DictEntry.mk (PyData.keyHash P (Str.ofString "FileExistsError")) (Value.str (Str.ofString "FileExistsError") 124) (Value.type "FileExistsError"), DictEntry.mk (PyData.keyHash P (Str.ofString "FileNotFoundError")) (Value.str (Str.ofString "FileNotFoundError") 125) (Value.type "FileNotFoundError"), DictEntry.mk (PyData.keyHash P (Str.ofString "InterruptedError")) (Value.str (Str.ofString "InterruptedError") 126) (Value.type "InterruptedError"), DictEntry.mk (PyData.keyHash P (Str.ofString "IsADirectoryError")) (Value.str (Str.ofString "IsADirectoryError") 127) (Value.type "IsADirectoryError"), DictEntry.mk (PyData.keyHash P (Str.ofString "NotADirectoryError")) (Value.str (Str.ofString "NotADirectoryError") 128) (Value.type "NotADirectoryError"), DictEntry.mk (PyData.keyHash P (Str.ofString "PermissionError")) (Value.str (Str.ofString "PermissionError") 129) (Value.type "PermissionError"), DictEntry.mk (PyData.keyHash P (Str.ofString "ProcessLookupError")) (Value.str (Str.ofString "ProcessLookupError") 130) (Value.type "ProcessLookupError"), DictEntry.mk (PyData.keyHash P (Str.ofString "TimeoutError")) (Value.str (Str.ofString "TimeoutError") 131) (Value.type "TimeoutError"), DictEntry.mk (PyData.keyHash P (Str.ofString "IndentationError")) (Value.str (Str.ofString "IndentationError") 132) (Value.type "IndentationError"), DictEntry.mk (PyData.keyHash P (Str.ofString "_IncompleteInputError")) (Value.str (Str.ofString "_IncompleteInputError") 133) (Value.type "_IncompleteInputError"), DictEntry.mk (PyData.keyHash P (Str.ofString "IndexError")) (Value.str (Str.ofString "IndexError") 134) (Value.type "IndexError"), DictEntry.mk (PyData.keyHash P (Str.ofString "KeyError")) (Value.str (Str.ofString "KeyError") 135) (Value.type "KeyError"), DictEntry.mk (PyData.keyHash P (Str.ofString "ModuleNotFoundError")) (Value.str (Str.ofString "ModuleNotFoundError") 136) (Value.type "ModuleNotFoundError"), DictEntry.mk (PyData.keyHash P (Str.ofString "NotImplementedError")) (Value.str (Str.ofString "NotImplementedError") 137) (Value.type "NotImplementedError"), DictEntry.mk (PyData.keyHash P (Str.ofString "PythonFinalizationError")) (Value.str (Str.ofString "PythonFinalizationError") 138) (Value.type "PythonFinalizationError"), DictEntry.mk (PyData.keyHash P (Str.ofString "RecursionError")) (Value.str (Str.ofString "RecursionError") 139) (Value.type "RecursionError"), DictEntry.mk (PyData.keyHash P (Str.ofString "UnboundLocalError")) (Value.str (Str.ofString "UnboundLocalError") 140) (Value.type "UnboundLocalError"), DictEntry.mk (PyData.keyHash P (Str.ofString "UnicodeError")) (Value.str (Str.ofString "UnicodeError") 141) (Value.type "UnicodeError"), DictEntry.mk (PyData.keyHash P (Str.ofString "BrokenPipeError")) (Value.str (Str.ofString "BrokenPipeError") 142) (Value.type "BrokenPipeError"), DictEntry.mk (PyData.keyHash P (Str.ofString "ConnectionAbortedError")) (Value.str (Str.ofString "ConnectionAbortedError") 143) (Value.type "ConnectionAbortedError"), DictEntry.mk (PyData.keyHash P (Str.ofString "ConnectionRefusedError")) (Value.str (Str.ofString "ConnectionRefusedError") 144) (Value.type "ConnectionRefusedError"), DictEntry.mk (PyData.keyHash P (Str.ofString "ConnectionResetError")) (Value.str (Str.ofString "ConnectionResetError") 145) (Value.type "ConnectionResetError"), DictEntry.mk (PyData.keyHash P (Str.ofString "TabError")) (Value.str (Str.ofString "TabError") 146) (Value.type "TabError"), DictEntry.mk (PyData.keyHash P (Str.ofString "UnicodeDecodeError")) (Value.str (Str.ofString "UnicodeDecodeError") 147) (Value.type "UnicodeDecodeError"), DictEntry.mk (PyData.keyHash P (Str.ofString "UnicodeEncodeError")) (Value.str (Str.ofString "UnicodeEncodeError") 148) (Value.type "UnicodeEncodeError"), DictEntry.mk (PyData.keyHash P (Str.ofString "UnicodeTranslateError")) (Value.str (Str.ofString "UnicodeTranslateError") 149) (Value.type "UnicodeTranslateError"), DictEntry.mk (PyData.keyHash P (Str.ofString "ExceptionGroup")) (Value.str (Str.ofString "ExceptionGroup") 150) (Value.type "ExceptionGroup"), DictEntry.mk (PyData.keyHash P (Str.ofString "EnvironmentError")) (Value.str (Str.ofString "EnvironmentError") 151) (Value.type "OSError"), DictEntry.mk (PyData.keyHash P (Str.ofString "IOError")) (Value.str (Str.ofString "IOError") 152) (Value.type "OSError"), DictEntry.mk (PyData.keyHash P (Str.ofString "open")) (Value.str (Str.ofString "open") 153) (Value.builtin "open"), DictEntry.mk (PyData.keyHash P (Str.ofString "quit")) (Value.str (Str.ofString "quit") 154) (Value.builtin "builtins.quit#opaque"), DictEntry.mk (PyData.keyHash P (Str.ofString "exit")) (Value.str (Str.ofString "exit") 155) (Value.builtin "builtins.exit#opaque"), DictEntry.mk (PyData.keyHash P (Str.ofString "copyright")) (Value.str (Str.ofString "copyright") 156) (Value.builtin "builtins.copyright#opaque"), DictEntry.mk (PyData.keyHash P (Str.ofString "credits")) (Value.str (Str.ofString "credits") 157) (Value.builtin "builtins.credits#opaque"), DictEntry.mk (PyData.keyHash P (Str.ofString "license")) (Value.str (Str.ofString "license") 158) (Value.builtin "builtins.license#opaque"), DictEntry.mk (PyData.keyHash P (Str.ofString "help")) (Value.str (Str.ofString "help") 159) (Value.builtin "builtins.help#opaque")] 159) #[]
noncomputable def o1v0 (P : Params) : Obj := Obj.mk (Value.type "dict") none (Data.dict #[DictEntry.mk (PyData.keyHash P (Str.ofString "builtins")) (Value.str (Str.ofString "builtins") 162) (Value.ref 4), DictEntry.mk (PyData.keyHash P (Str.ofString "__main__")) (Value.str (Str.ofString "__main__") 163) (Value.ref 5), DictEntry.mk (PyData.keyHash P (Str.ofString "_sre")) (Value.str (Str.ofString "_sre") 244) (Value.ref 12)] 3) #[]
noncomputable def o2v0 (P : Params) : Obj := Obj.mk Value.none none (Data.dict #[DictEntry.mk (PyData.keyHash P (Str.ofString "\x69mport.loaded._sre")) (Value.str (Str.ofString "\x69mport.loaded._sre") 183) (Value.bool true), DictEntry.mk (PyData.keyHash P (Str.ofString "class._frozen_importlib.BuiltinImporter")) (Value.str (Str.ofString "class._frozen_importlib.BuiltinImporter") 185) (Value.ref 14), DictEntry.mk (PyData.keyHash P (Str.ofString "watched.\x69mport")) (Value.str (Str.ofString "watched.\x69mport") 206) (Value.ref 18), DictEntry.mk (PyData.keyHash P (Str.ofString "class._frozen_importlib.ModuleSpec")) (Value.str (Str.ofString "class._frozen_importlib.ModuleSpec") 216) (Value.ref 22), DictEntry.mk (PyData.keyHash P (Str.ofString "sys.modules.booked-epoch")) (Value.str (Str.ofString "sys.modules.booked-epoch") 245) (Value.int 3 0), DictEntry.mk (PyData.keyHash P (Str.ofString "\x69mport.later-laid._sre")) (Value.str (Str.ofString "\x69mport.later-laid._sre") 270) (Value.bool true), DictEntry.mk (PyData.keyHash P (Str.ofString "watched.library")) (Value.str (Str.ofString "watched.library") 272) (Value.ref 27), DictEntry.mk (PyData.keyHash P (Str.ofString "watched.library-objects")) (Value.str (Str.ofString "watched.library-objects") 0) (Value.str (Str.ofString "\x0c") 0), DictEntry.mk (PyData.keyHash P (Str.ofString "watched.library-deep._sre")) (Value.str (Str.ofString "watched.library-deep._sre") 273) (Value.str (Str.ofString "\x04\x00\x00\x0b\x04\x00\x00\x0b\x04\x00\x00\x03\x04\x00\x00\x0b\x08\x04dict\x02") 0)] 9) #[]
noncomputable def o3v0 (P : Params) : Obj := Obj.mk (Value.type "dict") none (Data.dict #[DictEntry.mk (PyData.keyHash P (Str.ofString "__name__")) (Value.str (Str.ofString "__name__") 165) (Value.str (Str.ofString "__main__") 164), DictEntry.mk (PyData.keyHash P (Str.ofString "__doc__")) (Value.str (Str.ofString "__doc__") 166) Value.none, DictEntry.mk (PyData.keyHash P (Str.ofString "__package__")) (Value.str (Str.ofString "__package__") 167) Value.none, DictEntry.mk (PyData.keyHash P (Str.ofString "__loader__")) (Value.str (Str.ofString "__loader__") 168) (Value.builtin "__main__.__loader__#opaque"), DictEntry.mk (PyData.keyHash P (Str.ofString "__spec__")) (Value.str (Str.ofString "__spec__") 169) Value.none, DictEntry.mk (PyData.keyHash P (Str.ofString "__annotations__")) (Value.str (Str.ofString "__annotations__") 170) (Value.ref 6), DictEntry.mk (PyData.keyHash P (Str.ofString "__builtins__")) (Value.str (Str.ofString "__builtins__") 171) (Value.ref 4), DictEntry.mk (PyData.keyHash P (Str.ofString "__file__")) (Value.str (Str.ofString "__file__") 173) (Value.str (Str.ofString "/claim/cut.py") 172), DictEntry.mk (PyData.keyHash P (Str.ofString "__cached__")) (Value.str (Str.ofString "__cached__") 174) Value.none, DictEntry.mk (PyData.keyHash P (Str.ofString "_sre")) (Value.str (Str.ofString "_sre") 275) (Value.ref 12)] 10) #[]
noncomputable def o4v0 (P : Params) : Obj := Obj.mk (Value.type "module") (some 0) Data.plain #[]
noncomputable def o5v0 (P : Params) : Obj := Obj.mk (Value.type "module") (some 3) Data.plain #[]
noncomputable def o6v0 (P : Params) : Obj := Obj.mk (Value.type "dict") none (Data.dict #[]) #[]
noncomputable def o7v0 (P : Params) : Obj := Obj.mk (Value.type "tuple") none (Data.seq #[]) #[]
noncomputable def o8v0 (P : Params) : Obj := Obj.mk Value.none none (Data.fields #[]) #[]
noncomputable def o9v0 (P : Params) : Obj := Obj.mk (Value.type "code") none (Data.fields #[Value.str (Str.ofString "<module>") 176, Value.str (Str.ofString "<module>") 177, Value.str (Str.ofString "/claim/cut.py") 178, Value.int 1 0, Value.int 0 0, Value.int 0 0, Value.int 0 0, Value.int 0 0, Value.ref 7, Value.bool false, Value.int 175 0, Value.ref 8, Value.none, Value.none, Value.none, Value.none, Value.int 179 0, Value.int 1 0, Value.str (Str.ofString "/claim/cut.py") 180]) #[]
noncomputable def o10v0 (P : Params) : Obj := Obj.mk (Value.type "frame") none Data.plain #[some (Value.ref 9), some (Value.ref 3), some (Value.ref 3), none, some (Value.str (Str.ofString "__main__") 164), none, some (Value.ref 0)]
noncomputable def o11v0 (P : Params) : Obj := Obj.mk (Value.type "dict") none (Data.dict #[DictEntry.mk (PyData.keyHash P (Str.ofString "__name__")) (Value.str (Str.ofString "__name__") 247) (Value.str (Str.ofString "_sre") 246), DictEntry.mk (PyData.keyHash P (Str.ofString "__doc__")) (Value.str (Str.ofString "__doc__") 248) Value.none, DictEntry.mk (PyData.keyHash P (Str.ofString "__package__")) (Value.str (Str.ofString "__package__") 250) (Value.str (Str.ofString "") 249), DictEntry.mk (PyData.keyHash P (Str.ofString "__loader__")) (Value.str (Str.ofString "__loader__") 251) (Value.builtin "off-the-table:_sre.__loader__:shared#opaque"), DictEntry.mk (PyData.keyHash P (Str.ofString "__spec__")) (Value.str (Str.ofString "__spec__") 252) (Value.builtin "off-the-table:_sre.__spec__:shared#opaque"), DictEntry.mk (PyData.keyHash P (Str.ofString "compile")) (Value.str (Str.ofString "compile") 253) (Value.builtin "_sre.compile"), DictEntry.mk (PyData.keyHash P (Str.ofString "template")) (Value.str (Str.ofString "template") 254) (Value.builtin "off-the-table:_sre.template:shared#opaque"), DictEntry.mk (PyData.keyHash P (Str.ofString "getcodesize")) (Value.str (Str.ofString "getcodesize") 255) (Value.builtin "off-the-table:_sre.getcodesize:shared#opaque"), DictEntry.mk (PyData.keyHash P (Str.ofString "ascii_iscased")) (Value.str (Str.ofString "ascii_iscased") 256) (Value.builtin "off-the-table:_sre.ascii_iscased:shared#opaque"), DictEntry.mk (PyData.keyHash P (Str.ofString "unicode_iscased")) (Value.str (Str.ofString "unicode_iscased") 257) (Value.builtin "off-the-table:_sre.unicode_iscased:shared#opaque"), DictEntry.mk (PyData.keyHash P (Str.ofString "ascii_tolower")) (Value.str (Str.ofString "ascii_tolower") 258) (Value.builtin "off-the-table:_sre.ascii_tolower:shared#opaque"), DictEntry.mk (PyData.keyHash P (Str.ofString "unicode_tolower")) (Value.str (Str.ofString "unicode_tolower") 259) (Value.builtin "off-the-table:_sre.unicode_tolower:shared#opaque"), DictEntry.mk (PyData.keyHash P (Str.ofString "MAGIC")) (Value.str (Str.ofString "MAGIC") 261) (Value.int 20230612 260), DictEntry.mk (PyData.keyHash P (Str.ofString "CODESIZE")) (Value.str (Str.ofString "CODESIZE") 263) (Value.int 4 262), DictEntry.mk (PyData.keyHash P (Str.ofString "MAXREPEAT")) (Value.str (Str.ofString "MAXREPEAT") 265) (Value.int 4294967295 264), DictEntry.mk (PyData.keyHash P (Str.ofString "MAXGROUPS")) (Value.str (Str.ofString "MAXGROUPS") 267) (Value.int 1073741823 266), DictEntry.mk (PyData.keyHash P (Str.ofString "copyright")) (Value.str (Str.ofString "copyright") 269) (Value.str (Str.ofString " SRE 2.2.2 Copyright (c) 1997-2002 by Secret Labs AB ") 268)] 17) #[]
noncomputable def o12v0 (P : Params) : Obj := Obj.mk (Value.type "module") (some 11) Data.plain #[]
noncomputable def o13v0 (P : Params) : Obj := Obj.mk (Value.type "dict") none (Data.dict #[DictEntry.mk (PyData.keyHash P (Str.ofString "__module__")) (Value.str (Str.ofString "__module__") 189) (Value.str (Str.ofString "_frozen_importlib") 186), DictEntry.mk (PyData.keyHash P (Str.ofString "__firstlineno__")) (Value.str (Str.ofString "__firstlineno__") 190) (Value.int 971 187), DictEntry.mk (PyData.keyHash P (Str.ofString "__doc__")) (Value.str (Str.ofString "__doc__") 191) (Value.builtin "_frozen_importlib.BuiltinImporter.__doc__:str#opaque"), DictEntry.mk (PyData.keyHash P (Str.ofString "_ORIGIN")) (Value.str (Str.ofString "_ORIGIN") 192) (Value.str (Str.ofString "built-in") 188), DictEntry.mk (PyData.keyHash P (Str.ofString "find_spec")) (Value.str (Str.ofString "find_spec") 193) (Value.builtin "_frozen_importlib.BuiltinImporter.find_spec#opaque"), DictEntry.mk (PyData.keyHash P (Str.ofString "create_module")) (Value.str (Str.ofString "create_module") 194) (Value.builtin "_frozen_importlib.BuiltinImporter.create_module#opaque"), DictEntry.mk (PyData.keyHash P (Str.ofString "exec_module")) (Value.str (Str.ofString "exec_module") 195) (Value.builtin "_frozen_importlib.BuiltinImporter.exec_module#opaque"), DictEntry.mk (PyData.keyHash P (Str.ofString "get_code")) (Value.str (Str.ofString "get_code") 196) (Value.builtin "_frozen_importlib.BuiltinImporter.get_code#opaque"), DictEntry.mk (PyData.keyHash P (Str.ofString "get_source")) (Value.str (Str.ofString "get_source") 197) (Value.builtin "_frozen_importlib.BuiltinImporter.get_source#opaque"), DictEntry.mk (PyData.keyHash P (Str.ofString "is_package")) (Value.str (Str.ofString "is_package") 198) (Value.builtin "_frozen_importlib.BuiltinImporter.is_package#opaque"), DictEntry.mk (PyData.keyHash P (Str.ofString "load_module")) (Value.str (Str.ofString "load_module") 199) (Value.builtin "_frozen_importlib.BuiltinImporter.load_module#opaque"), DictEntry.mk (PyData.keyHash P (Str.ofString "__static_attributes__")) (Value.str (Str.ofString "__static_attributes__") 200) (Value.ref 15), DictEntry.mk (PyData.keyHash P (Str.ofString "__dict__")) (Value.str (Str.ofString "__dict__") 202) (Value.ref 16), DictEntry.mk (PyData.keyHash P (Str.ofString "__weakref__")) (Value.str (Str.ofString "__weakref__") 204) (Value.ref 17)] 14) #[]
noncomputable def o14v0 (P : Params) : Obj := Obj.mk (Value.type "type") none (Data.cls (ClassData.mk (Str.ofString "BuiltinImporter") [Value.type "object"] [Value.ref 14, Value.type "object"] 13 (Str.ofString "BuiltinImporter") true [] [] false none false)) #[]
noncomputable def o15v0 (P : Params) : Obj := Obj.mk (Value.type "tuple") none (Data.seq #[]) #[]
noncomputable def o16v0 (P : Params) : Obj := Obj.mk (Value.type "getset_descriptor") none (Data.fields #[Value.str (Str.ofString "__dict__") 201, Value.ref 14, Value.builtin "function.__dict__", Value.builtin "function.__dict__#set"]) #[]
noncomputable def o17v0 (P : Params) : Obj := Obj.mk (Value.type "getset_descriptor") none (Data.fields #[Value.str (Str.ofString "__weakref__") 203, Value.ref 14, Value.builtin "ExceptionGroup.__weakref__", Value.none]) #[]
noncomputable def o18v0 (P : Params) : Obj := Obj.mk Value.none none (Data.seq #[Value.int 13 0, Value.str (Str.mk #[6, 189, 10, 95, 95, 109, 111, 100, 117, 108, 101, 95, 95, 6, 186, 17, 95, 102, 114, 111, 122, 101, 110, 95, 105, 109, 112, 111, 114, 116, 108, 105, 98, 6, 190, 15, 95, 95, 102, 105, 114, 115, 116, 108, 105, 110, 101, 110, 111, 95, 95, 4, 187, 0, 971, 6, 191, 7, 95, 95, 100, 111, 99, 95, 95, 9, 52, 95, 102, 114, 111, 122, 101, 110, 95, 105, 109, 112, 111, 114, 116, 108, 105, 98, 46, 66, 117, 105, 108, 116, 105, 110, 73, 109, 112, 111, 114, 116, 101, 114, 46, 95, 95, 100, 111, 99, 95, 95, 58, 115, 116, 114, 35, 111, 112, 97, 113, 117, 101, 6, 192, 7, 95, 79, 82, 73, 71, 73, 78, 6, 188, 8, 98, 117, 105, 108, 116, 45, 105, 110, 6, 193, 9, 102, 105, 110, 100, 95, 115, 112, 101, 99, 9, 50, 95, 102, 114, 111, 122, 101, 110, 95, 105, 109, 112, 111, 114, 116, 108, 105, 98, 46, 66, 117, 105, 108, 116, 105, 110, 73, 109, 112, 111, 114, 116, 101, 114, 46, 102, 105, 110, 100, 95, 115, 112, 101, 99, 35, 111, 112, 97, 113, 117, 101, 6, 194, 13, 99, 114, 101, 97, 116, 101, 95, 109, 111, 100, 117, 108, 101, 9, 54, 95, 102, 114, 111, 122, 101, 110, 95, 105, 109, 112, 111, 114, 116, 108, 105, 98, 46, 66, 117, 105, 108, 116, 105, 110, 73, 109, 112, 111, 114, 116, 101, 114, 46, 99, 114, 101, 97, 116, 101, 95, 109, 111, 100, 117, 108, 101, 35, 111, 112, 97, 113, 117, 101, 6, 195, 11, 101, 120, 101, 99, 95, 109, 111, 100, 117, 108, 101, 9, 52, 95, 102, 114, 111, 122, 101, 110, 95, 105, 109, 112, 111, 114, 116, 108, 105, 98, 46, 66, 117, 105, 108, 116, 105, 110, 73, 109, 112, 111, 114, 116, 101, 114, 46, 101, 120, 101, 99, 95, 109, 111, 100, 117, 108, 101, 35, 111, 112, 97, 113, 117, 101, 6, 196, 8, 103, 101, 116, 95, 99, 111, 100, 101, 9, 49, 95, 102, 114, 111, 122, 101, 110, 95, 105, 109, 112, 111, 114, 116, 108, 105, 98, 46, 66, 117, 105, 108, 116, 105, 110, 73, 109, 112, 111, 114, 116, 101, 114, 46, 103, 101, 116, 95, 99, 111, 100, 101, 35, 111, 112, 97, 113, 117, 101, 6, 197, 10, 103, 101, 116, 95, 115, 111, 117, 114, 99, 101, 9, 51, 95, 102, 114, 111, 122, 101, 110, 95, 105, 109, 112, 111, 114, 116, 108, 105, 98, 46, 66, 117, 105, 108, 116, 105, 110, 73, 109, 112, 111, 114, 116, 101, 114, 46, 103, 101, 116, 95, 115, 111, 117, 114, 99, 101, 35, 111, 112, 97, 113, 117, 101, 6, 198, 10, 105, 115, 95, 112, 97, 99, 107, 97, 103, 101, 9, 51, 95, 102, 114, 111, 122, 101, 110, 95, 105, 109, 112, 111, 114, 116, 108, 105, 98, 46, 66, 117, 105, 108, 116, 105, 110, 73, 109, 112, 111, 114, 116, 101, 114, 46, 105, 115, 95, 112, 97, 99, 107, 97, 103, 101, 35, 111, 112, 97, 113, 117, 101, 6, 199, 11, 108, 111, 97, 100, 95, 109, 111, 100, 117, 108, 101, 9, 52, 95, 102, 114, 111, 122, 101, 110, 95, 105, 109, 112, 111, 114, 116, 108, 105, 98, 46, 66, 117, 105, 108, 116, 105, 110, 73, 109, 112, 111, 114, 116, 101, 114, 46, 108, 111, 97, 100, 95, 109, 111, 100, 117, 108, 101, 35, 111, 112, 97, 113, 117, 101, 6, 200, 21, 95, 95, 115, 116, 97, 116, 105, 99, 95, 97, 116, 116, 114, 105, 98, 117, 116, 101, 115, 95, 95, 4, 0, 0, 15, 6, 202, 8, 95, 95, 100, 105, 99, 116, 95, 95, 4, 0, 0, 16, 6, 204, 11, 95, 95, 119, 101, 97, 107, 114, 101, 102, 95, 95, 4, 0, 0, 17]) 0, Value.bool true, Value.bool true, Value.str (Str.ofString "") 205, Value.int 21 0, Value.str (Str.mk #[6, 227, 10, 95, 95, 109, 111, 100, 117, 108, 101, 95, 95, 6, 217, 17, 95, 102, 114, 111, 122, 101, 110, 95, 105, 109, 112, 111, 114, 116, 108, 105, 98, 6, 228, 15, 95, 95, 102, 105, 114, 115, 116, 108, 105, 110, 101, 110, 111, 95, 95, 4, 218, 0, 562, 6, 229, 7, 95, 95, 100, 111, 99, 95, 95, 9, 47, 95, 102, 114, 111, 122, 101, 110, 95, 105, 109, 112, 111, 114, 116, 108, 105, 98, 46, 77, 111, 100, 117, 108, 101, 83, 112, 101, 99, 46, 95, 95, 100, 111, 99, 95, 95, 58, 115, 116, 114, 35, 111, 112, 97, 113, 117, 101, 6, 230, 8, 95, 95, 105, 110, 105, 116, 95, 95, 9, 44, 95, 102, 114, 111, 122, 101, 110, 95, 105, 109, 112, 111, 114, 116, 108, 105, 98, 46, 77, 111, 100, 117, 108, 101, 83, 112, 101, 99, 46, 95, 95, 105, 110, 105, 116, 95, 95, 35, 111, 112, 97, 113, 117, 101, 6, 231, 8, 95, 95, 114, 101, 112, 114, 95, 95, 9, 44, 95, 102, 114, 111, 122, 101, 110, 95, 105, 109, 112, 111, 114, 116, 108, 105, 98, 46, 77, 111, 100, 117, 108, 101, 83, 112, 101, 99, 46, 95, 95, 114, 101, 112, 114, 95, 95, 35, 111, 112, 97, 113, 117, 101, 6, 232, 6, 95, 95, 101, 113, 95, 95, 9, 42, 95, 102, 114, 111, 122, 101, 110, 95, 105, 109, 112, 111, 114, 116, 108, 105, 98, 46, 77, 111, 100, 117, 108, 101, 83, 112, 101, 99, 46, 95, 95, 101, 113, 95, 95, 35, 111, 112, 97, 113, 117, 101, 6, 233, 6, 99, 97, 99, 104, 101, 100, 9, 42, 95, 102, 114, 111, 122, 101, 110, 95, 105, 109, 112, 111, 114, 116, 108, 105, 98, 46, 77, 111, 100, 117, 108, 101, 83, 112, 101, 99, 46, 99, 97, 99, 104, 101, 100, 35, 111, 112, 97, 113, 117, 101, 6, 234, 6, 112, 97, 114, 101, 110, 116, 9, 42, 95, 102, 114, 111, 122, 101, 110, 95, 105, 109, 112, 111, 114, 116, 108, 105, 98, 46, 77, 111, 100, 117, 108, 101, 83, 112, 101, 99, 46, 112, 97, 114, 101, 110, 116, 35, 111, 112, 97, 113, 117, 101, 6, 235, 12, 104, 97, 115, 95, 108, 111, 99, 97, 116, 105, 111, 110, 9, 48, 95, 102, 114, 111, 122, 101, 110, 95, 105, 109, 112, 111, 114, 116, 108, 105, 98, 46, 77, 111, 100, 117, 108, 101, 83, 112, 101, 99, 46, 104, 97, 115, 95, 108, 111, 99, 97, 116, 105, 111, 110, 35, 111, 112, 97, 113, 117, 101, 6, 236, 21, 95, 95, 115, 116, 97, 116, 105, 99, 95, 97, 116, 116, 114, 105, 98, 117, 116, 101, 115, 95, 95, 4, 0, 0, 23, 6, 238, 8, 95, 95, 100, 105, 99, 116, 95, 95, 4, 0, 0, 24, 6, 240, 11, 95, 95, 119, 101, 97, 107, 114, 101, 102, 95, 95, 4, 0, 0, 25, 6, 241, 8, 95, 95, 104, 97, 115, 104, 95, 95, 0]) 0, Value.bool true, Value.bool true, Value.str (Str.ofString "") 242] 1) #[]
noncomputable def o19v0 (P : Params) : Obj := Obj.mk (Value.type "list") none (Data.seq #[]) #[]
noncomputable def o20v0 (P : Params) : Obj := Obj.mk (Value.type "dict") none (Data.dict #[DictEntry.mk (PyData.keyHash P (Str.ofString "name")) (Value.str (Str.ofString "name") 208) (Value.str (Str.ofString "_sre") 207), DictEntry.mk (PyData.keyHash P (Str.ofString "loader")) (Value.str (Str.ofString "loader") 209) (Value.ref 14), DictEntry.mk (PyData.keyHash P (Str.ofString "origin")) (Value.str (Str.ofString "origin") 210) (Value.str (Str.ofString "built-in") 184), DictEntry.mk (PyData.keyHash P (Str.ofString "loader_state")) (Value.str (Str.ofString "loader_state") 211) Value.none, DictEntry.mk (PyData.keyHash P (Str.ofString "submodule_search_locations")) (Value.str (Str.ofString "submodule_search_locations") 212) Value.none, DictEntry.mk (PyData.keyHash P (Str.ofString "_uninitialized_submodules")) (Value.str (Str.ofString "_uninitialized_submodules") 213) (Value.ref 19), DictEntry.mk (PyData.keyHash P (Str.ofString "_set_fileattr")) (Value.str (Str.ofString "_set_fileattr") 214) (Value.bool false), DictEntry.mk (PyData.keyHash P (Str.ofString "_cached")) (Value.str (Str.ofString "_cached") 215) Value.none, DictEntry.mk (PyData.keyHash P (Str.ofString "_initializing")) (Value.str (Str.ofString "_initializing") 243) (Value.bool false)] 9) #[]
noncomputable def o21v0 (P : Params) : Obj := Obj.mk (Value.type "dict") none (Data.dict #[DictEntry.mk (PyData.keyHash P (Str.ofString "__module__")) (Value.str (Str.ofString "__module__") 227) (Value.str (Str.ofString "_frozen_importlib") 217), DictEntry.mk (PyData.keyHash P (Str.ofString "__firstlineno__")) (Value.str (Str.ofString "__firstlineno__") 228) (Value.int 562 218), DictEntry.mk (PyData.keyHash P (Str.ofString "__doc__")) (Value.str (Str.ofString "__doc__") 229) (Value.builtin "_frozen_importlib.ModuleSpec.__doc__:str#opaque"), DictEntry.mk (PyData.keyHash P (Str.ofString "__init__")) (Value.str (Str.ofString "__init__") 230) (Value.builtin "_frozen_importlib.ModuleSpec.__init__#opaque"), DictEntry.mk (PyData.keyHash P (Str.ofString "__repr__")) (Value.str (Str.ofString "__repr__") 231) (Value.builtin "_frozen_importlib.ModuleSpec.__repr__#opaque"), DictEntry.mk (PyData.keyHash P (Str.ofString "__eq__")) (Value.str (Str.ofString "__eq__") 232) (Value.builtin "_frozen_importlib.ModuleSpec.__eq__#opaque"), DictEntry.mk (PyData.keyHash P (Str.ofString "cached")) (Value.str (Str.ofString "cached") 233) (Value.builtin "_frozen_importlib.ModuleSpec.cached#opaque"), DictEntry.mk (PyData.keyHash P (Str.ofString "parent")) (Value.str (Str.ofString "parent") 234) (Value.builtin "_frozen_importlib.ModuleSpec.parent#opaque"), DictEntry.mk (PyData.keyHash P (Str.ofString "has_location")) (Value.str (Str.ofString "has_location") 235) (Value.builtin "_frozen_importlib.ModuleSpec.has_location#opaque"), DictEntry.mk (PyData.keyHash P (Str.ofString "__static_attributes__")) (Value.str (Str.ofString "__static_attributes__") 236) (Value.ref 23), DictEntry.mk (PyData.keyHash P (Str.ofString "__dict__")) (Value.str (Str.ofString "__dict__") 238) (Value.ref 24), DictEntry.mk (PyData.keyHash P (Str.ofString "__weakref__")) (Value.str (Str.ofString "__weakref__") 240) (Value.ref 25), DictEntry.mk (PyData.keyHash P (Str.ofString "__hash__")) (Value.str (Str.ofString "__hash__") 241) Value.none] 13) #[]
noncomputable def o22v0 (P : Params) : Obj := Obj.mk (Value.type "type") none (Data.cls (ClassData.mk (Str.ofString "ModuleSpec") [Value.type "object"] [Value.ref 22, Value.type "object"] 21 (Str.ofString "ModuleSpec") true [] [] false none false)) #[]
noncomputable def o23v0 (P : Params) : Obj := Obj.mk (Value.type "tuple") none (Data.seq #[Value.str (Str.ofString "_cached") 219, Value.str (Str.ofString "_set_fileattr") 220, Value.str (Str.ofString "_uninitialized_submodules") 221, Value.str (Str.ofString "loader") 222, Value.str (Str.ofString "loader_state") 223, Value.str (Str.ofString "name") 224, Value.str (Str.ofString "origin") 225, Value.str (Str.ofString "submodule_search_locations") 226]) #[]
noncomputable def o24v0 (P : Params) : Obj := Obj.mk (Value.type "getset_descriptor") none (Data.fields #[Value.str (Str.ofString "__dict__") 237, Value.ref 22, Value.builtin "function.__dict__", Value.builtin "function.__dict__#set"]) #[]
noncomputable def o25v0 (P : Params) : Obj := Obj.mk (Value.type "getset_descriptor") none (Data.fields #[Value.str (Str.ofString "__weakref__") 239, Value.ref 22, Value.builtin "ExceptionGroup.__weakref__", Value.none]) #[]
noncomputable def o26v0 (P : Params) : Obj := Obj.mk (Value.ref 22) (some 20) Data.plain #[]
noncomputable def o27v0 (P : Params) : Obj := Obj.mk Value.none none (Data.seq #[Value.int 11 0, Value.str (Str.mk #[6, 247, 8, 95, 95, 110, 97, 109, 101, 95, 95, 6, 246, 4, 95, 115, 114, 101, 6, 248, 7, 95, 95, 100, 111, 99, 95, 95, 0, 6, 250, 11, 95, 95, 112, 97, 99, 107, 97, 103, 101, 95, 95, 6, 249, 0, 6, 251, 10, 95, 95, 108, 111, 97, 100, 101, 114, 95, 95, 4, 0, 0, 14, 6, 252, 8, 95, 95, 115, 112, 101, 99, 95, 95, 4, 0, 0, 26, 6, 253, 7, 99, 111, 109, 112, 105, 108, 101, 9, 12, 95, 115, 114, 101, 46, 99, 111, 109, 112, 105, 108, 101, 6, 254, 8, 116, 101, 109, 112, 108, 97, 116, 101, 9, 13, 95, 115, 114, 101, 46, 116, 101, 109, 112, 108, 97, 116, 101, 6, 255, 11, 103, 101, 116, 99, 111, 100, 101, 115, 105, 122, 101, 9, 16, 95, 115, 114, 101, 46, 103, 101, 116, 99, 111, 100, 101, 115, 105, 122, 101, 6, 256, 13, 97, 115, 99, 105, 105, 95, 105, 115, 99, 97, 115, 101, 100, 9, 18, 95, 115, 114, 101, 46, 97, 115, 99, 105, 105, 95, 105, 115, 99, 97, 115, 101, 100, 6, 257, 15, 117, 110, 105, 99, 111, 100, 101, 95, 105, 115, 99, 97, 115, 101, 100, 9, 20, 95, 115, 114, 101, 46, 117, 110, 105, 99, 111, 100, 101, 95, 105, 115, 99, 97, 115, 101, 100, 6, 258, 13, 97, 115, 99, 105, 105, 95, 116, 111, 108, 111, 119, 101, 114, 9, 18, 95, 115, 114, 101, 46, 97, 115, 99, 105, 105, 95, 116, 111, 108, 111, 119, 101, 114, 6, 259, 15, 117, 110, 105, 99, 111, 100, 101, 95, 116, 111, 108, 111, 119, 101, 114, 9, 20, 95, 115, 114, 101, 46, 117, 110, 105, 99, 111, 100, 101, 95, 116, 111, 108, 111, 119, 101, 114, 6, 261, 5, 77, 65, 71, 73, 67, 4, 260, 0, 20230612, 6, 263, 8, 67, 79, 68, 69, 83, 73, 90, 69, 4, 262, 0, 4, 6, 265, 9, 77, 65, 88, 82, 69, 80, 69, 65, 84, 4, 264, 0, 4294967295, 6, 267, 9, 77, 65, 88, 71, 82, 79, 85, 80, 83, 4, 266, 0, 1073741823, 6, 269, 9, 99, 111, 112, 121, 114, 105, 103, 104, 116, 6, 268, 53, 32, 83, 82, 69, 32, 50, 46, 50, 46, 50, 32, 67, 111, 112, 121, 114, 105, 103, 104, 116, 32, 40, 99, 41, 32, 49, 57, 57, 55, 45, 50, 48, 48, 50, 32, 98, 121, 32, 83, 101, 99, 114, 101, 116, 32, 76, 97, 98, 115, 32, 65, 66, 32]) 0, Value.bool true, Value.bool false, Value.str (Str.ofString "_sre") 271]) #[]
noncomputable def o28v0 (P : Params) : Obj := Obj.mk (Value.type "tuple") none (Data.seq #[]) #[]
noncomputable def o29v0 (P : Params) : Obj := Obj.mk Value.none none (Data.fields #[]) #[]
noncomputable def o30v0 (P : Params) : Obj := Obj.mk (Value.type "code") none (Data.fields #[Value.str (Str.ofString "<module>") 277, Value.str (Str.ofString "<module>") 278, Value.str (Str.ofString "/claim/cut.py") 279, Value.int 1 0, Value.int 0 0, Value.int 0 0, Value.int 0 0, Value.int 0 0, Value.ref 28, Value.bool false, Value.int 276 0, Value.ref 29, Value.none, Value.none, Value.none, Value.none, Value.int 280 0, Value.int 1 0, Value.str (Str.ofString "/claim/cut.py") 281]) #[]
noncomputable def o31v0 (P : Params) : Obj := Obj.mk (Value.type "frame") none Data.plain #[some (Value.ref 30), some (Value.ref 3), some (Value.ref 3), none, some (Value.str (Str.ofString "__main__") 164), none, some (Value.ref 0)]
noncomputable def o3v1 (P : Params) : Obj := Obj.mk (Value.type "dict") none (Data.dict #[DictEntry.mk (PyData.keyHash P (Str.ofString "__name__")) (Value.str (Str.ofString "__name__") 165) (Value.str (Str.ofString "cpy313.stringprep") 367), DictEntry.mk (PyData.keyHash P (Str.ofString "__doc__")) (Value.str (Str.ofString "__doc__") 166) Value.none, DictEntry.mk (PyData.keyHash P (Str.ofString "__package__")) (Value.str (Str.ofString "__package__") 167) Value.none, DictEntry.mk (PyData.keyHash P (Str.ofString "__loader__")) (Value.str (Str.ofString "__loader__") 168) (Value.builtin "__main__.__loader__#opaque"), DictEntry.mk (PyData.keyHash P (Str.ofString "__spec__")) (Value.str (Str.ofString "__spec__") 169) Value.none, DictEntry.mk (PyData.keyHash P (Str.ofString "__annotations__")) (Value.str (Str.ofString "__annotations__") 170) (Value.ref 6), DictEntry.mk (PyData.keyHash P (Str.ofString "__builtins__")) (Value.str (Str.ofString "__builtins__") 171) (Value.ref 4), DictEntry.mk (PyData.keyHash P (Str.ofString "__file__")) (Value.str (Str.ofString "__file__") 173) (Value.str (Str.ofString "/claim/cut.py") 172), DictEntry.mk (PyData.keyHash P (Str.ofString "__cached__")) (Value.str (Str.ofString "__cached__") 174) Value.none, DictEntry.mk (PyData.keyHash P (Str.ofString "_sre")) (Value.str (Str.ofString "_sre") 275) (Value.ref 12), DictEntry.mk (PyData.keyHash P (Str.ofString "_twin_re_1")) (Value.str (Str.ofString "_twin_re_1") 299) (Value.ref 36), DictEntry.mk (PyData.keyHash P (Str.ofString "_twin_re_2")) (Value.str (Str.ofString "_twin_re_2") 341) (Value.ref 41), DictEntry.mk (PyData.keyHash P (Str.ofString "CRLF")) (Value.str (Str.ofString "CRLF") 343) (Value.str (Str.ofString "\x0d\n") 342), DictEntry.mk (PyData.keyHash P (Str.ofString "quotedata")) (Value.str (Str.ofString "quotedata") 350) (Value.ref 48), DictEntry.mk (PyData.keyHash P (Str.ofString "_fix_eols")) (Value.str (Str.ofString "_fix_eols") 357) (Value.ref 55), DictEntry.mk (PyData.keyHash P (Str.ofString "_comment_line")) (Value.str (Str.ofString "_comment_line") 366) (Value.ref 62)] 16) #[]
noncomputable def o29v1 (P : Params) : Obj := Obj.mk Value.none none (Data.fields #[Value.int 6 0, Value.int 0 0, Value.ref 47, Value.int 8 0, Value.int 0 0, Value.ref 54, Value.int 11 0, Value.int 0 0, Value.ref 61]) #[]
noncomputable def o32v0 (P : Params) : Obj := Obj.mk (Value.type "list") none (Data.seq #[Value.int 14 287, Value.int 4 288, Value.int 0 289, Value.int 1 290, Value.int 1 291, Value.int 6 292, Value.int 1 293, Value.int 16 294, Value.int 46 295, Value.int 1 296]) #[]
noncomputable def o33v0 (P : Params) : Obj := Obj.mk (Value.type "dict") none (Data.dict #[]) #[]
noncomputable def o34v0 (P : Params) : Obj := Obj.mk (Value.type "tuple") none (Data.seq #[Value.none]) #[]
noncomputable def o35v0 (P : Params) : Obj := Obj.mk (Value.type "tuple") none (Data.seq #[Value.int 14 0, Value.int 4 0, Value.int 0 0, Value.int 1 0, Value.int 1 0, Value.int 6 0, Value.int 1 0, Value.int 16 0, Value.int 46 0, Value.int 1 0]) #[]
noncomputable def o36v0 (P : Params) : Obj := Obj.mk (Value.type "re.Pattern") none (Data.fields #[Value.str (Str.ofString "(?m)^\\.") 285, Value.int 40 298, Value.int 0 0, Value.none, Value.none, Value.ref 35, Value.int 0 0]) #[]
noncomputable def o37v0 (P : Params) : Obj := Obj.mk (Value.type "list") none (Data.seq #[Value.int 14 303, Value.int 9 304, Value.int 4 305, Value.int 1 306, Value.int 2 307, Value.int 16 308, Value.int 10 309, Value.int 16 310, Value.int 13 311, Value.int 0 312, Value.int 7 313, Value.int 7 314, Value.int 16 315, Value.int 13 316, Value.int 16 317, Value.int 10 318, Value.int 15 319, Value.int 18 320, Value.int 5 321, Value.int 16 322, Value.int 10 323, Value.int 15 324, Value.int 13 325, Value.int 11 326, Value.int 16 327, Value.int 13 328, Value.int 5 329, Value.int 5 330, Value.int 0 331, Value.int 16 332, Value.int 10 333, Value.int 1 334, Value.int 15 335, Value.int 2 336, Value.int 0 337, Value.int 1 338]) #[]
noncomputable def o38v0 (P : Params) : Obj := Obj.mk (Value.type "dict") none (Data.dict #[]) #[]
noncomputable def o39v0 (P : Params) : Obj := Obj.mk (Value.type "tuple") none (Data.seq #[Value.none]) #[]
noncomputable def o40v0 (P : Params) : Obj := Obj.mk (Value.type "tuple") none (Data.seq #[Value.int 14 0, Value.int 9 0, Value.int 4 0, Value.int 1 0, Value.int 2 0, Value.int 16 0, Value.int 10 0, Value.int 16 0, Value.int 13 0, Value.int 0 0, Value.int 7 0, Value.int 7 0, Value.int 16 0, Value.int 13 0, Value.int 16 0, Value.int 10 0, Value.int 15 0, Value.int 18 0, Value.int 5 0, Value.int 16 0, Value.int 10 0, Value.int 15 0, Value.int 13 0, Value.int 11 0, Value.int 16 0, Value.int 13 0, Value.int 5 0, Value.int 5 0, Value.int 0 0, Value.int 16 0, Value.int 10 0, Value.int 1 0, Value.int 15 0, Value.int 2 0, Value.int 0 0, Value.int 1 0]) #[]
noncomputable def o41v0 (P : Params) : Obj := Obj.mk (Value.type "re.Pattern") none (Data.fields #[Value.str (Str.ofString "(?:\\r\\n|\\n|\\r(?!\\n))") 301, Value.int 32 340, Value.int 0 0, Value.none, Value.none, Value.ref 40, Value.int 0 0]) #[]
noncomputable def o42v0 (P : Params) : Obj := Obj.mk (Value.type "tuple") none (Data.seq #[]) #[]
noncomputable def o43v0 (P : Params) : Obj := Obj.mk Value.none none (Data.fields #[]) #[]
noncomputable def o44v0 (P : Params) : Obj := Obj.mk (Value.type "tuple") none (Data.seq #[Value.str (Str.ofString "data") 347]) #[]
noncomputable def o45v0 (P : Params) : Obj := Obj.mk (Value.type "tuple") none (Data.seq #[]) #[]
noncomputable def o46v0 (P : Params) : Obj := Obj.mk Value.none none (Data.func (FuncData.mk (Str.ofString "quotedata") (Str.ofString "quotedata") (fnArgs 5) (FuncBody.stmts (fnBody 5)) (fnScope 5) 0 [] Value.none Value.none Value.none Value.none none Value.none Value.none 0)) #[]
noncomputable def o47v0 (P : Params) : Obj := Obj.mk (Value.type "code") none (Data.fields #[Value.str (Str.ofString "quotedata") 344, Value.str (Str.ofString "quotedata") 345, Value.str (Str.ofString "/claim/cut.py") 346, Value.int 6 0, Value.int 1 0, Value.int 0 0, Value.int 0 0, Value.int 3 0, Value.ref 42, Value.bool true, Value.int 276 0, Value.ref 43, Value.none, Value.ref 44, Value.ref 45, Value.ref 46, Value.int 348 0, Value.int 6 0, Value.str (Str.ofString "/claim/cut.py") 349]) #[]
noncomputable def o48v0 (P : Params) : Obj := Obj.mk (Value.type "function") none (Data.func (FuncData.mk (Str.ofString "quotedata") (Str.ofString "quotedata") (fnArgs 5) (FuncBody.stmts (fnBody 5)) (fnScope 5) 3 [] Value.none Value.none Value.none (Value.str (Str.ofString "cpy313.smtplib") 282) none (Value.ref 47) Value.none 0)) #[]
noncomputable def o49v0 (P : Params) : Obj := Obj.mk (Value.type "tuple") none (Data.seq #[]) #[]
noncomputable def o50v0 (P : Params) : Obj := Obj.mk Value.none none (Data.fields #[]) #[]
noncomputable def o51v0 (P : Params) : Obj := Obj.mk (Value.type "tuple") none (Data.seq #[Value.str (Str.ofString "data") 354]) #[]
noncomputable def o52v0 (P : Params) : Obj := Obj.mk (Value.type "tuple") none (Data.seq #[]) #[]
noncomputable def o53v0 (P : Params) : Obj := Obj.mk Value.none none (Data.func (FuncData.mk (Str.ofString "_fix_eols") (Str.ofString "_fix_eols") (fnArgs 6) (FuncBody.stmts (fnBody 6)) (fnScope 6) 0 [] Value.none Value.none Value.none Value.none none Value.none Value.none 0)) #[]
noncomputable def o54v0 (P : Params) : Obj := Obj.mk (Value.type "code") none (Data.fields #[Value.str (Str.ofString "_fix_eols") 351, Value.str (Str.ofString "_fix_eols") 352, Value.str (Str.ofString "/claim/cut.py") 353, Value.int 8 0, Value.int 1 0, Value.int 0 0, Value.int 0 0, Value.int 3 0, Value.ref 49, Value.bool true, Value.int 276 0, Value.ref 50, Value.none, Value.ref 51, Value.ref 52, Value.ref 53, Value.int 355 0, Value.int 8 0, Value.str (Str.ofString "/claim/cut.py") 356]) #[]
noncomputable def o55v0 (P : Params) : Obj := Obj.mk (Value.type "function") none (Data.func (FuncData.mk (Str.ofString "_fix_eols") (Str.ofString "_fix_eols") (fnArgs 6) (FuncBody.stmts (fnBody 6)) (fnScope 6) 3 [] Value.none Value.none Value.none (Value.str (Str.ofString "cpy313.smtplib") 282) none (Value.ref 54) Value.none 0)) #[]
noncomputable def o56v0 (P : Params) : Obj := Obj.mk (Value.type "tuple") none (Data.seq #[]) #[]
noncomputable def o57v0 (P : Params) : Obj := Obj.mk Value.none none (Data.fields #[]) #[]
noncomputable def o58v0 (P : Params) : Obj := Obj.mk (Value.type "tuple") none (Data.seq #[Value.str (Str.ofString "line") 363]) #[]
noncomputable def o59v0 (P : Params) : Obj := Obj.mk (Value.type "tuple") none (Data.seq #[]) #[]
noncomputable def o60v0 (P : Params) : Obj := Obj.mk Value.none none (Data.func (FuncData.mk (Str.ofString "_comment_line") (Str.ofString "_comment_line") (fnArgs 8) (FuncBody.stmts (fnBody 8)) (fnScope 8) 0 [] Value.none Value.none Value.none Value.none none Value.none Value.none 0)) #[]
noncomputable def o61v0 (P : Params) : Obj := Obj.mk (Value.type "code") none (Data.fields #[Value.str (Str.ofString "_comment_line") 360, Value.str (Str.ofString "_comment_line") 361, Value.str (Str.ofString "/claim/cut.py") 362, Value.int 11 0, Value.int 1 0, Value.int 0 0, Value.int 0 0, Value.int 3 0, Value.ref 56, Value.bool true, Value.int 276 0, Value.ref 57, Value.none, Value.ref 58, Value.ref 59, Value.ref 60, Value.int 364 0, Value.int 11 0, Value.str (Str.ofString "/claim/cut.py") 365]) #[]
noncomputable def o62v0 (P : Params) : Obj := Obj.mk (Value.type "function") none (Data.func (FuncData.mk (Str.ofString "_comment_line") (Str.ofString "_comment_line") (fnArgs 8) (FuncBody.stmts (fnBody 8)) (fnScope 8) 3 [] Value.none Value.none Value.none (Value.str (Str.ofString "cpy313.doctest") 358) none (Value.ref 61) Value.none 0)) #[]
noncomputable def o3v2 (P : Params) : Obj := Obj.mk (Value.type "dict") none (Data.dict #[DictEntry.mk (PyData.keyHash P (Str.ofString "__name__")) (Value.str (Str.ofString "__name__") 165) (Value.str (Str.ofString "cpy313.stringprep") 367), DictEntry.mk (PyData.keyHash P (Str.ofString "__doc__")) (Value.str (Str.ofString "__doc__") 166) Value.none, DictEntry.mk (PyData.keyHash P (Str.ofString "__package__")) (Value.str (Str.ofString "__package__") 167) Value.none, DictEntry.mk (PyData.keyHash P (Str.ofString "__loader__")) (Value.str (Str.ofString "__loader__") 168) (Value.builtin "__main__.__loader__#opaque"), DictEntry.mk (PyData.keyHash P (Str.ofString "__spec__")) (Value.str (Str.ofString "__spec__") 169) Value.none, DictEntry.mk (PyData.keyHash P (Str.ofString "__annotations__")) (Value.str (Str.ofString "__annotations__") 170) (Value.ref 6), DictEntry.mk (PyData.keyHash P (Str.ofString "__builtins__")) (Value.str (Str.ofString "__builtins__") 171) (Value.ref 4), DictEntry.mk (PyData.keyHash P (Str.ofString "__file__")) (Value.str (Str.ofString "__file__") 173) (Value.str (Str.ofString "/claim/cut.py") 172), DictEntry.mk (PyData.keyHash P (Str.ofString "__cached__")) (Value.str (Str.ofString "__cached__") 174) Value.none, DictEntry.mk (PyData.keyHash P (Str.ofString "_sre")) (Value.str (Str.ofString "_sre") 275) (Value.ref 12), DictEntry.mk (PyData.keyHash P (Str.ofString "_twin_re_1")) (Value.str (Str.ofString "_twin_re_1") 299) (Value.ref 36), DictEntry.mk (PyData.keyHash P (Str.ofString "_twin_re_2")) (Value.str (Str.ofString "_twin_re_2") 341) (Value.ref 41), DictEntry.mk (PyData.keyHash P (Str.ofString "CRLF")) (Value.str (Str.ofString "CRLF") 343) (Value.str (Str.ofString "\x0d\n") 342), DictEntry.mk (PyData.keyHash P (Str.ofString "quotedata")) (Value.str (Str.ofString "quotedata") 350) (Value.ref 48), DictEntry.mk (PyData.keyHash P (Str.ofString "_fix_eols")) (Value.str (Str.ofString "_fix_eols") 357) (Value.ref 55), DictEntry.mk (PyData.keyHash P (Str.ofString "_comment_line")) (Value.str (Str.ofString "_comment_line") 366) (Value.ref 62), DictEntry.mk (PyData.keyHash P (Str.ofString "b1_set")) (Value.str (Str.ofString "b1_set") 428) (Value.ref 70)] 17) #[]
noncomputable def o63v0 (P : Params) : Obj := Obj.mk (Value.type "list") none (Data.seq #[Value.int 173 369, Value.int 847 370, Value.int 6150 371, Value.int 6155 372, Value.int 6156 373, Value.int 6157 374, Value.int 8203 375, Value.int 8204 376, Value.int 8205 377, Value.int 8288 378, Value.int 65279 379]) #[]
noncomputable def o64v0 (P : Params) : Obj := Obj.mk (Value.type "range") none (Data.fields #[Value.int 65024 380, Value.int 65040 381, Value.int 1 382]) #[]
noncomputable def o65v0 (P : Params) : Obj := Obj.mk (Value.type "list") none (Data.seq #[Value.int 65024 385, Value.int 65025 386, Value.int 65026 387, Value.int 65027 388, Value.int 65028 389, Value.int 65029 390, Value.int 65030 391, Value.int 65031 392, Value.int 65032 393, Value.int 65033 394, Value.int 65034 395, Value.int 65035 396, Value.int 65036 397, Value.int 65037 398, Value.int 65038 399, Value.int 65039 400] 18) #[]
noncomputable def o66v0 (P : Params) : Obj := Obj.mk (Value.type "range_iterator") none (Data.fields #[Value.int 65040 0, Value.int 0 0, Value.int 1 0]) #[]
noncomputable def o67v0 (P : Params) : Obj := Obj.mk (Value.type "tuple") none (Data.seq #[]) #[]
noncomputable def o68v0 (P : Params) : Obj := Obj.mk (Value.type "StopIteration") none (Data.fields #[Value.ref 67, Value.none, Value.none, Value.none, Value.bool false, Value.none]) #[]
noncomputable def o69v0 (P : Params) : Obj := Obj.mk (Value.type "list") none (Data.seq #[Value.int 173 369, Value.int 847 370, Value.int 6150 371, Value.int 6155 372, Value.int 6156 373, Value.int 6157 374, Value.int 8203 375, Value.int 8204 376, Value.int 8205 377, Value.int 8288 378, Value.int 65279 379, Value.int 65024 385, Value.int 65025 386, Value.int 65026 387, Value.int 65027 388, Value.int 65028 389, Value.int 65029 390, Value.int 65030 391, Value.int 65031 392, Value.int 65032 393, Value.int 65033 394, Value.int 65034 395, Value.int 65035 396, Value.int 65036 397, Value.int 65037 398, Value.int 65038 399, Value.int 65039 400]) #[]
noncomputable def o70v0 (P : Params) : Obj := Obj.mk (Value.type "set") none (Data.set #[(65024, Value.int 65024 385), (65025, Value.int 65025 386), (65026, Value.int 65026 387), (65027, Value.int 65027 388), (65028, Value.int 65028 389), (65029, Value.int 65029 390), (6150, Value.int 6150 371), (65030, Value.int 65030 391), (65031, Value.int 65031 392), (65032, Value.int 65032 393), (65033, Value.int 65033 394), (6155, Value.int 6155 372), (6156, Value.int 6156 373), (6157, Value.int 6157 374), (8203, Value.int 8203 375), (8204, Value.int 8204 376), (8205, Value.int 8205 377), (65034, Value.int 65034 395), (65035, Value.int 65035 396), (65036, Value.int 65036 397), (65037, Value.int 65037 398), (65038, Value.int 65038 399), (65039, Value.int 65039 400), (173, Value.int 173 369), (847, Value.int 847 370), (8288, Value.int 8288 378), (65279, Value.int 65279 379)] 29 (SetTable.mk 127 #[0, 1, 2, 3, 4, 5, 6, 7, 8, 9, 10, 11, 12, 13, 14, 15, 16, 17, 18, 19, 20, 21, 22, 45, 79, 96, 127] #[] 0 (!Params.followText P "set-order") 2 true)) #[]
noncomputable def o71v0 (P : Params) : Obj := Obj.mk (Value.type "list_iterator") none (Data.fields #[Value.none, Value.int 27 0]) #[]
noncomputable def o72v0 (P : Params) : Obj := Obj.mk (Value.type "tuple") none (Data.seq #[]) #[]
noncomputable def o73v0 (P : Params) : Obj := Obj.mk (Value.type "StopIteration") none (Data.fields #[Value.ref 72, Value.none, Value.none, Value.none, Value.bool false, Value.none]) #[]
noncomputable def o3v3 (P : Params) : Obj := Obj.mk (Value.type "dict") none (Data.dict #[DictEntry.mk (PyData.keyHash P (Str.ofString "__name__")) (Value.str (Str.ofString "__name__") 165) (Value.str (Str.ofString "cpy313.stringprep") 367), DictEntry.mk (PyData.keyHash P (Str.ofString "__doc__")) (Value.str (Str.ofString "__doc__") 166) Value.none, DictEntry.mk (PyData.keyHash P (Str.ofString "__package__")) (Value.str (Str.ofString "__package__") 167) Value.none, DictEntry.mk (PyData.keyHash P (Str.ofString "__loader__")) (Value.str (Str.ofString "__loader__") 168) (Value.builtin "__main__.__loader__#opaque"), DictEntry.mk (PyData.keyHash P (Str.ofString "__spec__")) (Value.str (Str.ofString "__spec__") 169) Value.none, DictEntry.mk (PyData.keyHash P (Str.ofString "__annotations__")) (Value.str (Str.ofString "__annotations__") 170) (Value.ref 6), DictEntry.mk (PyData.keyHash P (Str.ofString "__builtins__")) (Value.str (Str.ofString "__builtins__") 171) (Value.ref 4), DictEntry.mk (PyData.keyHash P (Str.ofString "__file__")) (Value.str (Str.ofString "__file__") 173) (Value.str (Str.ofString "/claim/cut.py") 172), DictEntry.mk (PyData.keyHash P (Str.ofString "__cached__")) (Value.str (Str.ofString "__cached__") 174) Value.none, DictEntry.mk (PyData.keyHash P (Str.ofString "_sre")) (Value.str (Str.ofString "_sre") 275) (Value.ref 12), DictEntry.mk (PyData.keyHash P (Str.ofString "_twin_re_1")) (Value.str (Str.ofString "_twin_re_1") 299) (Value.ref 36), DictEntry.mk (PyData.keyHash P (Str.ofString "_twin_re_2")) (Value.str (Str.ofString "_twin_re_2") 341) (Value.ref 41), DictEntry.mk (PyData.keyHash P (Str.ofString "CRLF")) (Value.str (Str.ofString "CRLF") 343) (Value.str (Str.ofString "\x0d\n") 342), DictEntry.mk (PyData.keyHash P (Str.ofString "quotedata")) (Value.str (Str.ofString "quotedata") 350) (Value.ref 48), DictEntry.mk (PyData.keyHash P (Str.ofString "_fix_eols")) (Value.str (Str.ofString "_fix_eols") 357) (Value.ref 55), DictEntry.mk (PyData.keyHash P (Str.ofString "_comment_line")) (Value.str (Str.ofString "_comment_line") 366) (Value.ref 62), DictEntry.mk (PyData.keyHash P (Str.ofString "b1_set")) (Value.str (Str.ofString "b1_set") 428) (Value.ref 70), DictEntry.mk (PyData.keyHash P (Str.ofString "in_table_b1")) (Value.str (Str.ofString "in_table_b1") 435) (Value.ref 80)] 18) #[]
noncomputable def o29v2 (P : Params) : Obj := Obj.mk Value.none none (Data.fields #[Value.int 6 0, Value.int 0 0, Value.ref 47, Value.int 8 0, Value.int 0 0, Value.ref 54, Value.int 11 0, Value.int 0 0, Value.ref 61, Value.int 19 0, Value.int 0 0, Value.ref 79]) #[]
noncomputable def o74v0 (P : Params) : Obj := Obj.mk (Value.type "tuple") none (Data.seq #[]) #[]
noncomputable def o75v0 (P : Params) : Obj := Obj.mk Value.none none (Data.fields #[]) #[]
noncomputable def o76v0 (P : Params) : Obj := Obj.mk (Value.type "tuple") none (Data.seq #[Value.str (Str.ofString "code") 432]) #[]
noncomputable def o77v0 (P : Params) : Obj := Obj.mk (Value.type "tuple") none (Data.seq #[]) #[]
noncomputable def o78v0 (P : Params) : Obj := Obj.mk Value.none none (Data.func (FuncData.mk (Str.ofString "in_table_b1") (Str.ofString "in_table_b1") (fnArgs 11) (FuncBody.stmts (fnBody 11)) (fnScope 11) 0 [] Value.none Value.none Value.none Value.none none Value.none Value.none 0)) #[]
noncomputable def o79v0 (P : Params) : Obj := Obj.mk (Value.type "code") none (Data.fields #[Value.str (Str.ofString "in_table_b1") 429, Value.str (Str.ofString "in_table_b1") 430, Value.str (Str.ofString "/claim/cut.py") 431, Value.int 19 0, Value.int 1 0, Value.int 0 0, Value.int 0 0, Value.int 3 0, Value.ref 74, Value.bool true, Value.int 276 0, Value.ref 75, Value.none, Value.ref 76, Value.ref 77, Value.ref 78, Value.int 433 0, Value.int 19 0, Value.str (Str.ofString "/claim/cut.py") 434]) #[]
noncomputable def o80v0 (P : Params) : Obj := Obj.mk (Value.type "function") none (Data.func (FuncData.mk (Str.ofString "in_table_b1") (Str.ofString "in_table_b1") (fnArgs 11) (FuncBody.stmts (fnBody 11)) (fnScope 11) 3 [] Value.none Value.none Value.none (Value.str (Str.ofString "cpy313.stringprep") 367) none (Value.ref 79) Value.none 0)) #[]
noncomputable def o3v4 (P : Params) : Obj := Obj.mk (Value.type "dict") none (Data.dict #[DictEntry.mk (PyData.keyHash P (Str.ofString "__name__")) (Value.str (Str.ofString "__name__") 165) (Value.str (Str.ofString "cpy313.stringprep") 367), DictEntry.mk (PyData.keyHash P (Str.ofString "__doc__")) (Value.str (Str.ofString "__doc__") 166) Value.none, DictEntry.mk (PyData.keyHash P (Str.ofString "__package__")) (Value.str (Str.ofString "__package__") 167) Value.none, DictEntry.mk (PyData.keyHash P (Str.ofString "__loader__")) (Value.str (Str.ofString "__loader__") 168) (Value.builtin "__main__.__loader__#opaque"), DictEntry.mk (PyData.keyHash P (Str.ofString "__spec__")) (Value.str (Str.ofString "__spec__") 169) Value.none, DictEntry.mk (PyData.keyHash P (Str.ofString "__annotations__")) (Value.str (Str.ofString "__annotations__") 170) (Value.ref 6), DictEntry.mk (PyData.keyHash P (Str.ofString "__builtins__")) (Value.str (Str.ofString "__builtins__") 171) (Value.ref 4), DictEntry.mk (PyData.keyHash P (Str.ofString "__file__")) (Value.str (Str.ofString "__file__") 173) (Value.str (Str.ofString "/claim/cut.py") 172), DictEntry.mk (PyData.keyHash P (Str.ofString "__cached__")) (Value.str (Str.ofString "__cached__") 174) Value.none, DictEntry.mk (PyData.keyHash P (Str.ofString "_sre")) (Value.str (Str.ofString "_sre") 275) (Value.ref 12), DictEntry.mk (PyData.keyHash P (Str.ofString "_twin_re_1")) (Value.str (Str.ofString "_twin_re_1") 299) (Value.ref 36), DictEntry.mk (PyData.keyHash P (Str.ofString "_twin_re_2")) (Value.str (Str.ofString "_twin_re_2") 341) (Value.ref 41), DictEntry.mk (PyData.keyHash P (Str.ofString "CRLF")) (Value.str (Str.ofString "CRLF") 343) (Value.str (Str.ofString "\x0d\n") 342), DictEntry.mk (PyData.keyHash P (Str.ofString "quotedata")) (Value.str (Str.ofString "quotedata") 350) (Value.ref 48), DictEntry.mk (PyData.keyHash P (Str.ofString "_fix_eols")) (Value.str (Str.ofString "_fix_eols") 357) (Value.ref 55), DictEntry.mk (PyData.keyHash P (Str.ofString "_comment_line")) (Value.str (Str.ofString "_comment_line") 366) (Value.ref 62), DictEntry.mk (PyData.keyHash P (Str.ofString "b1_set")) (Value.str (Str.ofString "b1_set") 428) (Value.ref 70), DictEntry.mk (PyData.keyHash P (Str.ofString "in_table_b1")) (Value.str (Str.ofString "in_table_b1") 435) (Value.ref 80), DictEntry.mk (PyData.keyHash P (Str.ofString "b3_exceptions")) (Value.str (Str.ofString "b3_exceptions") 2386) (Value.ref 81)] 19) #[]
noncomputable def o3v5 (P : Params) : Obj := Obj.mk (Value.type "dict") none (Data.dict #[DictEntry.mk (PyData.keyHash P (Str.ofString "__name__")) (Value.str (Str.ofString "__name__") 165) (Value.str (Str.ofString "law_re0099_01") 2395), DictEntry.mk (PyData.keyHash P (Str.ofString "__doc__")) (Value.str (Str.ofString "__doc__") 166) Value.none, DictEntry.mk (PyData.keyHash P (Str.ofString "__package__")) (Value.str (Str.ofString "__package__") 167) Value.none, DictEntry.mk (PyData.keyHash P (Str.ofString "__loader__")) (Value.str (Str.ofString "__loader__") 168) (Value.builtin "__main__.__loader__#opaque"), DictEntry.mk (PyData.keyHash P (Str.ofString "__spec__")) (Value.str (Str.ofString "__spec__") 169) Value.none, DictEntry.mk (PyData.keyHash P (Str.ofString "__annotations__")) (Value.str (Str.ofString "__annotations__") 170) (Value.ref 6), DictEntry.mk (PyData.keyHash P (Str.ofString "__builtins__")) (Value.str (Str.ofString "__builtins__") 171) (Value.ref 4), DictEntry.mk (PyData.keyHash P (Str.ofString "__file__")) (Value.str (Str.ofString "__file__") 173) (Value.str (Str.ofString "/claim/cut.py") 172), DictEntry.mk (PyData.keyHash P (Str.ofString "__cached__")) (Value.str (Str.ofString "__cached__") 174) Value.none, DictEntry.mk (PyData.keyHash P (Str.ofString "_sre")) (Value.str (Str.ofString "_sre") 275) (Value.ref 12), DictEntry.mk (PyData.keyHash P (Str.ofString "_twin_re_1")) (Value.str (Str.ofString "_twin_re_1") 299) (Value.ref 36), DictEntry.mk (PyData.keyHash P (Str.ofString "_twin_re_2")) (Value.str (Str.ofString "_twin_re_2") 341) (Value.ref 41), DictEntry.mk (PyData.keyHash P (Str.ofString "CRLF")) (Value.str (Str.ofString "CRLF") 343) (Value.str (Str.ofString "\x0d\n") 342), DictEntry.mk (PyData.keyHash P (Str.ofString "quotedata")) (Value.str (Str.ofString "quotedata") 350) (Value.ref 48), DictEntry.mk (PyData.keyHash P (Str.ofString "_fix_eols")) (Value.str (Str.ofString "_fix_eols") 357) (Value.ref 55), DictEntry.mk (PyData.keyHash P (Str.ofString "_comment_line")) (Value.str (Str.ofString "_comment_line") 366) (Value.ref 62), DictEntry.mk (PyData.keyHash P (Str.ofString "b1_set")) (Value.str (Str.ofString "b1_set") 428) (Value.ref 70), DictEntry.mk (PyData.keyHash P (Str.ofString "in_table_b1")) (Value.str (Str.ofString "in_table_b1") 435) (Value.ref 80), DictEntry.mk (PyData.keyHash P (Str.ofString "b3_exceptions")) (Value.str (Str.ofString "b3_exceptions") 2386) (Value.ref 81), DictEntry.mk (PyData.keyHash P (Str.ofString "map_table_b3")) (Value.str (Str.ofString "map_table_b3") 2394) (Value.ref 126), DictEntry.mk (PyData.keyHash P (Str.ofString "_law_folded")) (Value.str (Str.ofString "_law_folded") 2403) (Value.ref 133), DictEntry.mk (PyData.keyHash P (Str.ofString "_law_told")) (Value.str (Str.ofString "_law_told") 2409) (Value.ref 138), DictEntry.mk (PyData.keyHash P (Str.ofString "law")) (Value.str (Str.ofString "law") 2415) (Value.ref 143)] 23) #[]
noncomputable def o29v3 (P : Params) : Obj := Obj.mk Value.none none (Data.fields #[Value.int 6 0, Value.int 0 0, Value.ref 47, Value.int 8 0, Value.int 0 0, Value.ref 54, Value.int 11 0, Value.int 0 0, Value.ref 61, Value.int 19 0, Value.int 0 0, Value.ref 79, Value.int 22 0, Value.int 0 0, Value.ref 125, Value.int 28 0, Value.int 0 0, Value.ref 132, Value.int 40 0, Value.int 0 0, Value.ref 137, Value.int 78 0, Value.int 0 0, Value.ref 142]) #[]
noncomputable def o120v0 (P : Params) : Obj := Obj.mk (Value.type "tuple") none (Data.seq #[]) #[]
noncomputable def o121v0 (P : Params) : Obj := Obj.mk Value.none none (Data.fields #[]) #[]
noncomputable def o122v0 (P : Params) : Obj := Obj.mk (Value.type "tuple") none (Data.seq #[Value.str (Str.ofString "code") 2390, Value.str (Str.ofString "r") 2391]) #[]
noncomputable def o123v0 (P : Params) : Obj := Obj.mk (Value.type "tuple") none (Data.seq #[]) #[]
noncomputable def o124v0 (P : Params) : Obj := Obj.mk Value.none none (Data.func (FuncData.mk (Str.ofString "map_table_b3") (Str.ofString "map_table_b3") (fnArgs 13) (FuncBody.stmts (fnBody 13)) (fnScope 13) 0 [] Value.none Value.none Value.none Value.none none Value.none Value.none 0)) #[]
noncomputable def o125v0 (P : Params) : Obj := Obj.mk (Value.type "code") none (Data.fields #[Value.str (Str.ofString "map_table_b3") 2387, Value.str (Str.ofString "map_table_b3") 2388, Value.str (Str.ofString "/claim/cut.py") 2389, Value.int 22 0, Value.int 1 0, Value.int 0 0, Value.int 0 0, Value.int 3 0, Value.ref 120, Value.bool true, Value.int 276 0, Value.ref 121, Value.none, Value.ref 122, Value.ref 123, Value.ref 124, Value.int 2392 0, Value.int 22 0, Value.str (Str.ofString "/claim/cut.py") 2393]) #[]
noncomputable def o126v0 (P : Params) : Obj := Obj.mk (Value.type "function") none (Data.func (FuncData.mk (Str.ofString "map_table_b3") (Str.ofString "map_table_b3") (fnArgs 13) (FuncBody.stmts (fnBody 13)) (fnScope 13) 3 [] Value.none Value.none Value.none (Value.str (Str.ofString "cpy313.stringprep") 367) none (Value.ref 125) Value.none 0)) #[]
noncomputable def o127v0 (P : Params) : Obj := Obj.mk (Value.type "tuple") none (Data.seq #[]) #[]
noncomputable def o128v0 (P : Params) : Obj := Obj.mk Value.none none (Data.fields #[]) #[]
noncomputable def o129v0 (P : Params) : Obj := Obj.mk (Value.type "tuple") none (Data.seq #[Value.str (Str.ofString "sign") 2400]) #[]
noncomputable def o130v0 (P : Params) : Obj := Obj.mk (Value.type "tuple") none (Data.seq #[]) #[]
noncomputable def o131v0 (P : Params) : Obj := Obj.mk Value.none none (Data.func (FuncData.mk (Str.ofString "_law_folded") (Str.ofString "_law_folded") (fnArgs 15) (FuncBody.stmts (fnBody 15)) (fnScope 15) 0 [] Value.none Value.none Value.none Value.none none Value.none Value.none 0)) #[]
noncomputable def o132v0 (P : Params) : Obj := Obj.mk (Value.type "code") none (Data.fields #[Value.str (Str.ofString "_law_folded") 2397, Value.str (Str.ofString "_law_folded") 2398, Value.str (Str.ofString "/claim/cut.py") 2399, Value.int 28 0, Value.int 1 0, Value.int 0 0, Value.int 0 0, Value.int 3 0, Value.ref 127, Value.bool true, Value.int 276 0, Value.ref 128, Value.none, Value.ref 129, Value.ref 130, Value.ref 131, Value.int 2401 0, Value.int 28 0, Value.str (Str.ofString "/claim/cut.py") 2402]) #[]
noncomputable def o133v0 (P : Params) : Obj := Obj.mk (Value.type "function") none (Data.func (FuncData.mk (Str.ofString "_law_folded") (Str.ofString "_law_folded") (fnArgs 15) (FuncBody.stmts (fnBody 15)) (fnScope 15) 3 [] Value.none Value.none Value.none (Value.str (Str.ofString "law_re0099_01") 2395) none (Value.ref 132) Value.none 0)) #[]
noncomputable def o134v0 (P : Params) : Obj := Obj.mk (Value.type "tuple") none (Data.seq #[]) #[]
noncomputable def o135v0 (P : Params) : Obj := Obj.mk Value.none none (Data.fields #[]) #[]
noncomputable def o136v0 (P : Params) : Obj := Obj.mk Value.none none (Data.func (FuncData.mk (Str.ofString "_law_told") (Str.ofString "_law_told") (fnArgs 16) (FuncBody.stmts (fnBody 16)) (fnScope 16) 0 [] Value.none Value.none Value.none Value.none none Value.none Value.none 0)) #[]
noncomputable def o137v0 (P : Params) : Obj := Obj.mk (Value.type "code") none (Data.fields #[Value.str (Str.ofString "_law_told") 2404, Value.str (Str.ofString "_law_told") 2405, Value.str (Str.ofString "/claim/cut.py") 2406, Value.int 40 0, Value.int 2 0, Value.int 0 0, Value.int 0 0, Value.int 3 0, Value.ref 134, Value.bool true, Value.int 276 0, Value.ref 135, Value.none, Value.none, Value.none, Value.ref 136, Value.int 2407 0, Value.int 40 0, Value.str (Str.ofString "/claim/cut.py") 2408]) #[]
noncomputable def o138v0 (P : Params) : Obj := Obj.mk (Value.type "function") none (Data.func (FuncData.mk (Str.ofString "_law_told") (Str.ofString "_law_told") (fnArgs 16) (FuncBody.stmts (fnBody 16)) (fnScope 16) 3 [] Value.none Value.none Value.none (Value.str (Str.ofString "law_re0099_01") 2395) none (Value.ref 137) Value.none 0)) #[]
noncomputable def o139v0 (P : Params) : Obj := Obj.mk (Value.type "tuple") none (Data.seq #[]) #[]
noncomputable def o140v0 (P : Params) : Obj := Obj.mk Value.none none (Data.fields #[]) #[]
noncomputable def o141v0 (P : Params) : Obj := Obj.mk Value.none none (Data.func (FuncData.mk (Str.ofString "law") (Str.ofString "law") (fnArgs 17) (FuncBody.stmts (fnBody 17)) (fnScope 17) 0 [] Value.none Value.none Value.none Value.none none Value.none Value.none 0)) #[]
noncomputable def o142v0 (P : Params) : Obj := Obj.mk (Value.type "code") none (Data.fields #[Value.str (Str.ofString "law") 2410, Value.str (Str.ofString "law") 2411, Value.str (Str.ofString "/claim/cut.py") 2412, Value.int 78 0, Value.int 1 0, Value.int 0 0, Value.int 0 0, Value.int 3 0, Value.ref 139, Value.bool true, Value.int 276 0, Value.ref 140, Value.none, Value.none, Value.none, Value.ref 141, Value.int 2413 0, Value.int 78 0, Value.str (Str.ofString "/claim/cut.py") 2414]) #[]
noncomputable def o143v0 (P : Params) : Obj := Obj.mk (Value.type "function") none (Data.func (FuncData.mk (Str.ofString "law") (Str.ofString "law") (fnArgs 17) (FuncBody.stmts (fnBody 17)) (fnScope 17) 3 [] Value.none Value.none Value.none (Value.str (Str.ofString "law_re0099_01") 2395) none (Value.ref 142) Value.none 0)) #[]
noncomputable def o81v0 (P : Params) : Obj := dictObj (b3All 39)
noncomputable def o82v0 (P : Params) : Obj := dictObj (b3Run 1)
noncomputable def o83v0 (P : Params) : Obj := dictObj (b3Run 2)
noncomputable def o84v0 (P : Params) : Obj := dictObj (b3Run 3)
noncomputable def o85v0 (P : Params) : Obj := dictObj (b3Run 4)
noncomputable def o86v0 (P : Params) : Obj := dictObj (b3Run 5)
noncomputable def o87v0 (P : Params) : Obj := dictObj (b3Run 6)
noncomputable def o88v0 (P : Params) : Obj := dictObj (b3Run 7)
noncomputable def o89v0 (P : Params) : Obj := dictObj (b3Run 8)
noncomputable def o90v0 (P : Params) : Obj := dictObj (b3Run 9)
noncomputable def o91v0 (P : Params) : Obj := dictObj (b3Run 10)
noncomputable def o92v0 (P : Params) : Obj := dictObj (b3Run 11)
noncomputable def o93v0 (P : Params) : Obj := dictObj (b3Run 12)
noncomputable def o94v0 (P : Params) : Obj := dictObj (b3Run 13)
noncomputable def o95v0 (P : Params) : Obj := dictObj (b3Run 14)
noncomputable def o96v0 (P : Params) : Obj := dictObj (b3Run 15)
noncomputable def o97v0 (P : Params) : Obj := dictObj (b3Run 16)
noncomputable def o98v0 (P : Params) : Obj := dictObj (b3Run 17)
noncomputable def o99v0 (P : Params) : Obj := dictObj (b3Run 18)
noncomputable def o100v0 (P : Params) : Obj := dictObj (b3Run 19)
noncomputable def o101v0 (P : Params) : Obj := dictObj (b3Run 20)
noncomputable def o102v0 (P : Params) : Obj := dictObj (b3Run 21)
noncomputable def o103v0 (P : Params) : Obj := dictObj (b3Run 22)
noncomputable def o104v0 (P : Params) : Obj := dictObj (b3Run 23)
noncomputable def o105v0 (P : Params) : Obj := dictObj (b3Run 24)
noncomputable def o106v0 (P : Params) : Obj := dictObj (b3Run 25)
noncomputable def o107v0 (P : Params) : Obj := dictObj (b3Run 26)
noncomputable def o108v0 (P : Params) : Obj := dictObj (b3Run 27)
noncomputable def o109v0 (P : Params) : Obj := dictObj (b3Run 28)
noncomputable def o110v0 (P : Params) : Obj := dictObj (b3Run 29)
noncomputable def o111v0 (P : Params) : Obj := dictObj (b3Run 30)
noncomputable def o112v0 (P : Params) : Obj := dictObj (b3Run 31)
noncomputable def o113v0 (P : Params) : Obj := dictObj (b3Run 32)
noncomputable def o114v0 (P : Params) : Obj := dictObj (b3Run 33)
noncomputable def o115v0 (P : Params) : Obj := dictObj (b3Run 34)
noncomputable def o116v0 (P : Params) : Obj := dictObj (b3Run 35)
noncomputable def o117v0 (P : Params) : Obj := dictObj (b3Run 36)
noncomputable def o118v0 (P : Params) : Obj := dictObj (b3Run 37)
noncomputable def o119v0 (P : Params) : Obj := dictObj (b3Run 38)
noncomputable def objsS0 (P : Params) : List Obj := [o0v0 P, o1v0 P, o2v0 P, o3v0 P, o4v0 P, o5v0 P, o6v0 P, o7v0 P, o8v0 P, o9v0 P, o10v0 P, o11v0 P, o12v0 P, o13v0 P, o14v0 P, o15v0 P, o16v0 P, o17v0 P, o18v0 P, o19v0 P, o20v0 P, o21v0 P, o22v0 P, o23v0 P, o24v0 P, o25v0 P, o26v0 P, o27v0 P]
noncomputable def heapS0 (P : Params) : Heap := ⟨(objsS0 P).toArray, {}⟩
noncomputable def toksS0 : Nat := 276
noncomputable def objsSa (P : Params) : List Obj := [o0v0 P, o1v0 P, o2v0 P, o3v0 P, o4v0 P, o5v0 P, o6v0 P, o7v0 P, o8v0 P, o9v0 P, o10v0 P, o11v0 P, o12v0 P, o13v0 P, o14v0 P, o15v0 P, o16v0 P, o17v0 P, o18v0 P, o19v0 P, o20v0 P, o21v0 P, o22v0 P, o23v0 P, o24v0 P, o25v0 P, o26v0 P, o27v0 P, o28v0 P, o29v0 P, o30v0 P, o31v0 P]
noncomputable def heapSa (P : Params) : Heap := ⟨(objsSa P).toArray, {}⟩
noncomputable def toksSa : Nat := 282
noncomputable def objsSb (P : Params) : List Obj := [o0v0 P, o1v0 P, o2v0 P, o3v0 P, o4v0 P, o5v0 P, o6v0 P, o7v0 P, o8v0 P, o9v0 P, o10v0 P, o11v0 P, o12v0 P, o13v0 P, o14v0 P, o15v0 P, o16v0 P, o17v0 P, o18v0 P, o19v0 P, o20v0 P, o21v0 P, o22v0 P, o23v0 P, o24v0 P, o25v0 P, o26v0 P, o27v0 P, o28v0 P, o29v0 P, o30v0 P, o31v0 P]
noncomputable def heapSb (P : Params) : Heap := ⟨(objsSb P).toArray, {}⟩
noncomputable def toksSb : Nat := 282
noncomputable def treeSb (P : Params) : BT := (BT.node (o0v0 P) (BT.node (o1v0 P) (BT.node (o3v0 P) (BT.node (o7v0 P) (BT.node (o15v0 P) (BT.node (o31v0 P) BT.nil BT.nil) BT.nil) (BT.node (o23v0 P) BT.nil BT.nil)) (BT.node (o11v0 P) (BT.node (o19v0 P) BT.nil BT.nil) (BT.node (o27v0 P) BT.nil BT.nil))) (BT.node (o5v0 P) (BT.node (o9v0 P) (BT.node (o17v0 P) BT.nil BT.nil) (BT.node (o25v0 P) BT.nil BT.nil)) (BT.node (o13v0 P) (BT.node (o21v0 P) BT.nil BT.nil) (BT.node (o29v0 P) BT.nil BT.nil)))) (BT.node (o2v0 P) (BT.node (o4v0 P) (BT.node (o8v0 P) (BT.node (o16v0 P) BT.nil BT.nil) (BT.node (o24v0 P) BT.nil BT.nil)) (BT.node (o12v0 P) (BT.node (o20v0 P) BT.nil BT.nil) (BT.node (o28v0 P) BT.nil BT.nil))) (BT.node (o6v0 P) (BT.node (o10v0 P) (BT.node (o18v0 P) BT.nil BT.nil) (BT.node (o26v0 P) BT.nil BT.nil)) (BT.node (o14v0 P) (BT.node (o22v0 P) BT.nil BT.nil) (BT.node (o30v0 P) BT.nil BT.nil)))))
noncomputable def stSb (P : Params) (os : OsState) : SharedT := ⟨treeSb P, 32, {}, #[], {}, 282, os⟩
noncomputable def objsS9 (P : Params) : List Obj := [o0v0 P, o1v0 P, o2v0 P, o3v1 P, o4v0 P, o5v0 P, o6v0 P, o7v0 P, o8v0 P, o9v0 P, o10v0 P, o11v0 P, o12v0 P, o13v0 P, o14v0 P, o15v0 P, o16v0 P, o17v0 P, o18v0 P, o19v0 P, o20v0 P, o21v0 P, o22v0 P, o23v0 P, o24v0 P, o25v0 P, o26v0 P, o27v0 P, o28v0 P, o29v1 P, o30v0 P, o31v0 P, o32v0 P, o33v0 P, o34v0 P, o35v0 P, o36v0 P, o37v0 P, o38v0 P, o39v0 P, o40v0 P, o41v0 P, o42v0 P, o43v0 P, o44v0 P, o45v0 P, o46v0 P, o47v0 P, o48v0 P, o49v0 P, o50v0 P, o51v0 P, o52v0 P, o53v0 P, o54v0 P, o55v0 P, o56v0 P, o57v0 P, o58v0 P, o59v0 P, o60v0 P, o61v0 P, o62v0 P]
noncomputable def heapS9 (P : Params) : Heap := ⟨(objsS9 P).toArray, {}⟩
noncomputable def toksS9 : Nat := 369
noncomputable def treeS9 (P : Params) : BT := (BT.node (o0v0 P) (BT.node (o1v0 P) (BT.node (o3v1 P) (BT.node (o7v0 P) (BT.node (o15v0 P) (BT.node (o31v0 P) BT.nil BT.nil) (BT.node (o47v0 P) BT.nil BT.nil)) (BT.node (o23v0 P) (BT.node (o39v0 P) BT.nil BT.nil) (BT.node (o55v0 P) BT.nil BT.nil))) (BT.node (o11v0 P) (BT.node (o19v0 P) (BT.node (o35v0 P) BT.nil BT.nil) (BT.node (o51v0 P) BT.nil BT.nil)) (BT.node (o27v0 P) (BT.node (o43v0 P) BT.nil BT.nil) (BT.node (o59v0 P) BT.nil BT.nil)))) (BT.node (o5v0 P) (BT.node (o9v0 P) (BT.node (o17v0 P) (BT.node (o33v0 P) BT.nil BT.nil) (BT.node (o49v0 P) BT.nil BT.nil)) (BT.node (o25v0 P) (BT.node (o41v0 P) BT.nil BT.nil) (BT.node (o57v0 P) BT.nil BT.nil))) (BT.node (o13v0 P) (BT.node (o21v0 P) (BT.node (o37v0 P) BT.nil BT.nil) (BT.node (o53v0 P) BT.nil BT.nil)) (BT.node (o29v1 P) (BT.node (o45v0 P) BT.nil BT.nil) (BT.node (o61v0 P) BT.nil BT.nil))))) (BT.node (o2v0 P) (BT.node (o4v0 P) (BT.node (o8v0 P) (BT.node (o16v0 P) (BT.node (o32v0 P) BT.nil BT.nil) (BT.node (o48v0 P) BT.nil BT.nil)) (BT.node (o24v0 P) (BT.node (o40v0 P) BT.nil BT.nil) (BT.node (o56v0 P) BT.nil BT.nil))) (BT.node (o12v0 P) (BT.node (o20v0 P) (BT.node (o36v0 P) BT.nil BT.nil) (BT.node (o52v0 P) BT.nil BT.nil)) (BT.node (o28v0 P) (BT.node (o44v0 P) BT.nil BT.nil) (BT.node (o60v0 P) BT.nil BT.nil)))) (BT.node (o6v0 P) (BT.node (o10v0 P) (BT.node (o18v0 P) (BT.node (o34v0 P) BT.nil BT.nil) (BT.node (o50v0 P) BT.nil BT.nil)) (BT.node (o26v0 P) (BT.node (o42v0 P) BT.nil BT.nil) (BT.node (o58v0 P) BT.nil BT.nil))) (BT.node (o14v0 P) (BT.node (o22v0 P) (BT.node (o38v0 P) BT.nil BT.nil) (BT.node (o54v0 P) BT.nil BT.nil)) (BT.node (o30v0 P) (BT.node (o46v0 P) BT.nil BT.nil) (BT.node (o62v0 P) BT.nil BT.nil))))))
noncomputable def stS9 (P : Params) (os : OsState) : SharedT := ⟨treeS9 P, 63, {}, #[], {}, 369, os⟩
noncomputable def objsS10 (P : Params) : List Obj := [o0v0 P, o1v0 P, o2v0 P, o3v2 P, o4v0 P, o5v0 P, o6v0 P, o7v0 P, o8v0 P, o9v0 P, o10v0 P, o11v0 P, o12v0 P, o13v0 P, o14v0 P, o15v0 P, o16v0 P, o17v0 P, o18v0 P, o19v0 P, o20v0 P, o21v0 P, o22v0 P, o23v0 P, o24v0 P, o25v0 P, o26v0 P, o27v0 P, o28v0 P, o29v1 P, o30v0 P, o31v0 P, o32v0 P, o33v0 P, o34v0 P, o35v0 P, o36v0 P, o37v0 P, o38v0 P, o39v0 P, o40v0 P, o41v0 P, o42v0 P, o43v0 P, o44v0 P, o45v0 P, o46v0 P, o47v0 P, o48v0 P, o49v0 P, o50v0 P, o51v0 P, o52v0 P, o53v0 P, o54v0 P, o55v0 P, o56v0 P, o57v0 P, o58v0 P, o59v0 P, o60v0 P, o61v0 P, o62v0 P, o63v0 P, o64v0 P, o65v0 P, o66v0 P, o67v0 P, o68v0 P, o69v0 P, o70v0 P, o71v0 P, o72v0 P, o73v0 P]
noncomputable def heapS10 (P : Params) : Heap := ⟨(objsS10 P).toArray, {}⟩
noncomputable def toksS10 : Nat := 429
noncomputable def treeS10 (P : Params) : BT := (BT.node (o0v0 P) (BT.node (o1v0 P) (BT.node (o3v2 P) (BT.node (o7v0 P) (BT.node (o15v0 P) (BT.node (o31v0 P) (BT.node (o63v0 P) BT.nil BT.nil) BT.nil) (BT.node (o47v0 P) BT.nil BT.nil)) (BT.node (o23v0 P) (BT.node (o39v0 P) (BT.node (o71v0 P) BT.nil BT.nil) BT.nil) (BT.node (o55v0 P) BT.nil BT.nil))) (BT.node (o11v0 P) (BT.node (o19v0 P) (BT.node (o35v0 P) (BT.node (o67v0 P) BT.nil BT.nil) BT.nil) (BT.node (o51v0 P) BT.nil BT.nil)) (BT.node (o27v0 P) (BT.node (o43v0 P) BT.nil BT.nil) (BT.node (o59v0 P) BT.nil BT.nil)))) (BT.node (o5v0 P) (BT.node (o9v0 P) (BT.node (o17v0 P) (BT.node (o33v0 P) (BT.node (o65v0 P) BT.nil BT.nil) BT.nil) (BT.node (o49v0 P) BT.nil BT.nil)) (BT.node (o25v0 P) (BT.node (o41v0 P) (BT.node (o73v0 P) BT.nil BT.nil) BT.nil) (BT.node (o57v0 P) BT.nil BT.nil))) (BT.node (o13v0 P) (BT.node (o21v0 P) (BT.node (o37v0 P) (BT.node (o69v0 P) BT.nil BT.nil) BT.nil) (BT.node (o53v0 P) BT.nil BT.nil)) (BT.node (o29v1 P) (BT.node (o45v0 P) BT.nil BT.nil) (BT.node (o61v0 P) BT.nil BT.nil))))) (BT.node (o2v0 P) (BT.node (o4v0 P) (BT.node (o8v0 P) (BT.node (o16v0 P) (BT.node (o32v0 P) (BT.node (o64v0 P) BT.nil BT.nil) BT.nil) (BT.node (o48v0 P) BT.nil BT.nil)) (BT.node (o24v0 P) (BT.node (o40v0 P) (BT.node (o72v0 P) BT.nil BT.nil) BT.nil) (BT.node (o56v0 P) BT.nil BT.nil))) (BT.node (o12v0 P) (BT.node (o20v0 P) (BT.node (o36v0 P) (BT.node (o68v0 P) BT.nil BT.nil) BT.nil) (BT.node (o52v0 P) BT.nil BT.nil)) (BT.node (o28v0 P) (BT.node (o44v0 P) BT.nil BT.nil) (BT.node (o60v0 P) BT.nil BT.nil)))) (BT.node (o6v0 P) (BT.node (o10v0 P) (BT.node (o18v0 P) (BT.node (o34v0 P) (BT.node (o66v0 P) BT.nil BT.nil) BT.nil) (BT.node (o50v0 P) BT.nil BT.nil)) (BT.node (o26v0 P) (BT.node (o42v0 P) BT.nil BT.nil) (BT.node (o58v0 P) BT.nil BT.nil))) (BT.node (o14v0 P) (BT.node (o22v0 P) (BT.node (o38v0 P) (BT.node (o70v0 P) BT.nil BT.nil) BT.nil) (BT.node (o54v0 P) BT.nil BT.nil)) (BT.node (o30v0 P) (BT.node (o46v0 P) BT.nil BT.nil) (BT.node (o62v0 P) BT.nil BT.nil))))))
noncomputable def stS10 (P : Params) (os : OsState) : SharedT := ⟨treeS10 P, 74, {}, #[], {}, 429, os⟩
noncomputable def objsS11 (P : Params) : List Obj := [o0v0 P, o1v0 P, o2v0 P, o3v3 P, o4v0 P, o5v0 P, o6v0 P, o7v0 P, o8v0 P, o9v0 P, o10v0 P, o11v0 P, o12v0 P, o13v0 P, o14v0 P, o15v0 P, o16v0 P, o17v0 P, o18v0 P, o19v0 P, o20v0 P, o21v0 P, o22v0 P, o23v0 P, o24v0 P, o25v0 P, o26v0 P, o27v0 P, o28v0 P, o29v2 P, o30v0 P, o31v0 P, o32v0 P, o33v0 P, o34v0 P, o35v0 P, o36v0 P, o37v0 P, o38v0 P, o39v0 P, o40v0 P, o41v0 P, o42v0 P, o43v0 P, o44v0 P, o45v0 P, o46v0 P, o47v0 P, o48v0 P, o49v0 P, o50v0 P, o51v0 P, o52v0 P, o53v0 P, o54v0 P, o55v0 P, o56v0 P, o57v0 P, o58v0 P, o59v0 P, o60v0 P, o61v0 P, o62v0 P, o63v0 P, o64v0 P, o65v0 P, o66v0 P, o67v0 P, o68v0 P, o69v0 P, o70v0 P, o71v0 P, o72v0 P, o73v0 P, o74v0 P, o75v0 P, o76v0 P, o77v0 P, o78v0 P, o79v0 P, o80v0 P]
noncomputable def heapS11 (P : Params) : Heap := ⟨(objsS11 P).toArray, {}⟩
noncomputable def toksS11 : Nat := 436
noncomputable def treeS11 (P : Params) : BT := (BT.node (o0v0 P) (BT.node (o1v0 P) (BT.node (o3v3 P) (BT.node (o7v0 P) (BT.node (o15v0 P) (BT.node (o31v0 P) (BT.node (o63v0 P) BT.nil BT.nil) BT.nil) (BT.node (o47v0 P) (BT.node (o79v0 P) BT.nil BT.nil) BT.nil)) (BT.node (o23v0 P) (BT.node (o39v0 P) (BT.node (o71v0 P) BT.nil BT.nil) BT.nil) (BT.node (o55v0 P) BT.nil BT.nil))) (BT.node (o11v0 P) (BT.node (o19v0 P) (BT.node (o35v0 P) (BT.node (o67v0 P) BT.nil BT.nil) BT.nil) (BT.node (o51v0 P) BT.nil BT.nil)) (BT.node (o27v0 P) (BT.node (o43v0 P) (BT.node (o75v0 P) BT.nil BT.nil) BT.nil) (BT.node (o59v0 P) BT.nil BT.nil)))) (BT.node (o5v0 P) (BT.node (o9v0 P) (BT.node (o17v0 P) (BT.node (o33v0 P) (BT.node (o65v0 P) BT.nil BT.nil) BT.nil) (BT.node (o49v0 P) BT.nil BT.nil)) (BT.node (o25v0 P) (BT.node (o41v0 P) (BT.node (o73v0 P) BT.nil BT.nil) BT.nil) (BT.node (o57v0 P) BT.nil BT.nil))) (BT.node (o13v0 P) (BT.node (o21v0 P) (BT.node (o37v0 P) (BT.node (o69v0 P) BT.nil BT.nil) BT.nil) (BT.node (o53v0 P) BT.nil BT.nil)) (BT.node (o29v2 P) (BT.node (o45v0 P) (BT.node (o77v0 P) BT.nil BT.nil) BT.nil) (BT.node (o61v0 P) BT.nil BT.nil))))) (BT.node (o2v0 P) (BT.node (o4v0 P) (BT.node (o8v0 P) (BT.node (o16v0 P) (BT.node (o32v0 P) (BT.node (o64v0 P) BT.nil BT.nil) BT.nil) (BT.node (o48v0 P) (BT.node (o80v0 P) BT.nil BT.nil) BT.nil)) (BT.node (o24v0 P) (BT.node (o40v0 P) (BT.node (o72v0 P) BT.nil BT.nil) BT.nil) (BT.node (o56v0 P) BT.nil BT.nil))) (BT.node (o12v0 P) (BT.node (o20v0 P) (BT.node (o36v0 P) (BT.node (o68v0 P) BT.nil BT.nil) BT.nil) (BT.node (o52v0 P) BT.nil BT.nil)) (BT.node (o28v0 P) (BT.node (o44v0 P) (BT.node (o76v0 P) BT.nil BT.nil) BT.nil) (BT.node (o60v0 P) BT.nil BT.nil)))) (BT.node (o6v0 P) (BT.node (o10v0 P) (BT.node (o18v0 P) (BT.node (o34v0 P) (BT.node (o66v0 P) BT.nil BT.nil) BT.nil) (BT.node (o50v0 P) BT.nil BT.nil)) (BT.node (o26v0 P) (BT.node (o42v0 P) (BT.node (o74v0 P) BT.nil BT.nil) BT.nil) (BT.node (o58v0 P) BT.nil BT.nil))) (BT.node (o14v0 P) (BT.node (o22v0 P) (BT.node (o38v0 P) (BT.node (o70v0 P) BT.nil BT.nil) BT.nil) (BT.node (o54v0 P) BT.nil BT.nil)) (BT.node (o30v0 P) (BT.node (o46v0 P) (BT.node (o78v0 P) BT.nil BT.nil) BT.nil) (BT.node (o62v0 P) BT.nil BT.nil))))))
noncomputable def stS11 (P : Params) (os : OsState) : SharedT := ⟨treeS11 P, 81, {}, #[], {}, 436, os⟩
noncomputable def objsS12 (P : Params) : List Obj := [o0v0 P, o1v0 P, o2v0 P, o3v4 P, o4v0 P, o5v0 P, o6v0 P, o7v0 P, o8v0 P, o9v0 P, o10v0 P, o11v0 P, o12v0 P, o13v0 P, o14v0 P, o15v0 P, o16v0 P, o17v0 P, o18v0 P, o19v0 P, o20v0 P, o21v0 P, o22v0 P, o23v0 P, o24v0 P, o25v0 P, o26v0 P, o27v0 P, o28v0 P, o29v2 P, o30v0 P, o31v0 P, o32v0 P, o33v0 P, o34v0 P, o35v0 P, o36v0 P, o37v0 P, o38v0 P, o39v0 P, o40v0 P, o41v0 P, o42v0 P, o43v0 P, o44v0 P, o45v0 P, o46v0 P, o47v0 P, o48v0 P, o49v0 P, o50v0 P, o51v0 P, o52v0 P, o53v0 P, o54v0 P, o55v0 P, o56v0 P, o57v0 P, o58v0 P, o59v0 P, o60v0 P, o61v0 P, o62v0 P, o63v0 P, o64v0 P, o65v0 P, o66v0 P, o67v0 P, o68v0 P, o69v0 P, o70v0 P, o71v0 P, o72v0 P, o73v0 P, o74v0 P, o75v0 P, o76v0 P, o77v0 P, o78v0 P, o79v0 P, o80v0 P, o81v0 P, o82v0 P, o83v0 P, o84v0 P, o85v0 P, o86v0 P, o87v0 P, o88v0 P, o89v0 P, o90v0 P, o91v0 P, o92v0 P, o93v0 P, o94v0 P, o95v0 P, o96v0 P, o97v0 P, o98v0 P, o99v0 P, o100v0 P, o101v0 P, o102v0 P, o103v0 P, o104v0 P, o105v0 P, o106v0 P, o107v0 P, o108v0 P, o109v0 P, o110v0 P, o111v0 P, o112v0 P, o113v0 P, o114v0 P, o115v0 P, o116v0 P, o117v0 P, o118v0 P, o119v0 P]
noncomputable def heapS12 (P : Params) : Heap := ⟨(objsS12 P).toArray, {}⟩
noncomputable def toksS12 : Nat := 2387
noncomputable def treeS12 (P : Params) : BT := (BT.node (o0v0 P) (BT.node (o1v0 P) (BT.node (o3v4 P) (BT.node (o7v0 P) (BT.node (o15v0 P) (BT.node (o31v0 P) (BT.node (o63v0 P) BT.nil BT.nil) (BT.node (o95v0 P) BT.nil BT.nil)) (BT.node (o47v0 P) (BT.node (o79v0 P) BT.nil BT.nil) (BT.node (o111v0 P) BT.nil BT.nil))) (BT.node (o23v0 P) (BT.node (o39v0 P) (BT.node (o71v0 P) BT.nil BT.nil) (BT.node (o103v0 P) BT.nil BT.nil)) (BT.node (o55v0 P) (BT.node (o87v0 P) BT.nil BT.nil) (BT.node (o119v0 P) BT.nil BT.nil)))) (BT.node (o11v0 P) (BT.node (o19v0 P) (BT.node (o35v0 P) (BT.node (o67v0 P) BT.nil BT.nil) (BT.node (o99v0 P) BT.nil BT.nil)) (BT.node (o51v0 P) (BT.node (o83v0 P) BT.nil BT.nil) (BT.node (o115v0 P) BT.nil BT.nil))) (BT.node (o27v0 P) (BT.node (o43v0 P) (BT.node (o75v0 P) BT.nil BT.nil) (BT.node (o107v0 P) BT.nil BT.nil)) (BT.node (o59v0 P) (BT.node (o91v0 P) BT.nil BT.nil) BT.nil)))) (BT.node (o5v0 P) (BT.node (o9v0 P) (BT.node (o17v0 P) (BT.node (o33v0 P) (BT.node (o65v0 P) BT.nil BT.nil) (BT.node (o97v0 P) BT.nil BT.nil)) (BT.node (o49v0 P) (BT.node (o81v0 P) BT.nil BT.nil) (BT.node (o113v0 P) BT.nil BT.nil))) (BT.node (o25v0 P) (BT.node (o41v0 P) (BT.node (o73v0 P) BT.nil BT.nil) (BT.node (o105v0 P) BT.nil BT.nil)) (BT.node (o57v0 P) (BT.node (o89v0 P) BT.nil BT.nil) BT.nil))) (BT.node (o13v0 P) (BT.node (o21v0 P) (BT.node (o37v0 P) (BT.node (o69v0 P) BT.nil BT.nil) (BT.node (o101v0 P) BT.nil BT.nil)) (BT.node (o53v0 P) (BT.node (o85v0 P) BT.nil BT.nil) (BT.node (o117v0 P) BT.nil BT.nil))) (BT.node (o29v2 P) (BT.node (o45v0 P) (BT.node (o77v0 P) BT.nil BT.nil) (BT.node (o109v0 P) BT.nil BT.nil)) (BT.node (o61v0 P) (BT.node (o93v0 P) BT.nil BT.nil) BT.nil))))) (BT.node (o2v0 P) (BT.node (o4v0 P) (BT.node (o8v0 P) (BT.node (o16v0 P) (BT.node (o32v0 P) (BT.node (o64v0 P) BT.nil BT.nil) (BT.node (o96v0 P) BT.nil BT.nil)) (BT.node (o48v0 P) (BT.node (o80v0 P) BT.nil BT.nil) (BT.node (o112v0 P) BT.nil BT.nil))) (BT.node (o24v0 P) (BT.node (o40v0 P) (BT.node (o72v0 P) BT.nil BT.nil) (BT.node (o104v0 P) BT.nil BT.nil)) (BT.node (o56v0 P) (BT.node (o88v0 P) BT.nil BT.nil) BT.nil))) (BT.node (o12v0 P) (BT.node (o20v0 P) (BT.node (o36v0 P) (BT.node (o68v0 P) BT.nil BT.nil) (BT.node (o100v0 P) BT.nil BT.nil)) (BT.node (o52v0 P) (BT.node (o84v0 P) BT.nil BT.nil) (BT.node (o116v0 P) BT.nil BT.nil))) (BT.node (o28v0 P) (BT.node (o44v0 P) (BT.node (o76v0 P) BT.nil BT.nil) (BT.node (o108v0 P) BT.nil BT.nil)) (BT.node (o60v0 P) (BT.node (o92v0 P) BT.nil BT.nil) BT.nil)))) (BT.node (o6v0 P) (BT.node (o10v0 P) (BT.node (o18v0 P) (BT.node (o34v0 P) (BT.node (o66v0 P) BT.nil BT.nil) (BT.node (o98v0 P) BT.nil BT.nil)) (BT.node (o50v0 P) (BT.node (o82v0 P) BT.nil BT.nil) (BT.node (o114v0 P) BT.nil BT.nil))) (BT.node (o26v0 P) (BT.node (o42v0 P) (BT.node (o74v0 P) BT.nil BT.nil) (BT.node (o106v0 P) BT.nil BT.nil)) (BT.node (o58v0 P) (BT.node (o90v0 P) BT.nil BT.nil) BT.nil))) (BT.node (o14v0 P) (BT.node (o22v0 P) (BT.node (o38v0 P) (BT.node (o70v0 P) BT.nil BT.nil) (BT.node (o102v0 P) BT.nil BT.nil)) (BT.node (o54v0 P) (BT.node (o86v0 P) BT.nil BT.nil) (BT.node (o118v0 P) BT.nil BT.nil))) (BT.node (o30v0 P) (BT.node (o46v0 P) (BT.node (o78v0 P) BT.nil BT.nil) (BT.node (o110v0 P) BT.nil BT.nil)) (BT.node (o62v0 P) (BT.node (o94v0 P) BT.nil BT.nil) BT.nil))))))
noncomputable def stS12 (P : Params) (os : OsState) : SharedT := ⟨treeS12 P, 120, {}, #[], {}, 2387, os⟩
noncomputable def objsSf (P : Params) : List Obj := [o0v0 P, o1v0 P, o2v0 P, o3v5 P, o4v0 P, o5v0 P, o6v0 P, o7v0 P, o8v0 P, o9v0 P, o10v0 P, o11v0 P, o12v0 P, o13v0 P, o14v0 P, o15v0 P, o16v0 P, o17v0 P, o18v0 P, o19v0 P, o20v0 P, o21v0 P, o22v0 P, o23v0 P, o24v0 P, o25v0 P, o26v0 P, o27v0 P, o28v0 P, o29v3 P, o30v0 P, o31v0 P, o32v0 P, o33v0 P, o34v0 P, o35v0 P, o36v0 P, o37v0 P, o38v0 P, o39v0 P, o40v0 P, o41v0 P, o42v0 P, o43v0 P, o44v0 P, o45v0 P, o46v0 P, o47v0 P, o48v0 P, o49v0 P, o50v0 P, o51v0 P, o52v0 P, o53v0 P, o54v0 P, o55v0 P, o56v0 P, o57v0 P, o58v0 P, o59v0 P, o60v0 P, o61v0 P, o62v0 P, o63v0 P, o64v0 P, o65v0 P, o66v0 P, o67v0 P, o68v0 P, o69v0 P, o70v0 P, o71v0 P, o72v0 P, o73v0 P, o74v0 P, o75v0 P, o76v0 P, o77v0 P, o78v0 P, o79v0 P, o80v0 P, o81v0 P, o82v0 P, o83v0 P, o84v0 P, o85v0 P, o86v0 P, o87v0 P, o88v0 P, o89v0 P, o90v0 P, o91v0 P, o92v0 P, o93v0 P, o94v0 P, o95v0 P, o96v0 P, o97v0 P, o98v0 P, o99v0 P, o100v0 P, o101v0 P, o102v0 P, o103v0 P, o104v0 P, o105v0 P, o106v0 P, o107v0 P, o108v0 P, o109v0 P, o110v0 P, o111v0 P, o112v0 P, o113v0 P, o114v0 P, o115v0 P, o116v0 P, o117v0 P, o118v0 P, o119v0 P, o120v0 P, o121v0 P, o122v0 P, o123v0 P, o124v0 P, o125v0 P, o126v0 P, o127v0 P, o128v0 P, o129v0 P, o130v0 P, o131v0 P, o132v0 P, o133v0 P, o134v0 P, o135v0 P, o136v0 P, o137v0 P, o138v0 P, o139v0 P, o140v0 P, o141v0 P, o142v0 P, o143v0 P]
noncomputable def heapSf (P : Params) : Heap := ⟨(objsSf P).toArray, {}⟩
noncomputable def toksSf : Nat := 2416
noncomputable def treeSf (P : Params) : BT := (BT.node (o0v0 P) (BT.node (o1v0 P) (BT.node (o3v5 P) (BT.node (o7v0 P) (BT.node (o15v0 P) (BT.node (o31v0 P) (BT.node (o63v0 P) (BT.node (o127v0 P) BT.nil BT.nil) BT.nil) (BT.node (o95v0 P) BT.nil BT.nil)) (BT.node (o47v0 P) (BT.node (o79v0 P) (BT.node (o143v0 P) BT.nil BT.nil) BT.nil) (BT.node (o111v0 P) BT.nil BT.nil))) (BT.node (o23v0 P) (BT.node (o39v0 P) (BT.node (o71v0 P) (BT.node (o135v0 P) BT.nil BT.nil) BT.nil) (BT.node (o103v0 P) BT.nil BT.nil)) (BT.node (o55v0 P) (BT.node (o87v0 P) BT.nil BT.nil) (BT.node (o119v0 P) BT.nil BT.nil)))) (BT.node (o11v0 P) (BT.node (o19v0 P) (BT.node (o35v0 P) (BT.node (o67v0 P) (BT.node (o131v0 P) BT.nil BT.nil) BT.nil) (BT.node (o99v0 P) BT.nil BT.nil)) (BT.node (o51v0 P) (BT.node (o83v0 P) BT.nil BT.nil) (BT.node (o115v0 P) BT.nil BT.nil))) (BT.node (o27v0 P) (BT.node (o43v0 P) (BT.node (o75v0 P) (BT.node (o139v0 P) BT.nil BT.nil) BT.nil) (BT.node (o107v0 P) BT.nil BT.nil)) (BT.node (o59v0 P) (BT.node (o91v0 P) BT.nil BT.nil) (BT.node (o123v0 P) BT.nil BT.nil))))) (BT.node (o5v0 P) (BT.node (o9v0 P) (BT.node (o17v0 P) (BT.node (o33v0 P) (BT.node (o65v0 P) (BT.node (o129v0 P) BT.nil BT.nil) BT.nil) (BT.node (o97v0 P) BT.nil BT.nil)) (BT.node (o49v0 P) (BT.node (o81v0 P) BT.nil BT.nil) (BT.node (o113v0 P) BT.nil BT.nil))) (BT.node (o25v0 P) (BT.node (o41v0 P) (BT.node (o73v0 P) (BT.node (o137v0 P) BT.nil BT.nil) BT.nil) (BT.node (o105v0 P) BT.nil BT.nil)) (BT.node (o57v0 P) (BT.node (o89v0 P) BT.nil BT.nil) (BT.node (o121v0 P) BT.nil BT.nil)))) (BT.node (o13v0 P) (BT.node (o21v0 P) (BT.node (o37v0 P) (BT.node (o69v0 P) (BT.node (o133v0 P) BT.nil BT.nil) BT.nil) (BT.node (o101v0 P) BT.nil BT.nil)) (BT.node (o53v0 P) (BT.node (o85v0 P) BT.nil BT.nil) (BT.node (o117v0 P) BT.nil BT.nil))) (BT.node (o29v3 P) (BT.node (o45v0 P) (BT.node (o77v0 P) (BT.node (o141v0 P) BT.nil BT.nil) BT.nil) (BT.node (o109v0 P) BT.nil BT.nil)) (BT.node (o61v0 P) (BT.node (o93v0 P) BT.nil BT.nil) (BT.node (o125v0 P) BT.nil BT.nil)))))) (BT.node (o2v0 P) (BT.node (o4v0 P) (BT.node (o8v0 P) (BT.node (o16v0 P) (BT.node (o32v0 P) (BT.node (o64v0 P) (BT.node (o128v0 P) BT.nil BT.nil) BT.nil) (BT.node (o96v0 P) BT.nil BT.nil)) (BT.node (o48v0 P) (BT.node (o80v0 P) BT.nil BT.nil) (BT.node (o112v0 P) BT.nil BT.nil))) (BT.node (o24v0 P) (BT.node (o40v0 P) (BT.node (o72v0 P) (BT.node (o136v0 P) BT.nil BT.nil) BT.nil) (BT.node (o104v0 P) BT.nil BT.nil)) (BT.node (o56v0 P) (BT.node (o88v0 P) BT.nil BT.nil) (BT.node (o120v0 P) BT.nil BT.nil)))) (BT.node (o12v0 P) (BT.node (o20v0 P) (BT.node (o36v0 P) (BT.node (o68v0 P) (BT.node (o132v0 P) BT.nil BT.nil) BT.nil) (BT.node (o100v0 P) BT.nil BT.nil)) (BT.node (o52v0 P) (BT.node (o84v0 P) BT.nil BT.nil) (BT.node (o116v0 P) BT.nil BT.nil))) (BT.node (o28v0 P) (BT.node (o44v0 P) (BT.node (o76v0 P) (BT.node (o140v0 P) BT.nil BT.nil) BT.nil) (BT.node (o108v0 P) BT.nil BT.nil)) (BT.node (o60v0 P) (BT.node (o92v0 P) BT.nil BT.nil) (BT.node (o124v0 P) BT.nil BT.nil))))) (BT.node (o6v0 P) (BT.node (o10v0 P) (BT.node (o18v0 P) (BT.node (o34v0 P) (BT.node (o66v0 P) (BT.node (o130v0 P) BT.nil BT.nil) BT.nil) (BT.node (o98v0 P) BT.nil BT.nil)) (BT.node (o50v0 P) (BT.node (o82v0 P) BT.nil BT.nil) (BT.node (o114v0 P) BT.nil BT.nil))) (BT.node (o26v0 P) (BT.node (o42v0 P) (BT.node (o74v0 P) (BT.node (o138v0 P) BT.nil BT.nil) BT.nil) (BT.node (o106v0 P) BT.nil BT.nil)) (BT.node (o58v0 P) (BT.node (o90v0 P) BT.nil BT.nil) (BT.node (o122v0 P) BT.nil BT.nil)))) (BT.node (o14v0 P) (BT.node (o22v0 P) (BT.node (o38v0 P) (BT.node (o70v0 P) (BT.node (o134v0 P) BT.nil BT.nil) BT.nil) (BT.node (o102v0 P) BT.nil BT.nil)) (BT.node (o54v0 P) (BT.node (o86v0 P) BT.nil BT.nil) (BT.node (o118v0 P) BT.nil BT.nil))) (BT.node (o30v0 P) (BT.node (o46v0 P) (BT.node (o78v0 P) (BT.node (o142v0 P) BT.nil BT.nil) BT.nil) (BT.node (o110v0 P) BT.nil BT.nil)) (BT.node (o62v0 P) (BT.node (o94v0 P) BT.nil BT.nil) (BT.node (o126v0 P) BT.nil BT.nil)))))))
noncomputable def stSf (P : Params) (os : OsState) : SharedT := ⟨treeSf P, 144, {}, #[], {}, 2416, os⟩
/-- behind the display, ahead of the name -/
noncomputable def treeSd (P : Params) : BT := (BT.node (o0v0 P) (BT.node (o1v0 P) (BT.node (o3v3 P) (BT.node (o7v0 P) (BT.node (o15v0 P) (BT.node (o31v0 P) (BT.node (o63v0 P) BT.nil BT.nil) (BT.node (o95v0 P) BT.nil BT.nil)) (BT.node (o47v0 P) (BT.node (o79v0 P) BT.nil BT.nil) (BT.node (o111v0 P) BT.nil BT.nil))) (BT.node (o23v0 P) (BT.node (o39v0 P) (BT.node (o71v0 P) BT.nil BT.nil) (BT.node (o103v0 P) BT.nil BT.nil)) (BT.node (o55v0 P) (BT.node (o87v0 P) BT.nil BT.nil) (BT.node (o119v0 P) BT.nil BT.nil)))) (BT.node (o11v0 P) (BT.node (o19v0 P) (BT.node (o35v0 P) (BT.node (o67v0 P) BT.nil BT.nil) (BT.node (o99v0 P) BT.nil BT.nil)) (BT.node (o51v0 P) (BT.node (o83v0 P) BT.nil BT.nil) (BT.node (o115v0 P) BT.nil BT.nil))) (BT.node (o27v0 P) (BT.node (o43v0 P) (BT.node (o75v0 P) BT.nil BT.nil) (BT.node (o107v0 P) BT.nil BT.nil)) (BT.node (o59v0 P) (BT.node (o91v0 P) BT.nil BT.nil) BT.nil)))) (BT.node (o5v0 P) (BT.node (o9v0 P) (BT.node (o17v0 P) (BT.node (o33v0 P) (BT.node (o65v0 P) BT.nil BT.nil) (BT.node (o97v0 P) BT.nil BT.nil)) (BT.node (o49v0 P) (BT.node (o81v0 P) BT.nil BT.nil) (BT.node (o113v0 P) BT.nil BT.nil))) (BT.node (o25v0 P) (BT.node (o41v0 P) (BT.node (o73v0 P) BT.nil BT.nil) (BT.node (o105v0 P) BT.nil BT.nil)) (BT.node (o57v0 P) (BT.node (o89v0 P) BT.nil BT.nil) BT.nil))) (BT.node (o13v0 P) (BT.node (o21v0 P) (BT.node (o37v0 P) (BT.node (o69v0 P) BT.nil BT.nil) (BT.node (o101v0 P) BT.nil BT.nil)) (BT.node (o53v0 P) (BT.node (o85v0 P) BT.nil BT.nil) (BT.node (o117v0 P) BT.nil BT.nil))) (BT.node (o29v2 P) (BT.node (o45v0 P) (BT.node (o77v0 P) BT.nil BT.nil) (BT.node (o109v0 P) BT.nil BT.nil)) (BT.node (o61v0 P) (BT.node (o93v0 P) BT.nil BT.nil) BT.nil))))) (BT.node (o2v0 P) (BT.node (o4v0 P) (BT.node (o8v0 P) (BT.node (o16v0 P) (BT.node (o32v0 P) (BT.node (o64v0 P) BT.nil BT.nil) (BT.node (o96v0 P) BT.nil BT.nil)) (BT.node (o48v0 P) (BT.node (o80v0 P) BT.nil BT.nil) (BT.node (o112v0 P) BT.nil BT.nil))) (BT.node (o24v0 P) (BT.node (o40v0 P) (BT.node (o72v0 P) BT.nil BT.nil) (BT.node (o104v0 P) BT.nil BT.nil)) (BT.node (o56v0 P) (BT.node (o88v0 P) BT.nil BT.nil) BT.nil))) (BT.node (o12v0 P) (BT.node (o20v0 P) (BT.node (o36v0 P) (BT.node (o68v0 P) BT.nil BT.nil) (BT.node (o100v0 P) BT.nil BT.nil)) (BT.node (o52v0 P) (BT.node (o84v0 P) BT.nil BT.nil) (BT.node (o116v0 P) BT.nil BT.nil))) (BT.node (o28v0 P) (BT.node (o44v0 P) (BT.node (o76v0 P) BT.nil BT.nil) (BT.node (o108v0 P) BT.nil BT.nil)) (BT.node (o60v0 P) (BT.node (o92v0 P) BT.nil BT.nil) BT.nil)))) (BT.node (o6v0 P) (BT.node (o10v0 P) (BT.node (o18v0 P) (BT.node (o34v0 P) (BT.node (o66v0 P) BT.nil BT.nil) (BT.node (o98v0 P) BT.nil BT.nil)) (BT.node (o50v0 P) (BT.node (o82v0 P) BT.nil BT.nil) (BT.node (o114v0 P) BT.nil BT.nil))) (BT.node (o26v0 P) (BT.node (o42v0 P) (BT.node (o74v0 P) BT.nil BT.nil) (BT.node (o106v0 P) BT.nil BT.nil)) (BT.node (o58v0 P) (BT.node (o90v0 P) BT.nil BT.nil) BT.nil))) (BT.node (o14v0 P) (BT.node (o22v0 P) (BT.node (o38v0 P) (BT.node (o70v0 P) BT.nil BT.nil) (BT.node (o102v0 P) BT.nil BT.nil)) (BT.node (o54v0 P) (BT.node (o86v0 P) BT.nil BT.nil) (BT.node (o118v0 P) BT.nil BT.nil))) (BT.node (o30v0 P) (BT.node (o46v0 P) (BT.node (o78v0 P) BT.nil BT.nil) (BT.node (o110v0 P) BT.nil BT.nil)) (BT.node (o62v0 P) (BT.node (o94v0 P) BT.nil BT.nil) BT.nil))))))
noncomputable def stSd (P : Params) (os : OsState) : SharedT := ⟨treeSd P, 120, {}, #[], {}, 2386, os⟩
/-- what the walk knows of the heap behind the top -/
noncomputable def KF (P : Params) : Frag := (nat_lit 2, o2v0 P) :: (nat_lit 3, o3v5 P) :: (nat_lit 6, o6v0 P) :: (nat_lit 11, o11v0 P) :: (nat_lit 12, o12v0 P) :: (nat_lit 35, o35v0 P) :: (nat_lit 36, o36v0 P) :: (nat_lit 40, o40v0 P) :: (nat_lit 41, o41v0 P) :: (nat_lit 42, o42v0 P) :: (nat_lit 44, o44v0 P) :: (nat_lit 45, o45v0 P) :: (nat_lit 47, o47v0 P) :: (nat_lit 48, o48v0 P) :: (nat_lit 49, o49v0 P) :: (nat_lit 51, o51v0 P) :: (nat_lit 52, o52v0 P) :: (nat_lit 54, o54v0 P) :: (nat_lit 55, o55v0 P) :: (nat_lit 56, o56v0 P) :: (nat_lit 58, o58v0 P) :: (nat_lit 59, o59v0 P) :: (nat_lit 61, o61v0 P) :: (nat_lit 62, o62v0 P) :: (nat_lit 70, o70v0 P) :: (nat_lit 74, o74v0 P) :: (nat_lit 76, o76v0 P) :: (nat_lit 77, o77v0 P) :: (nat_lit 79, o79v0 P) :: (nat_lit 80, o80v0 P) :: (nat_lit 81, o81v0 P) :: (nat_lit 120, o120v0 P) :: (nat_lit 122, o122v0 P) :: (nat_lit 123, o123v0 P) :: (nat_lit 125, o125v0 P) :: (nat_lit 126, o126v0 P) :: (nat_lit 127, o127v0 P) :: (nat_lit 129, o129v0 P) :: (nat_lit 130, o130v0 P) :: (nat_lit 132, o132v0 P) :: (nat_lit 133, o133v0 P) :: (nat_lit 134, o134v0 P) :: (nat_lit 137, o137v0 P) :: (nat_lit 138, o138v0 P) :: (nat_lit 139, o139v0 P) :: (nat_lit 142, o142v0 P) :: (nat_lit 143, o143v0 P) :: []
noncomputable def kAddrs : List Addr := [2, 3, 6, 11, 12, 35, 36, 40, 41, 42, 44, 45, 47, 48, 49, 51, 52, 54, 55, 56, 58, 59, 61, 62, 70, 74, 76, 77, 79, 80, 81, 120, 122, 123, 125, 126, 127, 129, 130, 132, 133, 134, 137, 138, 139, 142, 143]
end Mine
end

section
open PySem PySem.W PySem.Challenge
namespace Mine
set_option maxRecDepth 100000
theorem tw_imp : @importEnds = @PySem.W.Fast.tw10274390034422433532 := PySem.W.Fast.te10274390034422433532
theorem tw_fence : @fenceModules? = @PySem.W.Fast.tw14289696077712309145 := PySem.W.Fast.te14289696077712309145
theorem tw_start : @start = @PySem.W.Fast.tw1435165496053646825 := PySem.W.Fast.te1435165496053646825
theorem tw_table1 : treeTable = PySem.W.Fast.tw14364793385576792824 := PySem.W.Fast.te14364793385576792824
theorem open_ok : ∀ w : World, (fencedOpening treeTable pw_re0099_01 w 30000).map (fun s => (s.heap, s.gens, s.drawn, s.toks)) = some (heapS0 w.params, (#[] : Array GenState), ({} : Drawn), toksS0) := by
  intro w; unfold fencedOpening; rw [tw_imp, tw_fence, tw_start, tw_table1]; kernel_rfl
end Mine
end

section
open PySem PySem.W PySem.Challenge
namespace Mine
set_option maxRecDepth 100000
noncomputable abbrev pw : Program := pw_re0099_01
noncomputable def p0 : Pos := ⟨0, 0, 0, 0⟩
noncomputable def envT : Env := { scope := pw.main.scope, locals := mainNs, globals := mainNs, cells := [], code := .ref 30, frame := some 31 }
noncomputable def codeT : Code := .body (behindTheImports pw) envT
noncomputable abbrev annT : Option Value := some (.ref 6)
theorem pre_ok : ∀ (w : World) (os : OsState), topGo treeTable pw w 28 annT 12 ⟨heapS0 w.params, #[], {}, 276, os⟩ (topStub pw) = some (⟨heapSa w.params, #[], {}, 282, os⟩, ⟨denote treeTable codeT, codeT, p0, [topFrame p0]⟩) := by
  intro w os; kernel_rfl
theorem block_ok : ∀ (w : World) (os : OsState), segRun treeTable pw w 28 annT 1 1 ⟨heapSa w.params, #[], {}, 282, os⟩ (blockOf (behindTheImports pw) envT codeT p0 [topFrame p0]) = some (.next, (stSb w.params os).abs, codeT, p0) := by
  intro w os; kernel_rfl
noncomputable def grp1 : List Stmt := [stAt 1, stAt 2, stAt 3, stAt 4, stAt 5, stAt 6, stAt 7, stAt 8, stAt 9]
theorem grp1_ok : ∀ (w : World) (os : OsState), segRunT treeTable pw w 28 annT 1 268 (stSb w.params os) (W.piecesOf grp1 envT codeT p0 [topFrame p0]) = some (.next, stS9 w.params os, codeT, ⟨17, 0, 17, 8⟩) := by
  intro w os; kernel_rfl
theorem grp3_ok : ∀ (w : World) (os : OsState), segRunT treeTable pw w 28 annT 1 30 (stS10 w.params os) (W.piecesOf [stAt 11] envT codeT ⟨18, 0, 18, 6⟩ [topFrame p0]) = some (.next, stS11 w.params os, codeT, ⟨19, 0, 20, 30⟩) := by
  intro w os; kernel_rfl
noncomputable def grp5 : List Stmt := [stAt 13, stAt 14, stAt 15, stAt 16, stAt 17]
theorem grp5_ok : ∀ (w : World) (os : OsState), segRunT treeTable pw w 28 annT 1 121 (stS12 w.params os) (W.piecesOf grp5 envT codeT ⟨21, 0, 21, 13⟩ [topFrame p0]) = some (.next, stSf w.params os, codeT, ⟨78, 0, 94, 15⟩) := by
  intro w os; kernel_rfl
theorem fin_ok : ∀ (w : World) (os : OsState), topRun treeTable pw w 28 annT 2 (stSf w.params os).abs ⟨doneF .next, codeT, ⟨78, 0, 94, 15⟩, [topFrame p0]⟩ = some (stSf w.params os).abs := by
  intro w os; kernel_rfl
end Mine
end

section
open PySem PySem.W PySem.Challenge
namespace Mine
set_option maxRecDepth 100000
theorem tw_run : @segRunT = @PySem.W.Fast.tw10110043849684766642 := PySem.W.Fast.te10110043849684766642
theorem tw_table : treeTable = PySem.W.Fast.tw14364793385576792824 := PySem.W.Fast.te14364793385576792824
theorem tw_execs : @execs = @PySem.W.Fast.tw12563942051412417395 := PySem.W.Fast.te12563942051412417395
noncomputable def SetOk (w : World) : Prop := ∀ os : OsState, segRunT treeTable pw w 28 annT 1 999 (stS9 w.params os) ⟨(execs [stAt 10] envT).wrap doneF deadEnd id id, codeT, ⟨17, 0, 17, 8⟩, [topFrame p0]⟩ = some (.next, stS10 w.params os, codeT, ⟨18, 0, 18, 6⟩)
theorem set_ff (w : World) : SetOk ((w.withFollow "special-get-raises" false).withFollow "set-order" false) := by
  intro os; rw [tw_run, tw_table, tw_execs]; kernel_rfl
theorem set_ft (w : World) : SetOk ((w.withFollow "special-get-raises" false).withFollow "set-order" true) := by
  intro os; rw [tw_run, tw_table, tw_execs]; kernel_rfl
theorem set_tf (w : World) : SetOk ((w.withFollow "special-get-raises" true).withFollow "set-order" false) := by
  intro os; rw [tw_run, tw_table, tw_execs]; kernel_rfl
theorem set_tt (w : World) : SetOk ((w.withFollow "special-get-raises" true).withFollow "set-order" true) := by
  intro os; rw [tw_run, tw_table, tw_execs]; kernel_rfl
theorem set_ok (w : World) : SetOk w :=
  byRow2 "set-order" (P := SetOk)
    (fun w => byRow2 "special-get-raises" (P := fun w => SetOk (w.withFollow "set-order" false)) set_ff set_tf w)
    (fun w => byRow2 "special-get-raises" (P := fun w => SetOk (w.withFollow "set-order" true)) set_ft set_tt w) w
end Mine
end

section
open PySem PySem.W PySem.Challenge PyProof.Rows
namespace Mine
set_option maxRecDepth 100000
noncomputable def vw : Program := { pw with main := { pw.main with body := [stAt 0, stAt 1, stAt 4, stAt 5, stAt 6, stAt 7, stAt 8, stAt 9, stAt 11, stAt 13, stAt 14, stAt 15, stAt 16, stAt 17] } }
noncomputable def lsn : List Str := [Str.ofString "_twin_re_1", Str.ofString "_twin_re_2", Str.ofString "b1_set", Str.ofString "b3_exceptions"]
noncomputable abbrev hkK : Hook := kHook KF kAddrs (fun _ => by kernel_rfl)
noncomputable abbrev xtK (s : Shared) : Bool := xlAt vw [] s && recOk [] s
theorem sf_heap (P : Params) : absHeap (treeSf P) 144 {} = heapSf P := by kernel_rfl
theorem size_ok : ∀ w : World, ((heapS0 w.params).isNs mainGlobals && (#[] : Array GenState).size == 0, (heapS0 w.params).objs.size, (heapS0 w.params).nsMap mainGlobals "__annotations__") = (true, 28, annT) := by
  intro w; kernel_rfl
noncomputable abbrev fin (w : World) (os : OsState) : Shared := ⟨heapSf w.params, #[], {}, 2416, os⟩
theorem look_a : ∀ (w : World) (os : OsState), (staticsOk (importedModules pw.main.body) (heapS0 w.params) (heapSf w.params) && namesBound pw (heapSf w.params) && gensDone (fin w os) && laidKept (heapS0 w.params) (heapSf w.params)) = true := by
  intro w os; kernel_rfl
theorem look_c : ∀ (w : World) (os : OsState), hkK.obs (fin w os) = hkK.val w := by
  intro w os; kernel_rfl
end Mine
end

section
open PySem PySem.W PySem.Challenge PyProof.Rows
namespace Mine
set_option maxRecDepth 100000
theorem look_b : ∀ (w : World) (os : OsState), openSeen vw lsn (importedModules pw.main.body) xtK true (fin w os) = openGood vw lsn := by
  intro w os; kernel_rfl
end Mine
end

section
open PySem PySem.W PySem.Challenge PyProof.Rows
namespace Mine
set_option maxRecDepth 100000
set_option linter.unusedVariables false
noncomputable abbrev B0 : List Frame := [topFrame p0]
noncomputable abbrev go (w : World) (n : Nat) (s : Shared) (t : Thread) : Option (Shared × Thread) := segGo treeTable pw w 28 annT 1 n s t
theorem go_hash (w : World) (heap : Heap) (gens : Array GenState) (drawn : Drawn) (toks : Nat) (os : OsState) (kk : Int) (t : Tok) (g : Bool) (l : List Value) (k : Result → Sem Fin) (q : Pos) :
    go w 4 ⟨heap, gens, drawn, toks, os⟩ ⟨.call (.call (.builtin "int.__hash__") ⟨[.int kk t], []⟩) none g l k, codeT, q, B0⟩ =
      some (⟨heap, gens, drawn, toks + 1, os⟩, ⟨k (.ok (.ret (.int (rawHash kk) toks))), codeT, q, B0⟩) := by
  kernel_rfl
theorem go_add {w : World} : ∀ {a b : Nat} {s s₁ : Shared} {t t₁ : Thread} {r : Shared × Thread}, go w a s t = some (s₁, t₁) → go w b s₁ t₁ = some r → go w (a + b) s t = some r
  | 0, b, s, s₁, t, t₁, r, h, k => by
    obtain ⟨rfl, rfl⟩ : s = s₁ ∧ t = t₁ := by simpa [go, segGo] using h
    rw [Nat.zero_add]; exact k
  | a + 1, b, s, s₁, t, t₁, r, h, k => by
    rw [show a + 1 + b = a + b + 1 by omega]
    unfold go segGo at h ⊢
    cases he : endAt 1 t with
    | some f => rw [he] at h; cases h
    | none =>
      rw [he] at h
      cases hk : stepOk 28 annT t with
      | false => rw [hk] at h; cases h
      | true =>
        rw [hk] at h
        cases hs : step (denote treeTable) pw w s t with
        | halt o s₂ => rw [hs] at h; cases h
        | go s₂ t₂ => rw [hs] at h; exact go_add h k

/-- what a tree does, in c steps at most, that neither raises nor asks, but for an int's hash -/
noncomputable def Does (w : World) {α : Type} : Sem α → Nat → (α → Pos → Shared → Prop) → Pos → Shared → Prop
  | .pure a, _, Q, q, s => Q a q s
  | .rule _ k, c, Q, q, s => 1 ≤ c ∧ Does w (k ()) (c - 1) Q q s
  | .at q' k, c, Q, _, s => 1 ≤ c ∧ Does w (k ()) (c - 1) Q q' s
  | .point _ k, c, Q, q, s => 1 ≤ c ∧ Does w (k ()) (c - 1) Q q s
  | .load a _ k, c, Q, q, s => 1 ≤ c ∧ ∃ o, s.heap.get? a = some o ∧ Does w (k o) (c - 1) Q q s
  | .update a _ f k, c, Q, q, s => 1 ≤ c ∧ 28 ≤ a ∧ (s.heap.get? a).isSome = true ∧ Does w (k ()) (c - 1) Q q { s with heap := s.heap.update a f }
  | .alloc o k, c, Q, q, s => 1 ≤ c ∧ Does w (k s.heap.objs.size) (c - 1) Q q { s with heap := s.heap.push o }
  | .fresh k, c, Q, q, s => 1 ≤ c ∧ Does w (k s.toks) (c - 1) Q q { s with toks := s.toks + 1 }
  | .ask k, c, Q, q, s => 1 ≤ c ∧ Does w (k ⟨pw, w.params⟩) (c - 1) Q q s
  | .call cd h _ _ k, c, Q, q, s => 4 ≤ c ∧ ∃ kk t, cd = .call (.builtin "int.__hash__") ⟨[.int kk t], []⟩ ∧ h = none ∧ Does w (k (.ok (.ret (.int (rawHash kk) s.toks)))) (c - 4) Q q { s with toks := s.toks + 1 }
  | _, _, _, _, _ => False

theorem Does.go (w : World) {α : Type} (x : Sem α) : ∀ (c : Nat) (Q : α → Pos → Shared → Prop) (q : Pos) (s : Shared), Does w x c Q q s →
    ∃ v q' s', Q v q' s' ∧ ∀ (K : α → Sem Fin) (H : Value → Sem Fin) (gd : Bool → Bool) (lv : List Value → List Value), ∃ n, n ≤ c ∧ Mine.go w n s ⟨x.wrap K H gd lv, codeT, q, B0⟩ = some (s', ⟨K v, codeT, q', B0⟩) := by
  have one : ∀ {s s₁ : Shared} {t t₁ : Thread} {r : Shared × Thread} {c : Nat}, 1 ≤ c → Mine.go w 1 s t = some (s₁, t₁) → (∃ n, n ≤ c - 1 ∧ Mine.go w n s₁ t₁ = some r) → ∃ n, n ≤ c ∧ Mine.go w n s t = some r := fun hc h ⟨n, hn, k⟩ => ⟨1 + n, by omega, go_add h k⟩
  induction x with
  | pure a => intro c Q q s h; exact ⟨a, q, s, h, fun K H gd lv => ⟨0, Nat.zero_le _, rfl⟩⟩
  | rule t k ih =>
    intro c Q q s h
    obtain ⟨v, q', s', hQ, hn⟩ := ih () _ Q q s h.2
    exact ⟨v, q', s', hQ, fun K H gd lv => one h.1 rfl (hn K H gd lv)⟩
  | «at» p k ih =>
    intro c Q q s h
    obtain ⟨v, q', s', hQ, hn⟩ := ih () _ Q p s h.2
    exact ⟨v, q', s', hQ, fun K H gd lv => one h.1 rfl (hn K H gd lv)⟩
  | point l k ih =>
    intro c Q q s h
    obtain ⟨v, q', s', hQ, hn⟩ := ih () _ Q q s h.2
    exact ⟨v, q', s', hQ, fun K H gd lv => one h.1 rfl (hn K H gd lv)⟩
  | fresh k ih =>
    intro c Q q s h
    obtain ⟨v, q', s', hQ, hn⟩ := ih s.toks _ Q q _ h.2
    exact ⟨v, q', s', hQ, fun K H gd lv => one h.1 rfl (hn K H gd lv)⟩
  | ask k ih =>
    intro c Q q s h
    obtain ⟨v, q', s', hQ, hn⟩ := ih ⟨pw, w.params⟩ _ Q q _ h.2
    exact ⟨v, q', s', hQ, fun K H gd lv => one h.1 rfl (hn K H gd lv)⟩
  | alloc o k ih =>
    intro c Q q s h
    obtain ⟨v, q', s', hQ, hn⟩ := ih s.heap.objs.size _ Q q _ h.2
    exact ⟨v, q', s', hQ, fun K H gd lv => one h.1 rfl (hn K H gd lv)⟩
  | load a p k ih =>
    intro c Q q s h
    obtain ⟨hc, o, ho, h⟩ := h
    obtain ⟨v, q', s', hQ, hn⟩ := ih o _ Q q s h
    refine ⟨v, q', s', hQ, fun K H gd lv => one hc ?_ (hn K H gd lv)⟩
    obtain ⟨heap, gens, drawn, toks, os⟩ := s
    show segGo treeTable pw w 28 annT 1 1 _ _ = _
    unfold segGo
    show (match step (denote treeTable) pw w ⟨heap, gens, drawn, toks, os⟩ ⟨.load a p fun x => (k x).wrap K H gd lv, codeT, q, B0⟩ with | .go s' t' => _ | .halt _ _ => none) = _
    have : step (denote treeTable) pw w ⟨heap, gens, drawn, toks, os⟩ ⟨.load a p fun x => (k x).wrap K H gd lv, codeT, q, B0⟩ = .go ⟨heap, gens, drawn, toks, os⟩ ⟨(k o).wrap K H gd lv, codeT, q, B0⟩ := by
      have ho' : heap.get? a = some o := ho
      simp only [step, ho']
    rw [this]; rfl
  | update a p f k ih =>
    intro c Q q s h
    obtain ⟨hc, ha, ho, h⟩ := h
    obtain ⟨v, q', s', hQ, hn⟩ := ih () _ Q q _ h
    refine ⟨v, q', s', hQ, fun K H gd lv => one hc ?_ (hn K H gd lv)⟩
    obtain ⟨heap, gens, drawn, toks, os⟩ := s
    show segGo treeTable pw w 28 annT 1 1 _ _ = _
    unfold segGo
    have hk : stepOk 28 annT ⟨.update a p f fun x => (k x).wrap K H gd lv, codeT, q, B0⟩ = true := by
      show (true && (Nat.ble 28 a || a == mainNs || a == cStatics || annT == some (.ref a))) = true
      rw [Nat.ble_eq_true_of_le ha]; rfl
    show (match stepOk 28 annT ⟨.update a p f fun x => (k x).wrap K H gd lv, codeT, q, B0⟩ with | false => none | true => (match step (denote treeTable) pw w ⟨heap, gens, drawn, toks, os⟩ ⟨.update a p f fun x => (k x).wrap K H gd lv, codeT, q, B0⟩ with | .go s' t' => _ | .halt _ _ => none)) = _
    rw [hk]
    have : step (denote treeTable) pw w ⟨heap, gens, drawn, toks, os⟩ ⟨.update a p f fun x => (k x).wrap K H gd lv, codeT, q, B0⟩ = .go ⟨heap.update a f, gens, drawn, toks, os⟩ ⟨(k ()).wrap K H gd lv, codeT, q, B0⟩ := by
      have ho' : (heap.get? a).isSome = true := ho
      simp only [step, ho', if_true]
    rw [this]; rfl
  | call cd h0 g l k ih =>
    intro c Q q s h
    obtain ⟨hc, kk, t, rfl, rfl, h⟩ := h
    obtain ⟨v, q', s', hQ, hn⟩ := ih _ _ Q q _ h
    refine ⟨v, q', s', hQ, fun K H gd lv => ?_⟩
    obtain ⟨n, hn, e⟩ := hn K H gd lv
    obtain ⟨heap, gens, drawn, toks, os⟩ := s
    exact ⟨4 + n, by omega, go_add (go_hash w heap gens drawn toks os kk t (gd g) (lv l) _ q) e⟩
  | _ => intro c Q q s h; exact h.elim

section
variable {w : World} {α β : Type} {q : Pos} {s : Shared}
theorem does_le {m : Sem α} {Q : α → Pos → Shared → Prop} {c c' : Nat} (h : Does w m c Q q s) (hc' : c ≤ c') : Does w m c' Q q s := by
  induction m generalizing q s c c' with
  | pure a => exact h
  | rule t k ih => exact ⟨by have := h.1; omega, ih () h.2 (by omega)⟩
  | «at» p k ih => exact ⟨by have := h.1; omega, ih () h.2 (by omega)⟩
  | point l k ih => exact ⟨by have := h.1; omega, ih () h.2 (by omega)⟩
  | fresh k ih => exact ⟨by have := h.1; omega, ih _ h.2 (by omega)⟩
  | ask k ih => exact ⟨by have := h.1; omega, ih _ h.2 (by omega)⟩
  | alloc o k ih => exact ⟨by have := h.1; omega, ih _ h.2 (by omega)⟩
  | load a p k ih => obtain ⟨hc, o, ho, h⟩ := h; exact ⟨by omega, o, ho, ih _ h (by omega)⟩
  | update a p f k ih => obtain ⟨hc, a1, a2, h⟩ := h; exact ⟨by omega, a1, a2, ih _ h (by omega)⟩
  | call cd h0 g l k ih => obtain ⟨hc, kk, t, a1, a2, h⟩ := h; exact ⟨by omega, kk, t, a1, a2, ih _ h (by omega)⟩
  | _ => exact h.elim
theorem does_bind (c1 c2 : Nat) {m : Sem α} {f : α → Sem β} {Q : β → Pos → Shared → Prop} {c : Nat} (h : Does w m c1 (fun a q' s' => Does w (f a) c2 Q q' s') q s) (hc' : c1 + c2 ≤ c) : Does w (m >>= f) c Q q s := by
  show Does w (m.bind f) c Q q s
  induction m generalizing q s c1 c with
  | pure a => exact does_le h (by omega)
  | rule t k ih => exact ⟨by have := h.1; omega, ih () (c1 - 1) h.2 (by have := h.1; omega)⟩
  | «at» p k ih => exact ⟨by have := h.1; omega, ih () (c1 - 1) h.2 (by have := h.1; omega)⟩
  | point l k ih => exact ⟨by have := h.1; omega, ih () (c1 - 1) h.2 (by have := h.1; omega)⟩
  | fresh k ih => exact ⟨by have := h.1; omega, ih _ (c1 - 1) h.2 (by have := h.1; omega)⟩
  | ask k ih => exact ⟨by have := h.1; omega, ih _ (c1 - 1) h.2 (by have := h.1; omega)⟩
  | alloc o k ih => exact ⟨by have := h.1; omega, ih _ (c1 - 1) h.2 (by have := h.1; omega)⟩
  | load a p k ih => obtain ⟨hc, o, ho, h⟩ := h; exact ⟨by omega, o, ho, ih _ (c1 - 1) h (by omega)⟩
  | update a p f k ih => obtain ⟨hc, a1, a2, h⟩ := h; exact ⟨by omega, a1, a2, ih _ (c1 - 1) h (by omega)⟩
  | call cd h0 g l k ih => obtain ⟨hc, kk, t, a1, a2, h⟩ := h; exact ⟨by omega, kk, t, a1, a2, ih _ (c1 - 4) h (by omega)⟩
  | _ => exact h.elim
theorem does_keep {c : Nat} {m : Sem α} {vs : List Value} {Q : α → Pos → Shared → Prop} (h : Does w m c Q q s) : Does w (m.keep vs) c Q q s := by
  induction m generalizing q s c with
  | pure a => exact h
  | rule t k ih => exact ⟨h.1, ih () h.2⟩
  | «at» p k ih => exact ⟨h.1, ih () h.2⟩
  | point l k ih => exact ⟨h.1, ih () h.2⟩
  | fresh k ih => exact ⟨h.1, ih _ h.2⟩
  | ask k ih => exact ⟨h.1, ih _ h.2⟩
  | alloc o k ih => exact ⟨h.1, ih _ h.2⟩
  | load a p k ih => obtain ⟨hc, o, ho, h⟩ := h; exact ⟨hc, o, ho, ih _ h⟩
  | update a p f k ih => obtain ⟨hc, a1, a2, h⟩ := h; exact ⟨hc, a1, a2, ih _ h⟩
  | call cd h0 g l k ih => obtain ⟨hc, kk, t, a1, a2, h⟩ := h; exact ⟨hc, kk, t, a1, a2, ih _ h⟩
  | _ => exact h.elim
theorem does_holding {c : Nat} {m : Sem α} {vs : List Value} {Q : α → Pos → Shared → Prop} (h : Does w m c Q q s) : Does w (holding vs m) c Q q s := by
  unfold holding
  split
  · exact h
  · exact does_keep h
theorem does_tryCatch {c : Nat} {m : Sem α} {k : Value → Sem α} {Q : α → Pos → Shared → Prop} (h : Does w m c Q q s) : Does w (m.tryCatch k) c Q q s := by
  induction m generalizing q s c with
  | pure a => exact h
  | rule t k ih => exact ⟨h.1, ih () h.2⟩
  | «at» p k ih => exact ⟨h.1, ih () h.2⟩
  | point l k ih => exact ⟨h.1, ih () h.2⟩
  | fresh k ih => exact ⟨h.1, ih _ h.2⟩
  | ask k ih => exact ⟨h.1, ih _ h.2⟩
  | alloc o k ih => exact ⟨h.1, ih _ h.2⟩
  | load a p k ih => obtain ⟨hc, o, ho, h⟩ := h; exact ⟨hc, o, ho, ih _ h⟩
  | update a p f k ih => obtain ⟨hc, a1, a2, h⟩ := h; exact ⟨hc, a1, a2, ih _ h⟩
  | call cd h0 g l k ih => obtain ⟨hc, kk, t, a1, a2, h⟩ := h; exact ⟨hc, kk, t, a1, a2, ih _ h⟩
  | _ => exact h.elim
theorem does_onRaise {c : Nat} {m : Sem α} {k : Value → Sem Unit} {Q : α → Pos → Shared → Prop} (h : Does w m c Q q s) : Does w (m.onRaise k) c Q q s := by
  induction m generalizing q s c with
  | pure a => exact h
  | rule t k ih => exact ⟨h.1, ih () h.2⟩
  | «at» p k ih => exact ⟨h.1, ih () h.2⟩
  | point l k ih => exact ⟨h.1, ih () h.2⟩
  | fresh k ih => exact ⟨h.1, ih _ h.2⟩
  | ask k ih => exact ⟨h.1, ih _ h.2⟩
  | alloc o k ih => exact ⟨h.1, ih _ h.2⟩
  | load a p k ih => obtain ⟨hc, o, ho, h⟩ := h; exact ⟨hc, o, ho, ih _ h⟩
  | update a p f k ih => obtain ⟨hc, a1, a2, h⟩ := h; exact ⟨hc, a1, a2, ih _ h⟩
  | call cd h0 g l k ih => obtain ⟨hc, kk, t, a1, a2, h⟩ := h; exact ⟨hc, kk, t, a1, a2, ih _ h⟩
  | _ => exact h.elim
end
end Mine
end

section
open PySem PySem.W PySem.Challenge PyProof.Rows
namespace Mine
set_option maxRecDepth 100000
set_option linter.unusedVariables false
set_option linter.unusedSimpArgs false
/-- a heap by its list of objects -/
noncomputable def hp (L : List Obj) : Heap := ⟨L.toArray, {}⟩
theorem hp_size (L : List Obj) : (hp L).objs.size = L.length := rfl
theorem hp_push (L : List Obj) (o : Obj) : (hp L).push o = hp (L ++ [o]) := by simp [hp, Heap.push]
theorem hp_get {B C : List Obj} {c : Value} {d : Option Addr} {es : Array DictEntry} {n : Nat} {sl : Array (Option Value)} : (hp (B ++ ⟨c, d, .dict es n, sl⟩ :: C)).get? B.length = some ⟨c, d, .dict es n, sl⟩ := by
  simp [hp, Heap.get?]
theorem hp_upd (B C : List Obj) (o : Obj) (f : Obj → Obj) : (hp (B ++ o :: C)).update B.length f = hp (B ++ f o :: C) := by
  simp only [hp, Heap.update, Heap.mk.injEq, and_true]
  apply Array.ext_getElem?
  intro i
  rw [Array.getElem?_modify]
  simp only [List.getElem?_toArray]
  by_cases h : B.length = i
  · subst h; simp
  · rw [if_neg h]
    by_cases hl : i < B.length
    · rw [List.getElem?_append_left hl, List.getElem?_append_left hl]
    · rw [List.getElem?_append_right (by omega), List.getElem?_append_right (by omega)]
      obtain ⟨j, hj⟩ : ∃ j, i - B.length = j + 1 := ⟨i - B.length - 1, by omega⟩
      rw [hj]; rfl

section
variable {w : World} {q : Pos} {s : Shared} {c : Nat}
theorem does_pure {α : Type} {a : α} {Q : α → Pos → Shared → Prop} (h : Q a q s) : Does w (pure a : Sem α) c Q q s := h
theorem does_of_eq {α : Type} {t : Sem α} {a : α} {Q : α → Pos → Shared → Prop} (e : t = pure a) (h : Q a q s) : Does w t c Q q s := by rw [e]; exact h
theorem does_mono {α : Type} {m : Sem α} {Q Q' : α → Pos → Shared → Prop} (h : Does w m c Q q s) (hQ : ∀ a q s, Q a q s → Q' a q s) : Does w m c Q' q s := by
  induction m generalizing q s c with
  | pure a => exact hQ _ _ _ h
  | rule t k ih => exact ⟨h.1, ih () h.2⟩
  | «at» p k ih => exact ⟨h.1, ih () h.2⟩
  | point l k ih => exact ⟨h.1, ih () h.2⟩
  | fresh k ih => exact ⟨h.1, ih _ h.2⟩
  | ask k ih => exact ⟨h.1, ih _ h.2⟩
  | alloc o k ih => exact ⟨h.1, ih _ h.2⟩
  | load a p k ih => obtain ⟨hc, o, ho, h⟩ := h; exact ⟨hc, o, ho, ih _ h⟩
  | update a p f k ih => obtain ⟨hc, a1, a2, h⟩ := h; exact ⟨hc, a1, a2, ih _ h⟩
  | call cd h0 g l k ih => obtain ⟨hc, kk, t, a1, a2, h⟩ := h; exact ⟨hc, kk, t, a1, a2, ih _ h⟩
  | _ => exact h.elim

theorem special_hash (k : Int) (t : Tok) : specialOf (.int k t) "__hash__" = pure (some (.builtin "int.__hash__")) := by
  unfold specialOf
  show (typeLookup (.type "int") "__hash__") = _
  exact slot_int_hash.lookup
theorem does_pyHash {k : Int} {t : Tok} {Q : Int → Pos → Shared → Prop} (h0 : 0 ≤ k) (h1 : k < 2 ^ 60) (h : Q k q { s with toks := s.toks + 1 }) : Does w (pyHash (.int k t)) 10 Q q s := by
  have hraw : rawHash k = k := by
    unfold rawHash
    have e : ((k.natAbs % (2 ^ 61 - 1 : Nat) : Nat) : Int) = k := by
      rw [Nat.mod_eq_of_lt (by omega)]; omega
    have n1 : ¬ k < 0 := by omega
    have n2 : (k == -1) = false := by simp; omega
    simp only [← Int.natCast_emod, e, n1, if_false, n2, Bool.false_eq_true]
  show Does w (pyHashByItsType (.int k t)) 10 Q q s
  unfold pyHashByItsType
  refine does_bind 0 10 (does_of_eq (a := ()) rfl ?_) (by omega)
  refine does_bind 0 10 (does_of_eq (special_hash k t) ?_) (by omega)
  rw [if_neg (by rw [beq_builtin_none]; exact Bool.false_ne_true)]
  refine does_bind 0 10 (does_of_eq (special_hash k t) ?_) (by omega)
  rw [if_neg (by simp)]
  refine does_bind 9 1 ?_ (by omega)
  unfold callSpecialIfBoundUnlessNone?
  refine does_holding ?_
  refine does_bind 2 7 ?_ (by omega)
  have hb : Does w (bindSpecialIfBound? (.int k t) "__hash__") 2 (fun r q' s' => r = some (.builtin "int.__hash__", [.int k t]) ∧ q' = q ∧ s' = s) q s := by
    unfold bindSpecialIfBound?
    refine does_bind 0 2 (does_of_eq (special_hash k t) ?_) (by omega)
    dsimp only
    rw [slot_int_hash.bind]
    refine ⟨by omega, ?_⟩
    show Does w (if w.params.followText "special-get-raises" = true then _ else _) _ _ q s
    split
    · exact ⟨rfl, rfl, rfl⟩
    · exact ⟨rfl, rfl, rfl⟩
  refine does_mono hb ?_
  rintro r q' s' ⟨rfl, rfl, rfl⟩
  dsimp only
  rw [if_neg (show ¬ ((Value.builtin "int.__hash__" == Value.none) = true) by decide)]
  refine ⟨by omega, k, t, rfl, rfl, ?_⟩
  show Does w (if (decide (-(2 ^ 63 : Int) ≤ rawHash k) && decide (rawHash k < 2 ^ 63)) = true then _ else _) _ Q q' _
  rw [hraw, if_pos (by simp; omega)]
  show Q (if (k == -1) = true then -2 else k) q' _
  rw [if_neg (by simp; omega)]
  exact h

noncomputable def esOk (k : Int) (es : List DictEntry) : Prop := ∀ e ∈ es, e.hash ≠ k
theorem places_none {k : Int} {es : List DictEntry} (h : esOk k es) : placesWithHash es.toArray.size (fun i => es.toArray[i]?.map (·.hash)) k = [] := by
  unfold placesWithHash
  rw [List.filter_eq_nil_iff]
  intro i hi
  rw [List.mem_range] at hi
  have hi' : i < es.length := by simpa using hi
  simp only [List.getElem?_toArray, List.getElem?_eq_getElem hi', Option.map_some]
  have := h es[i] (List.getElem_mem hi')
  simpa using this
theorem does_find {B C : List Obj} {es : List DictEntry} {k : Int} {t : Tok} {Q : Option Nat → Pos → Shared → Prop} (hs : s.heap = hp (B ++ dictObj es :: C)) (hk : esOk k es) (h : Q none q s) :
    Does w (dictFind B.length (.int k t) k) 1 Q q s := by
  unfold dictFind
  refine does_holding ?_
  unfold dictEntries
  refine does_bind 1 0 (does_bind 1 0 ⟨by omega, dictObj es, by rw [hs]; exact hp_get, ?_⟩ (by omega)) (by omega)
  show Does w (if _ then _ else _) _ Q q s
  rw [places_none hk, if_pos (by rfl)]
  exact h
theorem does_pushKey {B C : List Obj} {es : List DictEntry} {e : DictEntry} {part : Option Value} {Q : Unit → Pos → Shared → Prop} (hs : s.heap = hp (B ++ dictObj es :: C)) (hB : 28 ≤ B.length) (hz : es.length ≤ 100000)
    (h : Q () q { s with heap := hp (B ++ dictObj (es ++ [e]) :: C) }) : Does w (updateDictKeys B.length (·.push e) part) 3 Q q s := by
  have hobj : Obj.mapDictKeys (·.push e) (dictObj es) = dictObj (es ++ [e]) := by
    simp [Obj.mapDictKeys, dictObj]
  have hup : s.heap.update B.length (Obj.mapDictKeys (·.push e)) = hp (B ++ dictObj (es ++ [e]) :: C) := by rw [hs, hp_upd, hobj]
  unfold updateDictKeys
  refine does_bind 1 2 ⟨by omega, dictObj es, by rw [hs]; exact hp_get, ?_⟩ (by omega)
  refine does_bind 1 1 ⟨by omega, hB, by rw [hs]; rw [show (hp (B ++ dictObj es :: C)).get? B.length = some (dictObj es) from hp_get]; rfl, ?_⟩ (by omega)
  rw [hup]
  unfold lookBehind
  refine does_bind 1 0 ⟨by omega, dictObj (es ++ [e]), hp_get, ?_⟩ (by omega)
  show Does w (match (dictObj (es ++ [e])).data.pastItsLine with | some what => unsupported what | _ => pure ()) _ Q q _
  have : (dictObj (es ++ [e])).data.pastItsLine = none := by
    unfold dictObj
    refine pastItsLine_dict ?_
    rw [sizeLine_eq]; simp; omega
  rw [this]
  exact h
theorem does_dictSet {B C : List Obj} {es : List DictEntry} {k : Int} {t : Tok} {v : Value} {Q : Unit → Pos → Shared → Prop} (h0 : 0 ≤ k) (h1 : k < 2 ^ 60) (hs : s.heap = hp (B ++ dictObj es :: C)) (hB : 28 ≤ B.length) (hz : es.length ≤ 100000) (hk : esOk k es)
    (h : Q () q { s with heap := hp (B ++ dictObj (es ++ [⟨k, .int k t, v⟩]) :: C), toks := s.toks + 1 }) : Does w (dictSet B.length (.int k t) v) 15 Q q s := by
  unfold dictSet
  refine does_holding (does_bind 10 5 (does_pyHash h0 h1 ?_) (by omega))
  unfold dictSetHashed
  refine does_holding (does_bind 1 4 (does_find (B := B) (C := C) (es := es) hs hk ?_) (by omega))
  dsimp only
  refine does_bind 1 3 (show Does w (rule _) 1 _ q _ from ⟨by omega, ?_⟩) (by omega)
  exact does_pushKey (B := B) (C := C) (es := es) hs hB hz h
theorem does_dictPut {B C : List Obj} {es : List DictEntry} {k : Int} {t : Tok} {v : Value} {Q : Unit → Pos → Shared → Prop} (hs : s.heap = hp (B ++ dictObj es :: C)) (hB : 28 ≤ B.length) (hz : es.length ≤ 100000) (hk : esOk k es)
    (h : Q () q { s with heap := hp (B ++ dictObj (es ++ [⟨k, .int k t, v⟩]) :: C) }) : Does w (dictPut B.length k (.int k t) v) 4 Q q s := by
  unfold dictPut
  refine does_bind 1 3 (does_find (B := B) (C := C) (es := es) hs hk ?_) (by omega)
  exact does_pushKey (B := B) (C := C) (es := es) hs hB hz h
end
end Mine
end

section
open PySem PySem.W PySem.Challenge PyProof.Rows
namespace Mine
set_option maxRecDepth 100000
set_option linter.unusedVariables false
set_option linter.unusedSimpArgs false
noncomputable abbrev Pair := Sem Value × Sem Value
/-- the two trees of a pair of the display -/
noncomputable def pairOf (pos : Pos) (kv : Int × Str) : Pair := (mkInt kv.1, do let x ← mkText kv.2; standAt pos; pure x)
noncomputable def keyOk (kv : Int × Str) : Prop := 0 ≤ kv.1 ∧ kv.1 < 2 ^ 60
/-- keys apart -/
noncomputable def Apart (es : List DictEntry) (kvs : List (Int × Str)) : Prop := ∀ e ∈ es, ∀ kv ∈ kvs, e.hash ≠ kv.1
noncomputable def Rising : List (Int × Str) → Prop
  | [] => True
  | a :: r => (∀ b ∈ r, a.1 ≠ b.1) ∧ Rising r

section
variable {w : World} {q : Pos} {s : Shared} {c : Nat}
theorem does_at {p : Pos} {Q : Unit → Pos → Shared → Prop} (h : Q () p s) : Does w (standAt p) 1 Q q s := ⟨by omega, h⟩
theorem does_mkInt {i : Int} {Q : Value → Pos → Shared → Prop} (h : Q (.int i s.toks) q { s with toks := s.toks + 1 }) : Does w (mkInt i) 1 Q q s := ⟨by omega, h⟩
theorem does_mkText {x : Str} {Q : Value → Pos → Shared → Prop} (h : Q (.str x s.toks) q { s with toks := s.toks + 1 }) : Does w (mkText x) 1 Q q s := ⟨by omega, h⟩
theorem does_rule {x : String} {Q : Unit → Pos → Shared → Prop} (h : Q () q s) : Does w (rule x) 1 Q q s := ⟨by omega, h⟩
theorem does_alloc {o : Obj} {Q : Addr → Pos → Shared → Prop} (h : Q s.heap.objs.size q { s with heap := s.heap.push o }) : Does w (alloc o) 1 Q q s := ⟨by omega, h⟩
theorem does_pairKey {pos : Pos} {kv : Int × Str} {Q : Value → Pos → Shared → Prop} (h : Q (.int kv.1 s.toks) q { s with toks := s.toks + 1 }) : Does w (pairOf pos kv).1 1 Q q s := ⟨by omega, h⟩
theorem does_pairVal {pos : Pos} {kv : Int × Str} {Q : Value → Pos → Shared → Prop} (h : Q (.str kv.2 s.toks) pos { s with toks := s.toks + 1 }) : Does w (pairOf pos kv).2 2 Q q s := ⟨by omega, by omega, h⟩
/-- the long road: each pair laid as it comes -/
theorem does_long {B : List Obj} {pos : Pos} (hB : 28 ≤ B.length) : ∀ (kvs : List (Int × Str)) (es : List DictEntry) (s : Shared) (q : Pos) (Q : PUnit → Pos → Shared → Prop),
    s.heap = hp (B ++ dictObj es :: []) → (∀ kv ∈ kvs, keyOk kv) → Apart es kvs → Rising kvs → es.length + kvs.length ≤ 100000 →
    (∀ q', (kvs ≠ [] → q' = pos) → (kvs = [] → q' = q) → Q ⟨⟩ q' { s with heap := hp (B ++ dictObj (es ++ b3From 3 s.toks kvs) :: []), toks := s.toks + 3 * kvs.length }) →
    Does w (forIn (kvs.map (pairOf pos)) PUnit.unit fun (x : Pair) (_ : PUnit) => (do
      let kv ← x.1
      let vv ← holding [kv] x.2
      holding [kv, vv] (dictSet B.length kv vv)
      pure (ForInStep.yield PUnit.unit) : Sem (ForInStep PUnit))) (20 * kvs.length) Q q s
  | [], es, s, q, Q, hs, _, _, _, _, hQ => by
    rw [List.map_nil, List.forIn_nil]
    have := hQ q (fun h => absurd rfl h) (fun _ => rfl)
    simp only [b3From, List.append_nil, List.length_nil, Nat.mul_zero, Nat.add_zero] at this
    rw [← hs] at this
    exact this
  | kv :: r, es, s, q, Q, hs, hk, ha, hr, hz, hQ => by
    rw [List.map_cons, List.forIn_cons]
    have hk0 := hk kv (.head _)
    refine does_bind 20 (20 * r.length) (does_bind 1 19 (does_pairKey ?_) (by omega)) (by simp; omega)
    refine does_bind 2 17 (does_holding (does_pairVal ?_)) (by omega)
    refine does_bind 15 2 (does_holding ?_) (by omega)
    refine does_dictSet (B := B) (C := []) (es := es) hk0.1 hk0.2 hs hB (by simp at hz; omega) (fun e he => ha e he kv (.head _)) ?_
    refine does_pure ?_
    dsimp only
    refine does_long hB r (es ++ [⟨kv.1, .int kv.1 s.toks, .str kv.2 (s.toks + 1)⟩]) _ _ Q rfl (fun x hx => hk x (.tail _ hx)) ?_ hr.2 (by simp at hz ⊢; omega) ?_
    · intro e he kv' hkv'
      rcases List.mem_append.mp he with h | h
      · exact ha e h kv' (.tail _ hkv')
      · rw [List.mem_singleton.mp h]; exact hr.1 kv' hkv'
    · intro q' h1 h2
      have := hQ q' (fun _ => by
        by_cases hn : r = []
        · exact h2 hn
        · exact h1 hn) (fun h => by cases h)
      have e1 : s.toks + 1 + 1 + 1 + 3 * r.length = s.toks + 3 * (kv :: r).length := by simp; omega
      have e2 : es ++ [⟨kv.1, .int kv.1 s.toks, .str kv.2 (s.toks + 1)⟩] ++ b3From 3 (s.toks + 1 + 1 + 1) r = es ++ b3From 3 s.toks (kv :: r) := by
        rw [List.append_assoc]; rfl
      show Q ⟨⟩ q' { heap := hp (B ++ dictObj (es ++ [⟨kv.1, .int kv.1 s.toks, .str kv.2 (s.toks + 1)⟩] ++ b3From 3 (s.toks + 1 + 1 + 1) r) :: []), gens := s.gens, drawn := s.drawn, toks := s.toks + 1 + 1 + 1 + 3 * r.length, os := s.os }
      rw [e1, e2]
      exact this
theorem does_subLong {B : List Obj} {pos : Pos} {kvs : List (Int × Str)} {Q : Addr → Pos → Shared → Prop} (hB : 28 ≤ B.length) (hs : s.heap = hp B) (hk : ∀ kv ∈ kvs, keyOk kv) (hr : Rising kvs) (hl : 15 < kvs.length) (hz : kvs.length ≤ 1000)
    (h : Q B.length pos { s with heap := hp (B ++ dictObj (b3From 3 s.toks kvs) :: []), toks := s.toks + 3 * kvs.length }) : Does w (subDict (kvs.map (pairOf pos))) (20 * kvs.length + 5) Q q s := by
  unfold subDict
  refine does_bind 1 (20 * kvs.length + 4) (does_alloc ?_) (by omega)
  rw [hs, hp_size, hp_push]
  refine does_bind (20 * kvs.length + 2) 1 (does_holding ?_) (by omega)
  rw [if_neg (by rw [List.length_map]; omega)]
  refine does_bind 1 (20 * kvs.length + 1) (does_rule ?_) (by omega)
  refine does_bind (20 * kvs.length) 1 ?_ (by omega)
  refine does_long (B := B) hB kvs [] _ q _ rfl hk (fun e he => (nomatch he)) hr (by simp; omega) ?_
  intro q' h1 h2
  obtain rfl := h1 (by intro e; subst e; simp at hl)
  exact h
end
end Mine
end

section
open PySem PySem.W PySem.Challenge PyProof.Rows
namespace Mine
set_option maxRecDepth 100000
set_option linter.unusedVariables false
set_option linter.unusedSimpArgs false
section
variable {w : World} {q : Pos} {s : Shared} {c : Nat}
noncomputable def valsOf : Nat → List (Int × Str) → List (Value × Value)
  | _, [] => []
  | t, (k, v) :: r => (.int k t, .str v (t + 1)) :: valsOf (t + 2) r
theorem does_evalPairs {pos : Pos} : ∀ (kvs : List (Int × Str)) (s : Shared) (q : Pos) (Q : List (Value × Value) → Pos → Shared → Prop),
    (∀ q', (kvs ≠ [] → q' = pos) → (kvs = [] → q' = q) → Q (valsOf s.toks kvs) q' { s with toks := s.toks + 2 * kvs.length }) → Does w (evalPairs (kvs.map (pairOf pos))) (4 * kvs.length) Q q s
  | [], s, q, Q, hQ => by
    have := hQ q (fun h => absurd rfl h) (fun _ => rfl)
    exact this
  | kv :: r, s, q, Q, hQ => by
    rw [List.map_cons]
    unfold evalPairs
    refine does_bind 1 (4 * r.length + 3) (does_pairKey ?_) (by simp; omega)
    refine does_bind 2 (4 * r.length + 1) (does_holding (does_pairVal ?_)) (by omega)
    refine does_bind (4 * r.length) 1 (does_holding (does_evalPairs r _ _ _ fun q' h1 h2 => ?_)) (by omega)
    refine does_pure ?_
    have := hQ q' (fun _ => by
        by_cases hn : r = []
        · exact h2 hn
        · exact h1 hn) (fun h => by cases h)
    have e1 : s.toks + 1 + 1 + 2 * r.length = s.toks + 2 * (kv :: r).length := by simp; omega
    dsimp only
    rw [e1]
    exact this
theorem does_storeAll {B : List Obj} (hB : 28 ≤ B.length) : ∀ (kvs : List (Int × Str)) (es : List DictEntry) (t0 : Nat) (s : Shared) (q : Pos) (Q : PUnit → Pos → Shared → Prop),
    s.heap = hp (B ++ dictObj es :: []) → (∀ kv ∈ kvs, keyOk kv) → Apart es kvs → Rising kvs → es.length + kvs.length ≤ 100000 →
    Q ⟨⟩ q { s with heap := hp (B ++ dictObj (es ++ b3From 2 t0 kvs) :: []), toks := s.toks + kvs.length } →
    Does w (forIn (valsOf t0 kvs) PUnit.unit fun (x : Value × Value) (_ : PUnit) => (do dictSet B.length x.1 x.2; pure (ForInStep.yield PUnit.unit) : Sem (ForInStep PUnit))) (20 * kvs.length) Q q s
  | [], es, t0, s, q, Q, hs, _, _, _, _, hQ => by
    unfold valsOf
    rw [List.forIn_nil]
    simp only [b3From, List.append_nil, List.length_nil, Nat.add_zero] at hQ
    rw [← hs] at hQ
    exact hQ
  | kv :: r, es, t0, s, q, Q, hs, hk, ha, hr, hz, hQ => by
    unfold valsOf
    rw [List.forIn_cons]
    have hk0 := hk kv (.head _)
    refine does_bind 20 (20 * r.length) (does_bind 15 5 ?_ (by omega)) (by simp; omega)
    refine does_dictSet (B := B) (C := []) (es := es) hk0.1 hk0.2 hs hB (by simp at hz; omega) (fun e he => ha e he kv (.head _)) ?_
    refine does_pure ?_
    dsimp only
    refine does_storeAll hB r (es ++ [⟨kv.1, .int kv.1 t0, .str kv.2 (t0 + 1)⟩]) (t0 + 2) _ _ Q rfl (fun x hx => hk x (.tail _ hx)) ?_ hr.2 (by simp at hz ⊢; omega) ?_
    · intro e he kv' hkv'
      rcases List.mem_append.mp he with h | h
      · exact ha e h kv' (.tail _ hkv')
      · rw [List.mem_singleton.mp h]; exact hr.1 kv' hkv'
    · have e1 : s.toks + 1 + r.length = s.toks + (kv :: r).length := by simp; omega
      have e2 : es ++ [⟨kv.1, .int kv.1 t0, .str kv.2 (t0 + 1)⟩] ++ b3From 2 (t0 + 2) r = es ++ b3From 2 t0 (kv :: r) := by
        rw [List.append_assoc]; rfl
      show Q ⟨⟩ q { heap := hp (B ++ dictObj (es ++ [⟨kv.1, .int kv.1 t0, .str kv.2 (t0 + 1)⟩] ++ b3From 2 (t0 + 2) r) :: []), gens := s.gens, drawn := s.drawn, toks := s.toks + 1 + r.length, os := s.os }
      rw [e1, e2]
      exact hQ
theorem does_subShort {B : List Obj} {pos : Pos} {kvs : List (Int × Str)} {Q : Addr → Pos → Shared → Prop} (hB : 28 ≤ B.length) (hs : s.heap = hp B) (hk : ∀ kv ∈ kvs, keyOk kv) (hr : Rising kvs) (hl : kvs.length ≤ 15) (hn : kvs ≠ [])
    (h : Q B.length pos { s with heap := hp (B ++ dictObj (b3From 2 s.toks kvs) :: []), toks := s.toks + 3 * kvs.length }) : Does w (subDict (kvs.map (pairOf pos))) (24 * kvs.length + 5) Q q s := by
  unfold subDict
  refine does_bind 1 (24 * kvs.length + 4) (does_alloc ?_) (by omega)
  rw [hs, hp_size, hp_push]
  refine does_bind (24 * kvs.length + 2) 1 (does_holding ?_) (by omega)
  rw [if_pos (by rw [List.length_map]; omega)]
  refine does_bind (4 * kvs.length) (20 * kvs.length + 2) (does_evalPairs kvs _ _ _ fun q' h1 h2 => ?_) (by omega)
  obtain rfl := h1 hn
  refine does_holding ?_
  refine does_bind (20 * kvs.length) 1 ?_ (by omega)
  refine does_storeAll (B := B) hB kvs [] s.toks _ _ _ rfl hk (fun e he => (nomatch he)) hr (by simp; omega) ?_
  have e1 : s.toks + 2 * kvs.length + kvs.length = s.toks + 3 * kvs.length := by omega
  show Q B.length q' { heap := hp (B ++ dictObj ([] ++ b3From 2 s.toks kvs) :: []), gens := s.gens, drawn := s.drawn, toks := s.toks + 2 * kvs.length + kvs.length, os := s.os }
  rw [e1]; exact h

theorem does_typeOf {a : Addr} {o : Obj} {Q : Value → Pos → Shared → Prop} (hg : s.heap.get? a = some o) (h : Q o.cls q s) : Does w (typeOf (.ref a)) 1 Q q s := ⟨by omega, o, hg, h⟩
theorem does_isDict {a : Addr} {es : List DictEntry} {Q : Bool → Pos → Shared → Prop} (hg : s.heap.get? a = some (dictObj es)) (h : Q true q s) : Does w (isInstance (.ref a) (.type "dict")) 1 Q q s := by
  unfold isInstance
  exact does_bind 1 0 (does_typeOf hg (does_of_eq isSubtype_dict_dict h)) (by omega)
theorem does_iterOf {a : Addr} {es : List DictEntry} {Q : Option Value → Pos → Shared → Prop} (hg : s.heap.get? a = some (dictObj es)) (h : Q (some (.builtin "dict.__iter__")) q s) : Does w (specialOf (.ref a) "__iter__") 1 Q q s := by
  unfold specialOf
  exact does_bind 1 0 (does_typeOf hg (does_of_eq F.slot_dict_iter.lookup h)) (by omega)
theorem does_entries {a : Addr} {es : List DictEntry} {p : Option Value} {Q : Array DictEntry → Pos → Shared → Prop} (hg : s.heap.get? a = some (dictObj es)) (h : Q es.toArray q s) : Does w (dictEntries a p) 1 Q q s := by
  unfold dictEntries
  exact does_bind 1 0 ⟨by omega, _, hg, h⟩ (by omega)
theorem does_epoch {a : Addr} {es : List DictEntry} {p : Option Value} {Q : Nat → Pos → Shared → Prop} (hg : s.heap.get? a = some (dictObj es)) (h : Q es.length q s) : Does w (dictEpoch a p) 1 Q q s := by
  unfold dictEpoch
  exact does_bind 1 0 ⟨by omega, _, hg, h⟩ (by omega)
noncomputable def IntEnt (e : DictEntry) : Prop := ∃ t, e.key = .int e.hash t
theorem get_sub {B C : List Obj} {es es2 : List DictEntry} (hs : s.heap = hp (B ++ dictObj es :: (C ++ [dictObj es2]))) : s.heap.get? (B.length + C.length + 1) = some (dictObj es2) := by
  have hs' : s.heap = hp ((B ++ dictObj es :: C) ++ dictObj es2 :: []) := by rw [hs]; simp
  have hlen : (B ++ dictObj es :: C).length = B.length + C.length + 1 := by simp; omega
  rw [hs', ← hlen]; exact hp_get
theorem does_mergeLoop {B C : List Obj} {es es2 : List DictEntry} (hB : 28 ≤ B.length) (hi : ∀ e ∈ es2, IntEnt e) (hap : ∀ e ∈ es, ∀ e2 ∈ es2, e.hash ≠ e2.hash) (hnd : (es2.map (·.hash)).Nodup) (hz : es.length + es2.length ≤ 10000)
    (f : Nat → PUnit → Sem (ForInStep PUnit)) (hf : ∀ (i : Nat) (e : DictEntry) (s : Shared) (q : Pos) (Q : ForInStep PUnit → Pos → Shared → Prop) (es' : List DictEntry), es2[i]? = some e → s.heap = hp (B ++ dictObj es' :: (C ++ [dictObj es2])) → es'.length ≤ 10000 → esOk e.hash es' →
      Q (.yield ⟨⟩) q { s with heap := hp (B ++ dictObj (es' ++ [e]) :: (C ++ [dictObj es2])) } → Does w (f i ⟨⟩) 10 Q q s) :
    ∀ (n i : Nat) (s : Shared) (q : Pos) (Q : PUnit → Pos → Shared → Prop), i + n = es2.length → s.heap = hp (B ++ dictObj (es ++ es2.take i) :: (C ++ [dictObj es2])) →
      Q ⟨⟩ q { s with heap := hp (B ++ dictObj (es ++ es2) :: (C ++ [dictObj es2])) } → Does w (forIn (List.range' i n) PUnit.unit f) (10 * n) Q q s
  | 0, i, s, q, Q, hin, hs, hQ => by
    rw [List.range'_zero, List.forIn_nil]
    rw [List.take_of_length_le (by omega)] at hs
    rw [← hs] at hQ
    exact hQ
  | n + 1, i, s, q, Q, hin, hs, hQ => by
    rw [List.range'_succ, List.forIn_cons]
    have hlt : i < es2.length := by omega
    refine does_bind 10 (10 * n) (hf i es2[i] s q _ (es ++ es2.take i) (List.getElem?_eq_getElem hlt) hs (by simp; omega) ?_ ?_) (by omega)
    · intro e he
      rcases List.mem_append.mp he with h | h
      · exact hap e h _ (List.getElem_mem hlt)
      · intro q
        obtain ⟨j, hj, rfl⟩ := List.getElem_of_mem h
        have hj' : j < i := by simp at hj; omega
        rw [List.getElem_take] at q
        have hnd' := List.pairwise_iff_getElem.mp hnd j i (by simp; omega) (by simp; omega) hj'
        exact hnd' (by simpa using q)
    · dsimp only
      refine does_mergeLoop hB hi hap hnd hz f hf n (i + 1) _ _ Q (by omega) ?_ hQ
      show hp _ = hp _
      rw [List.append_assoc, List.take_add_one, List.getElem?_eq_getElem hlt]; rfl
theorem does_merge {B C : List Obj} {es es2 : List DictEntry} {Q : Unit → Pos → Shared → Prop} (hB : 28 ≤ B.length) (hs : s.heap = hp (B ++ dictObj es :: (C ++ [dictObj es2]))) (hne : es ≠ []) (hi : ∀ e ∈ es2, IntEnt e) (hap : ∀ e ∈ es, ∀ e2 ∈ es2, e.hash ≠ e2.hash) (hnd : (es2.map (·.hash)).Nodup)
    (hz : es.length + es2.length ≤ 10000) (h : Q () q { s with heap := hp (B ++ dictObj (es ++ es2) :: (C ++ [dictObj es2])) }) :
    Does w (mergeMapping B.length (.ref (B.length + C.length + 1)) false) (10 * es2.length + 10) Q q s := by
  have hg := get_sub hs
  unfold mergeMapping
  refine does_bind 1 (10 * es2.length + 9) (does_isDict hg ?_) (by omega)
  dsimp only
  rw [if_pos rfl]
  refine does_bind 1 (10 * es2.length + 8) (does_iterOf hg ?_) (by omega)
  refine does_bind 0 (10 * es2.length + 8) (does_pure ?_) (by omega)
  rw [show ((some (Value.builtin "dict.__iter__") : Option Value) == some (Value.builtin "dict.__iter__")) = true from by decide]
  dsimp only
  rw [if_neg (by rw [beq_iff_eq]; show ¬ (B.length + C.length + 1 = 1); omega)]
  refine does_bind 1 (10 * es2.length + 7) (does_entries (es := es) (by rw [hs]; exact hp_get) ?_) (by omega)
  rw [if_neg (by simpa using hne)]
  refine does_bind 1 (10 * es2.length + 6) (does_entries hg ?_) (by omega)
  refine does_bind 1 (10 * es2.length + 5) (does_epoch hg ?_) (by omega)
  refine does_bind (10 * es2.length) 5 ?_ (by omega)
  rw [List.size_toArray, List.range_eq_range']
  refine does_mergeLoop (es := es) hB hi hap hnd hz _ ?_ es2.length 0 s q _ (by omega) (by simpa using hs) ?_
  · intro i e s q Q es' hie hs1 hz1 hok hQ
    have hg1 := get_sub hs1
    refine does_bind 1 9 (does_entries hg1 ?_) (by omega)
    rw [List.getElem?_toArray, hie]
    dsimp only
    obtain ⟨t, ht⟩ := hi e (List.mem_of_getElem? hie)
    refine does_bind 4 5 (does_holding ?_) (by omega)
    rw [if_neg Bool.false_ne_true, ht]
    refine does_dictPut (B := B) (C := C ++ [dictObj es2]) (es := es') hs1 hB (by omega) hok ?_
    refine does_bind 1 4 (does_epoch (get_sub (es := es' ++ [⟨e.hash, .int e.hash t, e.val⟩]) rfl) ?_) (by omega)
    rw [if_neg (by simp)]
    refine does_pure ?_
    have : (⟨e.hash, .int e.hash t, e.val⟩ : DictEntry) = e := by rw [← ht]
    rw [this]
    exact hQ
  · exact h
end
end Mine
end

section
open PySem PySem.W PySem.Challenge PyProof.Rows
namespace Mine
set_option maxRecDepth 100000
set_option linter.unusedVariables false
set_option linter.unusedSimpArgs false
noncomputable abbrev St := Option Addr × List Pair
noncomputable def up (p : Pair) : Option (Sem Value) × Sem Value := (some p.1, p.2)
theorem loop_gather (f : (Option (Sem Value) × Sem Value) → St → Sem (ForInStep St))
    (hlt : ∀ (p : Pair) (main : Option Addr) (run : List Pair), run.length + 1 < 17 → f (up p) (main, run) = pure (.yield (main, run ++ [p]))) :
    ∀ (items run : List Pair) (main : Option Addr), run.length + items.length < 17 → forIn (items.map up) (main, run) f = pure (main, run ++ items)
  | [], run, main, _ => by simp
  | p :: rest, run, main, h => by
    rw [List.map_cons, List.forIn_cons, hlt p main run (by simp at h; omega), pure_bind]
    have := loop_gather f hlt rest (run ++ [p]) main (by simp at h ⊢; omega)
    simpa using this
theorem loop_full (f : (Option (Sem Value) × Sem Value) → St → Sem (ForInStep St)) (flush : List Pair → Option Addr → Sem (Option Addr))
    (hlt : ∀ (p : Pair) (main : Option Addr) (run : List Pair), run.length + 1 < 17 → f (up p) (main, run) = pure (.yield (main, run ++ [p])))
    (heq : ∀ (p : Pair) (main : Option Addr) (run : List Pair), run.length + 1 = 17 → f (up p) (main, run) = (do let m ← flush (run ++ [p]) main; pure (.yield (m, [])))) :
    ∀ (c run : List Pair) (main : Option Addr) (rest : List (Option (Sem Value) × Sem Value)), run.length + c.length = 17 → c ≠ [] → forIn (c.map up ++ rest) (main, run) f = (do let m ← flush (run ++ c) main; forIn rest (m, []) f)
  | [], run, main, rest, _, h => absurd rfl h
  | [p], run, main, rest, h, _ => by
    rw [List.map_cons, List.map_nil, List.cons_append, List.nil_append, List.forIn_cons, heq p main run (by simpa using h), bind_assoc]
    simp only [pure_bind]
  | p :: p' :: c, run, main, rest, h, _ => by
    rw [List.map_cons, List.cons_append, List.forIn_cons, hlt p main run (by simp at h; omega), pure_bind]
    have := loop_full f flush hlt heq (p' :: c) (run ++ [p]) main rest (by simp at h ⊢; omega) (by simp)
    simpa using this
noncomputable def flushS (run : List Pair) (main : Option Addr) : Sem (Option Addr) :=
  if run.isEmpty = true then pure main else match main with
  | none => do
    let __do_lift ← subDict run
    pure (some __do_lift)
  | some d => do
    let sub ← holding [Value.ref d] (subDict run)
    (holding [Value.ref d, Value.ref sub] (mergeMapping d (Value.ref sub) false)).onRaise fun x => do
      let _ ← holding [Value.ref d, x] (runValue (Code.builtin "proto.let_go" { }))
      pure ()
    pure (some d)
theorem display_split : ∃ f : (Option (Sem Value) × Sem Value) → St → Sem (ForInStep St),
    (∀ items, dictDisplay items = (do let st ← forIn items ((none, []) : St) f; let m ← flushS st.2 st.1; match m with | some d => pure (Value.ref d) | none => newDict)) ∧
    (∀ (p : Pair) (main : Option Addr) (run : List Pair), run.length + 1 < 17 → f (up p) (main, run) = pure (.yield (main, run ++ [p]))) ∧
    (∀ (p : Pair) (main : Option Addr) (run : List Pair), run.length + 1 = 17 → f (up p) (main, run) = (do let m ← flushS (run ++ [p]) main; pure (.yield (m, [])))) := by
  apply Exists.intro
  refine And.intro (fun items => ?_) (And.intro (fun p main run h => ?_) fun p main run h => ?_)
  · unfold dictDisplay
    exact rfl
  · have hne : ((run ++ [(p.1, p.2)]).length == 17) = false := by simp; omega
    simp only [up, hne, Bool.false_eq_true, if_false]
  · have hne : ((run ++ [(p.1, p.2)]).length == 17) = true := by simp; omega
    simp only [up, hne, if_true]
    rfl

/-! the table's keys -/
noncomputable def risesB : List Int → Bool
  | a :: b :: r => decide (a < b) && risesB (b :: r)
  | _ => true
theorem rises_pairwise : ∀ {l : List Int}, risesB l = true → l.Pairwise (· < ·)
  | [], _ => .nil
  | [a], _ => List.pairwise_singleton _ _
  | a :: b :: r, h => by
    simp only [risesB, Bool.and_eq_true, decide_eq_true_eq] at h
    have ih := rises_pairwise h.2
    refine List.pairwise_cons.mpr ⟨fun x hx => ?_, ih⟩
    rcases List.mem_cons.mp hx with rfl | hx
    · exact h.1
    · exact Int.lt_trans h.1 ((List.pairwise_cons.mp ih).1 x hx)
theorem b3_rises : risesB (b3Pairs.map (·.1)) = true := by kernel_rfl
theorem b3_small : (b3Pairs.all fun kv => decide (0 ≤ kv.1) && decide (kv.1 < 1152921504606846976)) = true := by kernel_rfl
theorem b3_len : b3Pairs.length = 650 := by kernel_rfl
theorem b3_pair : b3Pairs.Pairwise (fun a b => a.1 ≠ b.1) := (List.pairwise_map.mp (rises_pairwise b3_rises)).imp fun h => Int.ne_of_lt h
theorem b3_keys : ∀ kv ∈ b3Pairs, keyOk kv := fun kv h => by
  have := List.all_eq_true.mp b3_small kv h
  simp only [Bool.and_eq_true, decide_eq_true_eq] at this
  exact ⟨this.1, by have := this.2; omega⟩
theorem rising_of : ∀ {l : List (Int × Str)}, l.Pairwise (fun a b => a.1 ≠ b.1) → Rising l
  | [], _ => trivial
  | a :: r, h => ⟨(List.pairwise_cons.mp h).1, rising_of (List.pairwise_cons.mp h).2⟩
theorem from_hash (d : Nat) : ∀ (t : Nat) (l : List (Int × Str)), (b3From d t l).map (·.hash) = l.map (·.1)
  | _, [] => rfl
  | t, (k, v) :: r => by simp [b3From, from_hash d (t + d) r]
theorem from_len (d : Nat) : ∀ (t : Nat) (l : List (Int × Str)), (b3From d t l).length = l.length
  | _, [] => rfl
  | t, (k, v) :: r => by simp [b3From, from_len d (t + d) r]
theorem from_int (d : Nat) : ∀ (t : Nat) (l : List (Int × Str)), ∀ e ∈ b3From d t l, IntEnt e
  | _, [], e, h => nomatch h
  | t, (k, v) :: r, e, h => by
    rcases List.mem_cons.mp h with rfl | h
    · exact ⟨t, rfl⟩
    · exact from_int d (t + d) r e h
noncomputable def chunk (j : Nat) : List (Int × Str) := if j < 38 then (b3Pairs.drop (17 * j)).take 17 else b3Pairs.drop 646
theorem run_hash (j : Nat) : (b3Run j).map (·.hash) = (chunk j).map (·.1) := by
  unfold b3Run chunk; split <;> exact from_hash _ _ _
theorem run_int (j : Nat) : ∀ e ∈ b3Run j, IntEnt e := by
  unfold b3Run; split <;> exact from_int _ _ _
theorem run_len (j : Nat) : (b3Run j).length = (chunk j).length := by
  unfold b3Run chunk; split <;> exact from_len _ _ _
theorem take_chunk {j : Nat} (h : j < 38) : b3Pairs.take (17 * j) ++ chunk j = b3Pairs.take (17 * (j + 1)) := by
  unfold chunk
  rw [if_pos h, show 17 * (j + 1) = 17 * j + 17 by omega, List.take_add]
theorem all_hash : ∀ (j : Nat), j ≤ 38 → (b3All j).map (·.hash) = (b3Pairs.take (17 * j)).map (·.1)
  | 0, _ => rfl
  | j + 1, h => by
    unfold b3All
    rw [List.map_append, all_hash j (by omega), run_hash, ← List.map_append, take_chunk (by omega)]
theorem all_len (j : Nat) (h : j ≤ 38) : (b3All j).length = 17 * j := by
  have e := congrArg List.length (all_hash j h)
  simp only [List.length_map, List.length_take, b3_len] at e
  omega
theorem chunk_mem {j : Nat} {kv : Int × Str} (h : kv ∈ chunk j) : kv ∈ b3Pairs := by
  unfold chunk at h
  split at h
  · exact List.mem_of_mem_drop (List.mem_of_mem_take h)
  · exact List.mem_of_mem_drop h
theorem chunk_rising (j : Nat) : (chunk j).Pairwise (fun a b => a.1 ≠ b.1) := by
  unfold chunk
  split
  · exact (b3_pair.drop).take
  · exact b3_pair.drop
theorem run_nodup (j : Nat) : ((b3Run j).map (·.hash)).Nodup := by
  rw [run_hash]
  exact List.pairwise_map.mpr (chunk_rising j)
theorem chunk_sub {j : Nat} (h : j ≤ 38) {kv : Int × Str} (hk : kv ∈ chunk j) : kv ∈ b3Pairs.drop (17 * j) := by
  unfold chunk at hk
  split at hk
  · exact List.mem_of_mem_take hk
  · obtain rfl : j = 38 := by omega
    exact hk
theorem all_apart {j : Nat} (h : j ≤ 38) : ∀ e ∈ b3All j, ∀ e2 ∈ b3Run j, e.hash ≠ e2.hash := by
  intro e he e2 he2
  have h1 : e.hash ∈ (b3Pairs.take (17 * j)).map (·.1) := by rw [← all_hash j h]; exact List.mem_map_of_mem he
  have h2 : e2.hash ∈ (chunk j).map (·.1) := by rw [← run_hash]; exact List.mem_map_of_mem he2
  obtain ⟨a, ha, ea⟩ := List.mem_map.mp h1
  obtain ⟨b, hb, eb⟩ := List.mem_map.mp h2
  rw [← ea, ← eb]
  have := b3_pair
  rw [← List.take_append_drop (17 * j) b3Pairs] at this
  exact (List.pairwise_append.mp this).2.2 a ha b (chunk_sub h hb)
end Mine
end

section
open PySem PySem.W PySem.Challenge PyProof.Rows
namespace Mine
set_option maxRecDepth 100000
set_option linter.unusedVariables false
set_option linter.unusedSimpArgs false
noncomputable def subsL (j : Nat) : List Obj := (List.range (j - 1)).map fun i => dictObj (b3Run (i + 1))
theorem subsL_succ {j : Nat} (h : 1 ≤ j) : subsL (j + 1) = subsL j ++ [dictObj (b3Run j)] := by
  obtain ⟨k, rfl⟩ : ∃ k, j = k + 1 := ⟨j - 1, by omega⟩
  simp [subsL, List.range_succ]
section
variable {w : World} {q : Pos} {s : Shared}
theorem chunk_len {j : Nat} (h : j < 38) : (chunk j).length = 17 := by
  unfold chunk
  rw [if_pos h, List.length_take, List.length_drop, b3_len]; omega
theorem chunk_last : (chunk 38).length = 4 := by
  unfold chunk
  rw [if_neg (by decide), List.length_drop, b3_len]
theorem does_flush0 {B : List Obj} {pos : Pos} {Q : Option Addr → Pos → Shared → Prop} (hB : 28 ≤ B.length) (hs : s.heap = hp B) (ht : s.toks = 436)
    (h : Q (some B.length) pos { s with heap := hp (B ++ dictObj (b3All 1) :: subsL 1), toks := 436 + 51 * 1 }) : Does w (flushS ((chunk 0).map (pairOf pos)) none) 600 Q q s := by
  have hl := chunk_len (j := 0) (by decide)
  unfold flushS
  rw [if_neg (by intro e; have := congrArg id (List.isEmpty_iff.mp e); simp at this; rw [this] at hl; cases hl)]
  dsimp only
  refine does_bind (20 * (chunk 0).length + 5) 0 (does_subLong (B := B) hB hs (fun kv hk => b3_keys kv (chunk_mem hk)) (rising_of (chunk_rising 0)) (by omega) (by omega) ?_) (by omega)
  refine does_pure ?_
  rw [ht, hl]
  exact h
theorem does_flush {B : List Obj} {pos : Pos} {j : Nat} {Q : Option Addr → Pos → Shared → Prop} (hj : 1 ≤ j) (hj' : j < 38) (hB : 28 ≤ B.length) (hs : s.heap = hp (B ++ dictObj (b3All j) :: subsL j)) (ht : s.toks = 436 + 51 * j)
    (h : Q (some B.length) pos { s with heap := hp (B ++ dictObj (b3All (j + 1)) :: subsL (j + 1)), toks := 436 + 51 * (j + 1) }) : Does w (flushS ((chunk j).map (pairOf pos)) (some B.length)) 600 Q q s := by
  have hl := chunk_len hj'
  unfold flushS
  rw [if_neg (by intro e; have := congrArg id (List.isEmpty_iff.mp e); simp at this; rw [this] at hl; cases hl)]
  dsimp only
  refine does_bind (20 * (chunk j).length + 5) 200 (does_holding (does_subLong (B := B ++ dictObj (b3All j) :: subsL j) (by simp; omega) hs (fun kv hk => b3_keys kv (chunk_mem hk)) (rising_of (chunk_rising j)) (by omega) (by omega) ?_)) (by omega)
  have hrun : b3From 3 s.toks (chunk j) = b3Run j := by unfold b3Run chunk; rw [if_pos hj', if_pos hj', ht]
  have hlen : (B ++ dictObj (b3All j) :: subsL j).length = B.length + (subsL j).length + 1 := by simp; omega
  rw [hrun, hlen, hl]
  have hal := all_len j (by omega)
  have hrl := run_len j
  refine does_bind (10 * (b3Run j).length + 10) 0 (does_onRaise (does_holding (does_merge (B := B) (C := subsL j) (es := b3All j) (es2 := b3Run j) hB (by simp) ?_ (run_int j) (all_apart (by omega)) (run_nodup j) (by omega) ?_))) (by omega)
  · intro e; rw [e] at hal; simp at hal; omega
  · refine does_pure ?_
    rw [← subsL_succ hj]
    have e : s.toks + 3 * 17 = 436 + 51 * (j + 1) := by omega
    rw [e]
    exact h
theorem does_flushLast {B : List Obj} {pos : Pos} {j : Nat} {Q : Option Addr → Pos → Shared → Prop} (hj : j = 38) (hB : 28 ≤ B.length) (hs : s.heap = hp (B ++ dictObj (b3All j) :: subsL j)) (ht : s.toks = 2374)
    (h : Q (some B.length) pos { s with heap := hp (B ++ dictObj (b3All (j + 1)) :: subsL (j + 1)), toks := 2386 }) : Does w (flushS ((chunk j).map (pairOf pos)) (some B.length)) 600 Q q s := by
  have hl : (chunk j).length = 4 := by rw [hj]; exact chunk_last
  unfold flushS
  rw [if_neg (by intro e; have := congrArg id (List.isEmpty_iff.mp e); simp at this; rw [this] at hl; cases hl)]
  dsimp only
  have hrun : b3From 2 s.toks (chunk j) = b3Run j := by unfold b3Run chunk; rw [if_neg (by omega), if_neg (by omega), ht]
  have hlen : (B ++ dictObj (b3All j) :: subsL j).length = B.length + (subsL j).length + 1 := by rw [List.length_append, List.length_cons]; omega
  refine does_bind (24 * (chunk j).length + 5) 200 (does_holding (does_subShort (B := B ++ dictObj (b3All j) :: subsL j) (by rw [hlen]; omega) hs (fun kv hk => b3_keys kv (chunk_mem hk)) (rising_of (chunk_rising j)) (by omega) (by intro e; rw [e] at hl; cases hl) ?_)) (by omega)
  rw [hrun, hlen, hl]
  have hal := all_len j (by omega)
  have hrl := run_len j
  refine does_bind (10 * (b3Run j).length + 10) 0 (does_onRaise (does_holding (does_merge (B := B) (C := subsL j) (es := b3All j) (es2 := b3Run j) hB (by rw [List.append_assoc]; rfl) ?_ (run_int j) (all_apart (by omega)) (run_nodup j) (by omega) ?_))) (by omega)
  · intro e; rw [e] at hal; simp at hal; omega
  · refine does_pure ?_
    rw [← subsL_succ (by omega)]
    have e : s.toks + 3 * 4 = 2386 := by omega
    rw [e]
    exact h

noncomputable def itemsFrom (pos : Pos) (n : Nat) : List (Option (Sem Value) × Sem Value) := ((b3Pairs.drop n).map (pairOf pos)).map up
theorem items_chunk (pos : Pos) {j : Nat} (h : j < 38) : itemsFrom pos (17 * j) = ((chunk j).map (pairOf pos)).map up ++ itemsFrom pos (17 * (j + 1)) := by
  unfold itemsFrom chunk
  rw [if_pos h, ← List.map_append, ← List.map_append, show 17 * (j + 1) = 17 * j + 17 by omega, ← List.drop_drop, List.take_append_drop]
theorem does_loop {B : List Obj} {pos : Pos} (hB : 28 ≤ B.length) (f : (Option (Sem Value) × Sem Value) → St → Sem (ForInStep St))
    (hlt : ∀ (p : Pair) (main : Option Addr) (run : List Pair), run.length + 1 < 17 → f (up p) (main, run) = pure (.yield (main, run ++ [p])))
    (heq : ∀ (p : Pair) (main : Option Addr) (run : List Pair), run.length + 1 = 17 → f (up p) (main, run) = (do let m ← flushS (run ++ [p]) main; pure (.yield (m, [])))) :
    ∀ (n j : Nat) (s : Shared) (q : Pos) (Q : St → Pos → Shared → Prop), j + n = 38 → 1 ≤ j → s.heap = hp (B ++ dictObj (b3All j) :: subsL j) → s.toks = 436 + 51 * j →
      (∀ q' k, k = 38 → Q (some B.length, (chunk k).map (pairOf pos)) q' { s with heap := hp (B ++ dictObj (b3All k) :: subsL k), toks := 2374 }) →
      Does w (forIn (itemsFrom pos (17 * j)) ((some B.length, []) : St) f) (600 * n) Q q s
  | 0, j, s, q, Q, hn, hj, hs, ht, hQ => by
    have hl : (chunk j).length = 4 := by rw [show j = 38 by omega]; exact chunk_last
    have e : itemsFrom pos (17 * j) = ((chunk j).map (pairOf pos)).map up := by unfold itemsFrom chunk; rw [if_neg (by omega), show 17 * j = 646 by omega]
    rw [e, loop_gather f hlt _ [] _ (by simp [hl])]
    refine does_pure ?_
    have := hQ q j (by omega)
    rw [← hs, show 2374 = s.toks by omega] at this
    rw [List.nil_append]
    exact this
  | n + 1, j, s, q, Q, hn, hj, hs, ht, hQ => by
    rw [items_chunk pos (by omega), loop_full f flushS hlt heq _ [] _ _ (by simp [chunk_len (show j < 38 by omega)]) (by intro e; have hl := chunk_len (show j < 38 by omega); have := congrArg List.length e; simp at this; rw [this] at hl; cases hl)]
    rw [List.nil_append]
    refine does_bind 600 (600 * n) (does_flush (B := B) hj (by omega) hB hs ht ?_) (by omega)
    exact does_loop hB f hlt heq n (j + 1) _ _ Q (by omega) (by omega) rfl rfl hQ
theorem does_display {B : List Obj} {pos : Pos} {Q : Value → Pos → Shared → Prop} {items : List (Option (Sem Value) × Sem Value)} (hi : items = itemsFrom pos (17 * 0)) (hB : 28 ≤ B.length) (hs : s.heap = hp B) (ht : s.toks = 436)
    (h : ∀ k, k = 39 → Q (.ref B.length) pos { s with heap := hp (B ++ dictObj (b3All k) :: subsL k), toks := 2386 }) : Does w (dictDisplay items) 24000 Q q s := by
  obtain ⟨f, hd, hlt, heq⟩ := display_split
  rw [hd]
  have e0 : items = ((chunk 0).map (pairOf pos)).map up ++ itemsFrom pos (17 * (0 + 1)) := hi.trans (items_chunk pos (j := 0) (by decide))
  clear hi
  have hl := chunk_len (show 0 < 38 by decide)
  generalize hc : chunk 0 = c at e0 hl
  have hcn : c.map (pairOf pos) ≠ [] := by intro e; have := congrArg List.length e; rw [List.length_map, hl] at this; cases this
  rw [e0, loop_full f flushS hlt heq (c.map (pairOf pos)) [] none _ (by rw [List.length_map, hl]; rfl) hcn, List.nil_append]
  refine does_bind 22800 600 (does_bind 600 (600 * 37) ?_ (by omega)) (by omega)
  rw [← hc]
  refine does_flush0 (B := B) hB hs ht ?_
  refine does_loop (B := B) hB f hlt heq 37 1 _ _ _ (by omega) (by omega) rfl rfl fun q' k hk => ?_
  refine does_bind 600 0 (does_flushLast (B := B) (j := k) hk hB rfl rfl ?_) (by omega)
  exact h (k + 1) (by omega)
end
end Mine
end

section
open PySem PySem.W PySem.Challenge PyProof.Rows
namespace Mine
set_option maxRecDepth 100000
set_option linter.unusedVariables false
noncomputable def asName : Str := Str.ofString "b3_exceptions"
noncomputable def asKeys : List (Option Expr) := match stAt 12 with | .Assign _ (.Dict ks _ _) _ => ks | _ => []
noncomputable def asVals : List Expr := match stAt 12 with | .Assign _ (.Dict _ vs _) _ => vs | _ => []
noncomputable def asDict : Pos := match stAt 12 with | .Assign _ (.Dict _ _ p) _ => p | _ => default
noncomputable def asPos : Pos := match stAt 12 with | .Assign _ _ p => p | _ => default
noncomputable def asAt : Pos := match stAt 12 with | .Assign [.Name _ p] _ _ => p | _ => default
theorem st12_eq : stAt 12 = .Assign [.Name asName asAt] (.Dict asKeys asVals asDict) asPos := by kernel_rfl
theorem items_eq : (evalEachOpt asKeys envT).zip ((evalEach asVals envT).map fun v => do let x ← v; standAt asDict; pure x) = itemsFrom asDict (17 * 0) := by kernel_rfl
theorem swaps_no : swapsWith (.Dict asKeys asVals asDict) (some (.Name asName asAt)) asPos.line envT = pure false := by kernel_rfl
theorem s11_heap (P : Params) (os : OsState) : (stS11 P os).abs = ⟨hp (objsS11 P), #[], {}, 436, os⟩ := by kernel_rfl
theorem s11_len (P : Params) : (objsS11 P).length = 81 := by kernel_rfl
theorem sd_heap (P : Params) (os : OsState) : (⟨hp (objsS11 P ++ dictObj (b3All 39) :: subsL 39), #[], {}, 2386, os⟩ : Shared) = (stSd P os).abs := by kernel_rfl
noncomputable def tailK (v : Value) : Sem Fin := (do standAt asAt; bindName envT asName v; pure Flow.next : Sem Flow).wrap (fun f => match f with | .next => (execs [] envT).wrap doneF deadEnd id id | f => doneF f) deadEnd id id
theorem tail_ok : ∀ (w : World) (os : OsState), segRunT treeTable pw w 28 annT 1 40 (stSd w.params os) ⟨tailK (.ref 81), codeT, asDict, B0⟩ = some (.next, stS12 w.params os, codeT, ⟨21, 0, 21, 13⟩) := by
  intro w os; kernel_rfl
theorem wrap_bind {α β : Type} (m : Sem α) (f : α → Sem β) (K : β → Sem Fin) (H : Value → Sem Fin) (gd : Bool → Bool) (lv : List Value → List Value) : (m >>= f).wrap K H gd lv = m.wrap (fun a => (f a).wrap K H gd lv) H gd lv := by
  rw [Sem.bind_eq_wrap', Sem.wrap_wrap]
  rfl
noncomputable def tailG (name : Str) (npos : Pos) (v : Value) : Sem Fin := (do standAt npos; bindName envT name v; pure Flow.next : Sem Flow).wrap (fun f => match f with | .next => (execs [] envT).wrap doneF deadEnd id id | f => doneF f) deadEnd id id
theorem dict_gen {w : World} {os : OsState} {ks : List (Option Expr)} {vs : List Expr} {dpos apos npos q : Pos} {name : Str} {S T : Shared} {B : List Obj}
    (hi : (evalEachOpt ks envT).zip ((evalEach vs envT).map fun v => do let x ← v; standAt dpos; pure x) = itemsFrom dpos (17 * 0))
    (hw : swapsWith (.Dict ks vs dpos) (some (.Name name npos)) apos.line envT = pure false) (hl : B.length = 81) (hS : S = ⟨hp B, #[], {}, 436, os⟩) (hT : ∀ k, k = 39 → T = ⟨hp (B ++ dictObj (b3All k) :: subsL k), #[], {}, 2386, os⟩) :
    ∃ n, n ≤ 24010 ∧ go w n S ⟨(execs [.Assign [.Name name npos] (.Dict ks vs dpos) apos] envT).wrap doneF deadEnd id id, codeT, q, B0⟩ = some (T, ⟨tailG name npos (.ref 81), codeT, dpos, B0⟩) := by
  have D : Does w (do standAt apos; eval (.Dict ks vs dpos) envT) 24010 (fun v q' s' => v = .ref 81 ∧ q' = dpos ∧ s' = T) q S := by
    subst hS
    refine does_bind 1 24001 (does_at ?_) (by omega)
    rw [arm_eval_Dict]
    refine does_bind 1 24000 (does_at ?_) (by omega)
    refine does_display (B := B) hi (by rw [hl]; decide) rfl rfl fun k hk => ?_
    exact ⟨by rw [hl], rfl, (hT k hk).symm⟩
  obtain ⟨v, q', s', ⟨rfl, rfl, rfl⟩, hn⟩ := Does.go w _ _ _ _ _ D
  obtain ⟨n, hle, e⟩ := hn (tailG name npos) deadEnd id id
  refine ⟨n, hle, ?_⟩
  have ew : (execs [.Assign [.Name name npos] (.Dict ks vs q') apos] envT).wrap doneF deadEnd id id = (do standAt apos; eval (.Dict ks vs q') envT : Sem Value).wrap (tailG name npos) deadEnd id id := by
    rw [execs_cons_wrap, exec_Assign_Name _ _ _ _ _ hw]
    have tg : tailG name npos = fun v => (do standAt npos; bindName envT name v; pure Flow.next : Sem Flow).wrap (fun f => match f with | .next => (execs [] envT).wrap doneF deadEnd id id | f => doneF f) deadEnd id id := rfl
    rw [tg]
    simp only [wrap_bind]
    rfl
  rw [ew]
  exact e
theorem dict_go (w : World) (os : OsState) : ∃ n, n ≤ 24010 ∧ go w n (stS11 w.params os).abs (W.piecesOf [stAt 12] envT codeT ⟨19, 0, 20, 30⟩ B0) = some ((stSd w.params os).abs, ⟨tailK (.ref 81), codeT, asDict, B0⟩) := by
  rw [st12_eq]
  exact dict_gen (B := objsS11 w.params) items_eq swaps_no (s11_len _) (s11_heap _ _) (fun k hk => by rw [hk]; exact (sd_heap w.params os).symm)
end Mine
end

section
open PySem PySem.W PySem.Challenge PyProof.Rows
namespace Mine
set_option maxRecDepth 100000
theorem dict_seg (w : World) (os : OsState) : ∃ n, n ≤ 24050 ∧ segRun treeTable pw w 28 annT 1 n (stS11 w.params os).abs (W.piecesOf [stAt 12] envT codeT ⟨19, 0, 20, 30⟩ [topFrame p0]) = some (.next, (stS12 w.params os).abs, codeT, ⟨21, 0, 21, 13⟩) := by
  obtain ⟨n, hn, e⟩ := dict_go w os
  exact ⟨n + 40, by omega, seg_go e (segRun_of (tail_ok w os))⟩
theorem body_eq : behindTheImports pw = grp1 ++ ([stAt 10] ++ ([stAt 11] ++ ([stAt 12] ++ (grp5 ++ [])))) := by kernel_rfl
theorem run_ok (w : World) (os : OsState) : topRun treeTable pw w 28 annT 29000 ⟨heapS0 w.params, #[], {}, 276, os⟩ (topStub pw) = some ⟨heapSf w.params, #[], {}, 2416, os⟩ := by
  obtain ⟨n, hn, e⟩ := dict_seg w os
  have r5 := piece_app (env := envT) (rest := []) (segRun_of (grp5_ok w os)) (piece_nil (fin_ok w os))
  have r4 := piece_app (env := envT) e r5
  have r3 := piece_app (env := envT) (segRun_of (grp3_ok w os)) r4
  have r2 := piece_app (env := envT) (segRun_of (set_ok w os)) r3
  have r1 := piece_app (env := envT) (segRun_of (grp1_ok w os)) r2
  rw [← body_eq] at r1
  have r0 := piece_block (block_ok w os) r1
  have r := go_top (pre_ok w os) r0
  have hm := topRun_mono (29000 - (12 + (1 + (268 + (999 + (30 + (n + (121 + 2)))))))) _ _ _ _ r
  rw [show 12 + (1 + (268 + (999 + (30 + (n + (121 + 2)))))) + (29000 - (12 + (1 + (268 + (999 + (30 + (n + (121 + 2)))))))) = 29000 by omega] at hm
  rw [hm]
  show some (⟨absHeap (treeSf w.params) 144 {}, #[], {}, 2416, os⟩ : Shared) = _
  rw [sf_heap]
theorem left_ok : LeftO pw vw lsn xtK hkK.obs hkK.val 30000 :=
  LeftO.of_pieces open_ok size_ok run_ok rfl fun w => funext fun os => by
    rw [look_a w os, look_b w os, look_c w os]
end Mine
end

section
open PySem PySem.Sre
namespace Mine
set_option linter.unusedSimpArgs false
set_option linter.unusedVariables false
noncomputable def code1 : Array Nat := #[14, 4, 0, 1, 1, 6, 1, 16, 46, 1]
noncomputable def code2 : Array Nat := #[14, 9, 4, 1, 2, 16, 10, 16, 13, 0, 7, 7, 16, 13, 16, 10, 15, 18, 5, 16, 10, 15, 13, 11, 16, 13, 5, 5, 0, 16, 10, 1, 15, 2, 0, 1]

structure Ends (m : M) (a b : Nat) : Prop where
  out : m.outcome = some .matched
  st : m.start = a
  hd : m.handed = b

theorem runFor_done (n : Nat) (m : M) (h : m.outcome.isSome = true) : M.runFor n m = m := by
  cases n with
  | zero => rfl
  | succ n => unfold M.runFor; rw [if_pos h]
theorem runFor_succ (n : Nat) (m : M) : M.runFor (n + 1) m = if m.outcome.isSome then m else M.runFor n m.step := rfl
theorem runFor_add (a b : Nat) (m : M) : M.runFor (a + b) m = M.runFor b (M.runFor a m) := by
  induction a generalizing m with
  | zero => simp [M.runFor]
  | succ a ih =>
    rw [show a + 1 + b = (a + b) + 1 by omega, runFor_succ, runFor_succ]
    by_cases h : m.outcome.isSome = true
    · rw [if_pos h, if_pos h, runFor_done b m h]
    · rw [if_neg h, if_neg h, ih]
theorem run_step {n : Nat} {m m' : M} (h0 : m.outcome = none) (h : m.step = m') : M.runFor (n + 1) m = M.runFor n m' := by
  rw [runFor_succ, h0, h]; rfl

/-- the machine amid a run: what does not change is left out -/
noncomputable def mm (code text : Array Nat) (lim s : Nat) (pc pos handed : Nat) (om : Bool) (ans : Option Bool) (fs : List Sre.Frame) (wt : Nat) (sn : Seen) : M :=
  { code := code, text := text, lim := lim, start := s, lastStart := lim, pc := pc, pos := pos, handed := handed, outermost := om, marks := #[], frames := fs, weight := wt, answer := ans, seen := sn }

section
variable {code text : Array Nat} {lim s pc pos handed wt : Nat} {om : Bool} {fs : List Sre.Frame} {sn : Seen}
theorem st_lit_yes (h1 : pc < code.size) (h2 : code.getD pc 0 = 16) (h3 : pos < lim) (h4 : text.getD pos 0 = code.getD (pc + 1) 0) :
    (mm code text lim s pc pos handed om none fs wt sn).step = mm code text lim s (pc + 2) (pos + 1) handed om none fs wt (sn.add 16) := by
  simp only [mm, M.step, Option.isSome_none, Bool.false_eq_true, if_false, h1, if_true, M.exec, M.word, Nat.add_zero, h2]
  simp only [show (ops[16]? : Option Op) = some .LITERAL from rfl, ge_iff_le, Nat.not_le.mpr h3, if_false, accepts, h2, h4, BEq.rfl, itemWidth]
theorem st_lit_no (h1 : pc < code.size) (h2 : code.getD pc 0 = 16) (h4 : lim ≤ pos ∨ text.getD pos 0 ≠ code.getD (pc + 1) 0) :
    (mm code text lim s pc pos handed om none fs wt sn).step = mm code text lim s pc pos handed om (some false) fs wt (sn.add 16) := by
  simp only [mm, M.step, Option.isSome_none, Bool.false_eq_true, if_false, h1, if_true, M.exec, M.word, Nat.add_zero, h2]
  simp only [show (ops[16]? : Option Op) = some .LITERAL from rfl, ge_iff_le]
  by_cases h3 : lim ≤ pos
  · rw [if_pos h3]; rfl
  · rw [if_neg h3]
    have h5 : (text.getD pos 0 == code.getD (pc + 1) 0) = false := by simpa using h4.resolve_left h3
    simp only [accepts, h2, show (ops[16]? : Option Op) = some .LITERAL from rfl, h5]
    rfl
theorem st_jump (h1 : pc < code.size) (h2 : code.getD pc 0 = 15) :
    (mm code text lim s pc pos handed om none fs wt sn).step = mm code text lim s (pc + 1 + code.getD (pc + 1) 0) pos handed om none fs wt (sn.add 15) := by
  simp only [mm, M.step, Option.isSome_none, Bool.false_eq_true, if_false, h1, if_true, M.exec, M.word, Nat.add_zero, h2]
  simp only [show (ops[15]? : Option Op) = some .JUMP from rfl]
theorem st_success (h1 : pc < code.size) (h2 : code.getD pc 0 = 1) :
    (mm code text lim s pc pos handed om none fs wt sn).step = mm code text lim s pc pos pos om (some true) fs wt (sn.add 1) := by
  simp only [mm, M.step, Option.isSome_none, Bool.false_eq_true, if_false, h1, if_true, M.exec, M.word, Nat.add_zero, h2]
  simp only [show (ops[1]? : Option Op) = some .SUCCESS from rfl, Bool.false_and, Bool.or_self, Bool.and_false, Bool.false_eq_true, if_false, M.say]
theorem st_at (h1 : pc < code.size) (h2 : code.getD pc 0 = 6) (h3 : code.getD (pc + 1) 0 = 1) :
    (mm code text lim s pc pos handed om none fs wt sn).step = if (pos == 0 || text.getD (pos - 1) 0 == 10) then mm code text lim s (pc + 2) pos handed om none fs wt ((sn.add 6).add 44)
      else mm code text lim s pc pos handed om (some false) fs wt ((sn.add 6).add 44) := by
  simp only [mm, M.step, Option.isSome_none, Bool.false_eq_true, if_false, h1, if_true, M.exec, M.word, Nat.add_zero, h2]
  simp only [show (ops[6]? : Option Op) = some .AT from rfl, h3, M.isAt, M.say]
theorem st_branch (h1 : pc < code.size) (h2 : code.getD pc 0 = 7) (h3 : code.getD (pc + 1) 0 ≠ 0) (hw : wt < 1000) :
    (mm code text lim s pc pos handed om none fs wt sn).step = mm code text lim s (pc + 2) pos pos om none (({ wait := .nextBranch, pc := pc + 1, pos := pos, outermost := om } : Sre.Frame) :: fs) (wt + 1) (sn.add 7) := by
  simp only [mm, M.step, Option.isSome_none, Bool.false_eq_true, if_false, h1, if_true, M.exec, M.word, Nat.add_zero, h2]
  have h3' : (code.getD (pc + 1) 0 == 0) = false := by simpa using h3
  have hw' : ¬ (wt + 1 > 16777216) := by omega
  simp only [show (ops[7]? : Option Op) = some .BRANCH from rfl, M.alternative, h3', Bool.false_eq_true, if_false, M.attempt, M.keep, M.frame, Option.isSome_none, Array.size_empty, Nat.add_zero, hw', Nat.add_assoc, Nat.reduceAdd]
theorem st_assertNot (h1 : pc < code.size) (h2 : code.getD pc 0 = 5) (h3 : code.getD (pc + 2) 0 = 0) (hw : wt < 1000) :
    (mm code text lim s pc pos handed om none fs wt sn).step = mm code text lim s (pc + 3) pos pos false none (({ wait := .lookNot, pc := pc, pos := pos, outermost := om } : Sre.Frame) :: fs) (wt + 1) (sn.add 5) := by
  simp only [mm, M.step, Option.isSome_none, Bool.false_eq_true, if_false, h1, if_true, M.exec, M.word, Nat.add_zero, h2]
  have hw' : ¬ (wt + 1 > 16777216) := by omega
  simp only [show (ops[5]? : Option Op) = some .ASSERT_NOT from rfl, h3, Nat.not_lt_zero, if_false, M.attempt, M.keep, M.frame, Option.isSome_none, Bool.and_false, Bool.false_eq_true, Array.size_empty, Nat.add_zero, hw', Nat.add_assoc, Nat.sub_zero, if_true]
theorem st_branch_no {fpc fpos : Nat} {fom : Bool} (h3 : code.getD (fpc + code.getD fpc 0) 0 ≠ 0) (hw : wt < 1000) :
    (mm code text lim s pc pos handed om (some false) (({ wait := .nextBranch, pc := fpc, pos := fpos, outermost := fom } : Sre.Frame) :: fs) (wt + 1) sn).step =
      mm code text lim s (fpc + code.getD fpc 0 + 1) fpos fpos fom none (({ wait := .nextBranch, pc := fpc + code.getD fpc 0, pos := fpos, outermost := fom } : Sre.Frame) :: fs) (wt + 1) sn := by
  have h3' : (code.getD (fpc + code.getD fpc 0) 0 == 0) = false := by simpa using h3
  have hw' : ¬ (wt + 1 > 16777216) := by omega
  simp only [mm, M.step, Option.isSome_none, Bool.false_eq_true, if_false, M.resume, M.putBack, M.alternative, M.frame, h3', M.attempt, Array.size_empty, Nat.add_zero, Nat.add_sub_cancel, hw']
theorem st_branch_yes {fpc fpos : Nat} {fom : Bool} :
    (mm code text lim s pc pos handed om (some true) (({ wait := .nextBranch, pc := fpc, pos := fpos, outermost := fom } : Sre.Frame) :: fs) (wt + 1) sn).step =
      mm code text lim s fpc fpos handed fom (some true) fs wt sn := by
  simp only [mm, M.step, Option.isSome_none, Bool.false_eq_true, if_false, M.resume, if_true, M.say, Array.size_empty, Nat.add_zero, Nat.add_sub_cancel]
theorem st_look_no {fpc fpos : Nat} {fom : Bool} :
    (mm code text lim s pc pos handed om (some false) (({ wait := .lookNot, pc := fpc, pos := fpos, outermost := fom } : Sre.Frame) :: fs) (wt + 1) sn).step =
      mm code text lim s (fpc + 1 + code.getD (fpc + 1) 0) fpos handed fom none fs wt sn := by
  simp only [mm, M.step, Option.isSome_none, Bool.false_eq_true, if_false, M.resume, M.putBack, M.word, Array.size_empty, Nat.add_zero, Nat.add_sub_cancel]
theorem st_start_yes {fpc fpos : Nat} {fom : Bool} :
    (mm code text lim s pc pos handed om (some true) (({ wait := .nextStart, pc := fpc, pos := fpos, outermost := fom } : Sre.Frame) :: fs) (wt + 1) sn).step =
      mm code text lim s fpc fpos handed fom (some true) fs wt sn := by
  simp only [mm, M.step, Option.isSome_none, Bool.false_eq_true, if_false, M.resume, if_true, M.say, Array.size_empty, Nat.add_zero, Nat.add_sub_cancel]
theorem st_start_no {fpc fpos : Nat} {fom : Bool} (hl : fpos < lim) (hf : (mm code text lim s pc pos handed om none fs wt sn).hasFirstSet = false) (hw : wt < 1000) :
    (mm code text lim s pc pos handed om (some false) (({ wait := .nextStart, pc := fpc, pos := fpos, outermost := fom } : Sre.Frame) :: fs) (wt + 1) sn).step =
      mm code text lim (fpos + 1) fpc (fpos + 1) (fpos + 1) false none (({ wait := .nextStart, pc := fpc, pos := fpos + 1, outermost := false } : Sre.Frame) :: fs) (wt + 1) sn := by
  have hw' : ¬ (wt + 1 > 16777216) := by omega
  simp only [mm, M.hasFirstSet] at hf
  simp only [mm, M.step, Option.isSome_none, Bool.false_eq_true, if_false, M.resume, hl, if_true, M.attemptFrom, M.hasFirstSet, hf, Bool.not_false, M.attemptAt, M.attempt, Array.size_empty, Nat.add_zero, Nat.add_sub_cancel, hw']
theorem st_start_last {fpc fpos : Nat} {fom : Bool} (hl : ¬ fpos < lim) :
    (mm code text lim s pc pos handed om (some false) (({ wait := .nextStart, pc := fpc, pos := fpos, outermost := fom } : Sre.Frame) :: fs) (wt + 1) sn).step =
      mm code text lim s fpc fpos handed fom (some false) fs wt sn := by
  simp only [mm, M.step, Option.isSome_none, Bool.false_eq_true, if_false, M.resume, hl, M.say, Array.size_empty, Nat.add_zero, Nat.add_sub_cancel]
theorem st_over {ans : Bool} :
    (mm code text lim s pc pos handed om (some ans) [] wt sn).step = { mm code text lim s pc pos handed om (some ans) [] wt sn with outcome := some (if ans then .matched else .failed) } := by
  simp only [mm, M.step, Option.isSome_none, Bool.false_eq_true, if_false]
end
end Mine
end

section
open PySem PySem.Sre
namespace Mine
set_option linter.unusedSimpArgs false
set_option linter.unusedVariables false

/-- behind an admitted place s -/
noncomputable abbrev from2 (text : Array Nat) (lim s : Nat) (sn : Seen) : M := mm code2 text lim s 10 s s true none [{ wait := .nextStart, pc := 10, pos := s, outermost := true }] 1 sn
noncomputable abbrev from1 (text : Array Nat) (lim s : Nat) (om : Bool) (sn : Seen) : M := mm code1 text lim s 5 s s om none [{ wait := .nextStart, pc := 5, pos := s, outermost := om }] 1 sn

section
variable {text : Array Nat} {lim s : Nat} {sn : Seen}
theorem run2_lf (hs : s < lim) (hc : text.getD s 0 = 10) : Ends (M.runFor 9 (from2 text lim s sn)) s (s + 1) := by
  unfold from2
  rw [run_step rfl (st_branch (by decide) rfl (by decide) (by decide)), run_step rfl (st_lit_no (by decide) rfl (.inr (by rw [hc]; decide))),
    run_step rfl (st_branch_no (by decide) (by decide)), run_step rfl (st_lit_yes (by decide) rfl hs (by rw [hc]; rfl)),
    run_step rfl (st_jump (by decide) rfl), run_step rfl (st_success (by decide) rfl), run_step rfl st_branch_yes, run_step rfl st_start_yes, run_step rfl st_over]
  exact ⟨rfl, rfl, rfl⟩
theorem run2_crlf (hs : s + 1 < lim) (hc : text.getD s 0 = 13) (hd : text.getD (s + 1) 0 = 10) : Ends (M.runFor 8 (from2 text lim s sn)) s (s + 2) := by
  unfold from2
  rw [run_step rfl (st_branch (by decide) rfl (by decide) (by decide)), run_step rfl (st_lit_yes (by decide) rfl (by omega) (by rw [hc]; rfl)),
    run_step rfl (st_lit_yes (by decide) rfl hs (by rw [hd]; rfl)),
    run_step rfl (st_jump (by decide) rfl), run_step rfl (st_success (by decide) rfl), run_step rfl st_branch_yes, run_step rfl st_start_yes, run_step rfl st_over]
  exact ⟨rfl, rfl, rfl⟩
theorem run2_cr (hs : s < lim) (hc : text.getD s 0 = 13) (hd : lim ≤ s + 1 ∨ text.getD (s + 1) 0 ≠ 10) : Ends (M.runFor 15 (from2 text lim s sn)) s (s + 1) := by
  unfold from2
  rw [run_step rfl (st_branch (by decide) rfl (by decide) (by decide)), run_step rfl (st_lit_yes (by decide) rfl (by omega) (by rw [hc]; rfl)),
    run_step rfl (st_lit_no (by decide) rfl (hd.imp id fun h => h)),
    run_step rfl (st_branch_no (by decide) (by decide)), run_step rfl (st_lit_no (by decide) rfl (.inr (by rw [hc]; decide))),
    run_step rfl (st_branch_no (by decide) (by decide)), run_step rfl (st_lit_yes (by decide) rfl (by omega) (by rw [hc]; rfl)),
    run_step rfl (st_assertNot (by decide) rfl rfl (by decide)), run_step rfl (st_lit_no (by decide) rfl (hd.imp id fun h => h)), run_step rfl st_look_no,
    run_step rfl (st_jump (by decide) rfl), run_step rfl (st_success (by decide) rfl), run_step rfl st_branch_yes, run_step rfl st_start_yes, run_step rfl st_over]
  exact ⟨rfl, rfl, rfl⟩

noncomputable def front (text : Array Nat) (s : Nat) : Bool := s == 0 || text.getD (s - 1) 0 == 10
theorem run1_hit {om : Bool} (hs : s < lim) (hf : front text s = true) (hc : text.getD s 0 = 46) : Ends (M.runFor 5 (from1 text lim s om sn)) s (s + 1) := by
  unfold from1
  rw [run_step rfl (st_at (by decide) rfl rfl)]
  unfold front at hf
  rw [if_pos hf, run_step rfl (st_lit_yes (by decide) rfl hs (by rw [hc]; rfl)), run_step rfl (st_success (by decide) rfl), run_step rfl st_start_yes, run_step rfl st_over]
  exact ⟨rfl, rfl, rfl⟩
theorem run1_next {om : Bool} (hs : s < lim) (hno : front text s = false ∨ text.getD s 0 ≠ 46) :
    ∃ sn' k, k ≤ 3 ∧ M.runFor k (from1 text lim s om sn) = from1 text lim (s + 1) false sn' := by
  unfold from1
  by_cases hf : front text s = true
  · have hg : text.getD s 0 ≠ 46 := hno.resolve_left (by rw [hf]; decide)
    refine ⟨((sn.add 6).add 44).add 16, 3, by decide, ?_⟩
    rw [run_step rfl (st_at (by decide) rfl rfl)]
    unfold front at hf
    rw [if_pos hf, run_step rfl (st_lit_no (by decide) rfl (.inr hg)), run_step rfl (st_start_no hs rfl (by decide))]
    rfl
  · refine ⟨(sn.add 6).add 44, 2, by decide, ?_⟩
    rw [run_step rfl (st_at (by decide) rfl rfl)]
    unfold front at hf
    rw [if_neg hf, run_step rfl (st_start_no hs rfl (by decide))]
    rfl
theorem run1_end {om : Bool} : ∃ k, k ≤ 4 ∧ (M.runFor k (from1 text lim lim om sn)).outcome = some .failed := by
  unfold from1
  by_cases hf : front text lim = true
  · refine ⟨4, by decide, ?_⟩
    rw [run_step rfl (st_at (by decide) rfl rfl)]
    unfold front at hf
    rw [if_pos hf, run_step rfl (st_lit_no (by decide) rfl (.inl (Nat.le_refl _))), run_step rfl (st_start_last (Nat.lt_irrefl _)), run_step rfl st_over]
    rfl
  · refine ⟨3, by decide, ?_⟩
    rw [run_step rfl (st_at (by decide) rfl rfl)]
    unfold front at hf
    rw [if_neg hf, run_step rfl (st_start_last (Nat.lt_irrefl _)), run_step rfl st_over]
    rfl
end

/-- what a search has come to -/
noncomputable def Found (m : M) (r : Option (Nat × Nat)) : Prop := match r with
  | some (a, b) => Ends m a b
  | none => m.outcome = some .failed
theorem Found.some {m : M} {r : Option (Nat × Nat)} (h : Found m r) : m.outcome.isSome = true := by
  cases r with
  | none => rw [show m.outcome = _ from h]; rfl
  | some p => rw [(show Ends m p.1 p.2 from h).out]; rfl

/-- the first place from p on that is an end of line -/
noncomputable def eolFrom (text : Array Nat) (lim : Nat) : Nat → Nat → Option Nat
  | 0, _ => none
  | f + 1, p => if p ≥ lim then none else if text.getD p 0 = 10 ∨ text.getD p 0 = 13 then some p else eolFrom text lim f (p + 1)
noncomputable def eolAt (text : Array Nat) (lim s : Nat) : Nat := if text.getD s 0 = 13 ∧ s + 1 < lim ∧ text.getD (s + 1) 0 = 10 then s + 2 else s + 1
/-- the first place from p on that is a dot at a front -/
noncomputable def dotFrom (text : Array Nat) (lim : Nat) : Nat → Nat → Option Nat
  | 0, _ => none
  | f + 1, p => if p ≥ lim then none else if front text p = true ∧ text.getD p 0 = 46 then some p else dotFrom text lim f (p + 1)

theorem admitted2 {text : Array Nat} {lim : Nat} {m : M} (hc : m.code = code2) (ht : m.text = text) (hl : m.lim = lim) : ∀ (f p : Nat) (sn : Seen), ∃ sn', m.admitted f p sn = .ok (eolFrom text lim f p, sn')
  | 0, _, sn => ⟨sn, rfl⟩
  | f + 1, p, sn => by
    unfold M.admitted eolFrom
    rw [hl, hc, ht]
    by_cases h : p ≥ lim
    · rw [if_pos h, if_pos h]; exact ⟨_, rfl⟩
    · rw [if_neg h, if_neg h]
      have e : ∃ sn', inSet code2 (text.getD p 0) code2.size 5 true sn = .ok (decide (text.getD p 0 = 10 ∨ text.getD p 0 = 13), sn') := by
        rw [show code2.size = 36 from rfl]
        by_cases h1 : text.getD p 0 = 10
        · rw [h1]; exact ⟨_, rfl⟩
        · by_cases h2 : text.getD p 0 = 13
          · rw [h2]; exact ⟨_, rfl⟩
          · refine ⟨((sn.add 16).add 16).add 0, ?_⟩
            have b1 : (text.getD p 0 == 10) = false := by simpa using h1
            have b2 : (text.getD p 0 == 13) = false := by simpa using h2
            generalize text.getD p 0 = c at *
            simp only [inSet, show code2.getD (5 + 0) 0 = 16 from rfl, show code2.getD (5 + 1) 0 = 10 from rfl, show code2.getD (5 + 2 + 0) 0 = 16 from rfl, show code2.getD (5 + 2 + 1) 0 = 13 from rfl, show code2.getD (5 + 2 + 2 + 0) 0 = 0 from rfl,
              show (ops[16]? : Option Op) = some .LITERAL from rfl, show (ops[0]? : Option Op) = some .FAILURE from rfl, b1, b2, Bool.false_eq_true, if_false, h1, h2, or_self, decide_false, Bool.not_true]
      obtain ⟨sn', e⟩ := e
      rw [e]
      by_cases hd : text.getD p 0 = 10 ∨ text.getD p 0 = 13
      · rw [decide_eq_true hd, if_pos hd]; exact ⟨_, rfl⟩
      · rw [decide_eq_false hd, if_neg hd]; exact admitted2 hc ht hl f (p + 1) sn'

theorem eolFrom_lt {text : Array Nat} {lim : Nat} : ∀ {f p s : Nat}, eolFrom text lim f p = some s → s < lim ∧ (text.getD s 0 = 10 ∨ text.getD s 0 = 13)
  | 0, _, _, h => by cases h
  | f + 1, p, s, h => by
    unfold eolFrom at h
    split at h
    · cases h
    · split at h
      · cases h; exact ⟨by omega, by assumption⟩
      · exact eolFrom_lt h


noncomputable abbrev new2 (text : Array Nat) (lim p ls : Nat) : M := { code := code2, text := text, lim := lim, start := p, lastStart := ls, pc := 10, pos := p, handed := p, marks := #[], seen := ({} : Seen).add 14 }
theorem forSearch2 (text : Array Nat) (p lim : Nat) : forSearch code2 text 0 p lim false = if (decide (p > lim) || decide (lim - p < 1)) = true then (new2 text lim p 0).say false else (new2 text lim p lim).attemptFrom p true := rfl
theorem search2 (text : Array Nat) (p : Nat) : ∃ k, k ≤ 15 ∧ Found (M.runFor k (forSearch code2 text 0 p text.size false)) ((eolFrom text text.size (text.size + 1 - p) p).map fun s => (s, eolAt text text.size s)) := by
  rw [forSearch2]
  by_cases h : (decide (p > text.size) || decide (text.size - p < 1)) = true
  · rw [if_pos h]
    have hn : eolFrom text text.size (text.size + 1 - p) p = none := by
      have : text.size ≤ p := by simp at h; omega
      cases hf : text.size + 1 - p with
      | zero => rfl
      | succ f => unfold eolFrom; rw [if_pos this]
    rw [hn]
    exact ⟨1, by decide, rfl⟩
  · rw [if_neg h]
    have hp : p < text.size := by simp at h; omega
    unfold M.attemptFrom
    rw [show (new2 text text.size p text.size).hasFirstSet = true from rfl]
    simp only [Bool.not_true, Bool.false_eq_true, if_false]
    obtain ⟨sn', e⟩ := admitted2 (text := text) (lim := text.size) (m := new2 text text.size p text.size) rfl rfl rfl (text.size + 1 - p) p (({} : Seen).add 14)
    rw [e]
    cases hs : eolFrom text text.size (text.size + 1 - p) p with
    | none => exact ⟨1, by decide, rfl⟩
    | some s =>
      obtain ⟨hlt, hor⟩ := eolFrom_lt hs
      show ∃ k, k ≤ 15 ∧ Ends (M.runFor k (from2 text text.size s sn')) s (eolAt text text.size s)
      unfold eolAt
      rcases hor with h10 | h13
      · rw [if_neg (by rw [h10]; intro q; exact absurd q.1 (by decide))]
        exact ⟨9, by decide, run2_lf hlt h10⟩
      · by_cases hq : s + 1 < text.size ∧ text.getD (s + 1) 0 = 10
        · rw [if_pos ⟨h13, hq⟩]; exact ⟨8, by decide, run2_crlf hq.1 h13 hq.2⟩
        · rw [if_neg (fun q => hq q.2)]
          refine ⟨15, by decide, run2_cr hlt h13 ?_⟩
          by_cases hl : text.size ≤ s + 1
          · exact .inl hl
          · exact .inr fun e => hq ⟨by omega, e⟩

noncomputable abbrev new1 (text : Array Nat) (lim p ls : Nat) : M := { code := code1, text := text, lim := lim, start := p, lastStart := ls, pc := 5, pos := p, handed := p, marks := #[], seen := ({} : Seen).add 14 }
theorem forSearch1 (text : Array Nat) (p lim : Nat) : forSearch code1 text 0 p lim false = if (decide (p > lim) || decide (lim - p < 1)) = true then (new1 text lim p 0).say false else (new1 text lim p lim).attemptFrom p true := rfl
theorem search1_from (text : Array Nat) : ∀ (f p : Nat) (om : Bool) (sn : Seen), p ≤ text.size → text.size + 1 - p = f → ∃ k, k ≤ 4 * f + 4 ∧ Found (M.runFor k (from1 text text.size p om sn)) ((dotFrom text text.size f p).map fun s => (s, s + 1))
  | 0, p, om, sn, hp, hf => by omega
  | f + 1, p, om, sn, hp, hf => by
    unfold dotFrom
    by_cases hl : p ≥ text.size
    · obtain rfl : p = text.size := by omega
      rw [if_pos hl]
      obtain ⟨k, hk, h⟩ := run1_end (text := text) (lim := text.size) (sn := sn) (om := om)
      exact ⟨k, by omega, h⟩
    · rw [if_neg hl]
      by_cases hh : front text p = true ∧ text.getD p 0 = 46
      · rw [if_pos hh]
        exact ⟨5, by omega, run1_hit (by omega) hh.1 hh.2⟩
      · rw [if_neg hh]
        obtain ⟨sn', k, hk, e⟩ := run1_next (text := text) (lim := text.size) (s := p) (sn := sn) (om := om) (by omega) (by
          by_cases hfr : front text p = true
          · exact .inr fun q => hh ⟨hfr, q⟩
          · exact .inl (by simpa using hfr))
        obtain ⟨k', hk', h'⟩ := search1_from text f (p + 1) false sn' (by omega) (by omega)
        refine ⟨k + k', by omega, ?_⟩
        rw [runFor_add, e]; exact h'
theorem search1 (text : Array Nat) (p : Nat) : ∃ k, k ≤ 4 * (text.size + 1) + 4 ∧ Found (M.runFor k (forSearch code1 text 0 p text.size false)) ((dotFrom text text.size (text.size + 1 - p) p).map fun s => (s, s + 1)) := by
  rw [forSearch1]
  by_cases h : (decide (p > text.size) || decide (text.size - p < 1)) = true
  · rw [if_pos h]
    have hn : dotFrom text text.size (text.size + 1 - p) p = none := by
      have : text.size ≤ p := by simp at h; omega
      cases hf : text.size + 1 - p with
      | zero => rfl
      | succ f => unfold dotFrom; rw [if_pos this]
    rw [hn]
    exact ⟨1, by omega, rfl⟩
  · rw [if_neg h]
    have hp : p < text.size := by simp at h; omega
    obtain ⟨k, hk, h⟩ := search1_from text (text.size + 1 - p) p true (({} : Seen).add 14) (by omega) rfl
    exact ⟨k, by omega, h⟩
end Mine
end

section
open PySem PySem.Sre PySem.Builtin.Re PySem.Calls PySem.Builtin PyProof.Rows
namespace Mine
set_option linter.unusedSimpArgs false
set_option linter.unusedVariables false
set_option maxRecDepth 100000

theorem plainAttrs_pat : PlainAttrs "re.Pattern" :=
  ⟨⟨"object.__getattribute__", by rw [typeLookup_type, builtinLookup_eq_fast]; kernel_rfl, by decide +kernel⟩, by rw [typeLookup_type, builtinLookup_eq_fast]; kernel_rfl⟩
theorem slot_sub : Slot "re.Pattern" "sub" "re.Pattern.sub" :=
  .of (owner := "re.Pattern") (n := "sub") (by rw [typeLookup_type, builtinLookup_eq_fast]; kernel_rfl) (by decide +kernel) (by decide +kernel) (by decide +kernel)
    (by first | exact .inl (by decide +kernel) | exact .inr (by decide +kernel)) (by rw [isSubtype_type]; kernel_rfl)
theorem type_sub : typeOf (.builtin "re.Pattern.sub") = pure (.type "method_descriptor") := by show builtinType _ = _; rw [builtinType_eq_fast]; kernel_rfl
theorem entry_sub : entryFor table "re.Pattern.sub" = some Builtin.«re.Pattern.sub» := entryFor_of_tree (by kernel_rfl)
theorem entry_sub_loop : entryFor table "re.Pattern.sub.loop" = some Builtin.«re.Pattern.sub.loop» := entryFor_of_tree (by kernel_rfl)
theorem args_sub (a b c : Value) : argsOk "re.Pattern.sub" ⟨[a, b, c], []⟩ := by
  unfold argsOk; kernel_rfl

section
variable {M : Model} {A : Around} {E : Value → Shared → Prop} {s : Shared}

theorem wp_reDrive {Q : Sre.M → Shared → Prop} : ∀ (k : Nat) (turns : Nat) (m : Sre.M), (Sre.M.runFor (4 * k) m).outcome.isSome = true → k < turns → Q (Sre.M.runFor (4 * k) m) s → wpAny M A (reDrive turns m) Q E s
  | 0, 0, m, _, hk, _ => absurd hk (Nat.lt_irrefl _)
  | 0, turns + 1, m, ho, hk, hQ => by
    have ho' : m.outcome.isSome = true := ho
    unfold reDrive
    dsimp only
    rw [runFor_done reTurnSteps m ho', if_pos ho']
    exact wpAny_pure hQ
  | k + 1, 0, m, _, hk, _ => absurd hk (Nat.not_lt_zero _)
  | k + 1, turns + 1, m, ho, hk, hQ => by
    have e : Sre.M.runFor (4 * (k + 1)) m = Sre.M.runFor (4 * k) (Sre.M.runFor 4 m) := by rw [show 4 * (k + 1) = 4 + 4 * k by omega, runFor_add]
    unfold reDrive
    dsimp only
    rw [show reTurnSteps = 4 from rfl]
    by_cases h : (Sre.M.runFor 4 m).outcome.isSome = true
    · rw [if_pos h]
      rw [e, runFor_done _ _ h] at hQ
      exact wpAny_pure hQ
    · rw [if_neg h]
      rw [e] at ho hQ
      exact wpAny_bind (wpAny_rule (wp_reDrive k turns _ ho (by omega) hQ))

theorem wp_reRunToEnd {m : Sre.M} {r : Option (Nat × Nat)} {k : Nat} {Q : Option Sre.M → Shared → Prop} (hk : k < 2 ^ 64) (hf : Found (Sre.M.runFor k m) r)
    (h : ∀ m' : Option Sre.M, m'.map (fun m => (m.start, m.handed)) = r → Q m' s) : wpAny M A (reRunToEnd m) Q E s := by
  unfold reRunToEnd
  have e : Sre.M.runFor (4 * k) m = Sre.M.runFor k m := by rw [show 4 * k = k + 3 * k by omega, runFor_add, runFor_done _ _ hf.some]
  refine wpAny_bind (wp_reDrive k _ m (by rw [e]; exact hf.some) hk ?_)
  rw [e]
  generalize Sre.M.runFor k m = m' at hf ⊢
  refine wpAny_bind ?_
  refine wpAny_forIn_list _ (fun _ _ s' => s' = s) (fun _ s' => wpAny M A _ Q E s') ?_ ?_ _ _ rfl
  · rintro x rest b s' rfl
    refine wpAny_ite ?_
    split
    · exact wpAny_bind (wpAny_rule (wpAny_pure rfl))
    · exact wpAny_pure rfl
  · rintro b s' rfl
    cases r with
    | none =>
      rw [show m'.outcome = _ from hf]
      exact wpAny_pure (h none rfl)
    | some p =>
      have he : Ends m' p.1 p.2 := hf
      rw [he.out]
      exact wpAny_pure (h (some m') (by rw [Option.map_some, he.st, he.hd]))
end
end Mine
end

section
open PySem PySem.Sre PySem.Builtin.Re PySem.Calls PySem.Builtin PyProof.Rows
namespace Mine
set_option linter.unusedSimpArgs false
set_option linter.unusedVariables false
set_option maxRecDepth 100000

noncomputable def PatAt (h : Heap) (p : Addr) (code : Array Nat) : Prop :=
  ∃ (fs : Array Value) (T : Addr) (ws : Array Value) (n : Nat), h.get? p = some { cls := .type "re.Pattern", data := .fields fs } ∧ fs.getD 5 .none = .ref T ∧ reRawNat (fs.getD 2 .none) = 0 ∧ reRawNat (fs.getD 6 .none) = 0 ∧
    h.get? T = some { cls := .type "tuple", data := .seq ws n } ∧ (ws.map reRawOf).map (·.toNat) = code
theorem PatAt.keeps {h h' : Heap} {p : Addr} {code : Array Nat} (x : PatAt h p code) (hk : ∀ b o, h.get? b = some o → h'.get? b = some o) : PatAt h' p code :=
  let ⟨fs, T, ws, n, a, b, c, d, e, f⟩ := x; ⟨fs, T, ws, n, hk _ _ a, b, c, d, hk _ _ e, f⟩

section
variable {M : Model} {A : Around} {E : Value → Shared → Prop} {s : Shared}

theorem wp_reTextOf {x : Str} {t : Tok} {Q : Array Nat × Nat → Shared → Prop} (h : Q (x.cps, 0) s) : wpAny M A (reTextOf (.str x t)) Q E s := h |> fun h => by
  unfold reTextOf
  exact wpAny_bind (wpAny_of_eq (a := some x) rfl (wpAny_pure h))

theorem wp_whole {p : Addr} {code : Array Nat} {x : Str} {t : Tok} {Q : ReTarget → Shared → Prop} (hp : PatAt s.heap p code)
    (h : Q { pattern := .ref p, string := .str x t, code := code, text := x.cps, kind := 0, groups := 0, pos := 0, lim := x.cps.size } s) : wpAny M A (reWholeTarget (.ref p) (.str x t)) Q E s := by
  obtain ⟨fs, T, ws, n, h1, h2, h3, h4, h5, h6⟩ := hp
  unfold reWholeTarget
  refine wpAny_bind (wpAny_fieldsOf h1 rfl ?_)
  refine wpAny_bind (wp_reTextOf ?_)
  dsimp only
  rw [h4]
  simp only [Nat.zero_ne_one, BEq.rfl, Bool.true_and, Bool.and_true, show ((0 : Nat) == 1) = false from rfl, Bool.false_and, Bool.false_eq_true, if_false]
  refine wpAny_bind (wpAny_of_eq (a := ()) rfl ?_)
  unfold reRawItems
  rw [h2]
  refine wpAny_bind (wpAny_bind (wpAny_seqItems h5 rfl (wpAny_pure ?_)))
  rw [Option.getD_some, h6, h3]
  exact wpAny_pure h
end

/-- what the search gives, as the machine has it -/
structure Seeks (code : Array Nat) (text : Array Nat) (fnd : Nat → Option (Nat × Nat)) : Prop where
  run : ∀ p, ∃ k, k < 2 ^ 64 ∧ Found (Sre.M.runFor k (forSearch code text 0 p text.size false)) (fnd p)
  on : ∀ p a b, fnd p = some (a, b) → p ≤ a ∧ a < b ∧ b ≤ text.size

noncomputable def piecesOf (fnd : Nat → Option (Nat × Nat)) (text : Array Nat) (repl : Str) : Nat → Nat → List Str
  | 0, _ => []
  | f + 1, p => match fnd p with
    | some (a, b) => (if p < a then [⟨text.extract p a⟩] else []) ++ repl :: piecesOf fnd text repl f b
    | none => if p < text.size then [⟨text.extract p text.size⟩] else []

theorem glued_empty (l : List Str) : (Txt.join (Str.mk #[]) l).cps.toList = (l.map (·.cps.toList)).flatten := by
  unfold Txt.join Builtin.Str.glued
  cases l with
  | nil => rfl
  | cons x r =>
    simp only [List.drop_succ_cons, List.drop_zero, List.headD_cons, List.map_cons, List.flatten_cons]
    have : ∀ (r : List Str) (a : Array Nat), (List.foldl (fun acc p => acc ++ (#[] : Array Nat) ++ p.cps) a r).toList = a.toList ++ (r.map (·.cps.toList)).flatten := by
      intro r
      induction r with
      | nil => intro a; simp
      | cons y r ih => intro a; rw [List.foldl_cons, ih]; simp
    exact this r x.cps

section
variable {prog : Program} {w : World} {A : Around} {E : Value → Shared → Prop}

noncomputable def loopArgs (p : Addr) (x : Str) (tx : Tok) (r : Str) (tr : Tok) (n : Int) (q : Nat) (D : Addr) : Args :=
  ⟨[.ref p, .str x tx, .str r tr, rawInt 0, rawInt 0, rawInt n, rawInt q, rawInt q, .bool false, .ref D, .bool false], []⟩

theorem wp_reSlice {M : Model} {s : Shared} {text : Array Nat} {b e : Nat} {Q : Value → Shared → Prop} (hz : text.size ≤ 100000)
    (h : Q (.str ⟨text.extract b e⟩ s.toks) { s with toks := s.toks + 1 }) : wpAny M A (reSlice text 0 b e) Q E s := by
  unfold reSlice
  rw [if_pos (by rfl)]
  refine wpAny_mkStr h ?_
  show (text.extract b e).size ≤ sizeLine
  rw [Array.size_extract, sizeLine_eq]; omega

/-- what a call hands on -/
noncomputable def Back (Q : Value → Shared → Prop) (E : Value → Shared → Prop) (r : Result) (s' : Shared) : Prop := match r with | .ok (.ret v) => Q v s' | .ok _ => False | .error e => E e s'
theorem strValues_snoc (l : List (Str × Tok)) (y : Str) (t : Tok) : (strValues l).toArray.push (.str y t) = (strValues (l ++ [(y, t)])).toArray := by
  simp [strValues]
theorem push_str {M : Model} {s : Shared} {D : Addr} {l : List (Str × Tok)} {nn : Nat} {y : Str} {t : Tok} {h₀ : Heap} {Q : Unit → Shared → Prop}
    (hl : s.heap.get? D = some { cls := .type "list", data := .seq (strValues l).toArray nn }) (hk : ∀ b o, h₀.get? b = some o → s.heap.get? b = some o) (hD : h₀.get? D = none) (hz : l.length ≤ 100000)
    (h : ∀ h' nn', h'.get? D = some { cls := .type "list", data := .seq (strValues (l ++ [(y, t)])).toArray nn' } → (∀ b o, h₀.get? b = some o → h'.get? b = some o) → Q () { s with heap := h' }) :
    wpAny M A (updateSeq D fun a => a.push (.str y t)) Q E s := by
  have hs : (strValues l).toArray.size ≤ sizeLine := by rw [List.size_toArray, strValues, List.length_map, sizeLine_eq]; omega
  refine wpAny_updateSeq hl rfl (h _ (if ((strValues l).toArray.push (Value.str y t)).size == (strValues l).toArray.size then nn else nn + 1) ?_ ?_) hs (by rw [Array.size_push]; omega)
  · have := Heap.get?_update_self (h := s.heap) (a := D) (Obj.mapSeq fun a => a.push (Value.str y t)) hl rfl
    rw [this, ← strValues_snoc]
    rfl
  · intro b o e
    rw [Heap.get?_update_ne _ _ _ _ (fun q => by subst q; rw [hD] at e; cases e)]
    exact hk b o e
/-- the loop: from the place q, the list D holds what is behind -/
theorem sub_loop {p D : Addr} {code : Array Nat} {x r : Str} {tx tr : Tok} {fnd : Nat → Option (Nat × Nat)} {h₀ : Heap} {Q : Value → Shared → Prop}
    (hx : x.cps.size ≤ 10000) (hr : r.cps.size ≤ 4) (hS : Seeks code x.cps fnd) (hP : PatAt h₀ p code) (hD : h₀.get? D = none) :
    ∀ (f q : Nat) (n : Int) (l : List (Str × Tok)) (nn : Nat) (s : Shared), q ≤ x.cps.size → x.cps.size + 1 - q ≤ f → l.length ≤ 2 * q → ((l.map (·.1)).map (·.cps.size)).sum ≤ 4 * q →
      s.heap.get? D = some { cls := .type "list", data := .seq (strValues l).toArray nn } → (∀ b o, h₀.get? b = some o → s.heap.get? b = some o) →
      (∀ t' h' tk, (∀ b o, h₀.get? b = some o → h'.get? b = some o) → Q (.str (Txt.join (Str.mk #[]) (l.map (·.1) ++ piecesOf fnd x.cps r f q)) t') { s with heap := h', toks := tk }) →
      codeAny (model prog w) A (.builtin "re.Pattern.sub.loop" (loopArgs p x tx r tr n q D)) (Back Q E) s := by
  intro f
  induction f with
  | zero => intro q n l nn s h1 h2; omega
  | succ f ih =>
    intro q n l nn s h1 h2 h3 h4 h5 h6 h7
    refine codeAny_builtin entry_sub_loop ?_
    unfold «re.Pattern.sub.loop» loopArgs
    dsimp only [rawInt]
    refine wpAny_bind (wp_whole (hP.keeps h6) ?_)
    rw [if_pos (show ((0 : Int) == 0) = true from rfl)]
    refine wpAny_bind (wpAny_of_eq (a := ()) rfl ?_)
    refine wpAny_bind ?_
    rw [if_neg (show ¬ (((0 : Int) != 0 && decide (n ≥ 0)) = true) by simp)]
    obtain ⟨k, hk, hf⟩ := hS.run q
    unfold reNextFound
    dsimp only
    rw [Int.toNat_natCast]
    refine wp_reRunToEnd hk hf fun m' hm => ?_
    have hs0 : x.cps.size ≤ 100000 := by omega
    cases hq : fnd q with
    | none =>
      rw [hq] at hm
      obtain rfl : m' = none := by cases m' with | none => rfl | some _ => cases hm
      dsimp only
      have fin : ∀ (l' : List (Str × Tok)) (nn' : Nat) (s' : Shared), l'.length ≤ 20001 → (((l'.map (·.1)).map (·.cps.size)).sum ≤ 60000) → s'.heap.get? D = some { cls := .type "list", data := .seq (strValues l').toArray nn' } → (∀ b o, h₀.get? b = some o → s'.heap.get? b = some o) →
          (∀ t' tk, Q (.str (Txt.join (Str.mk #[]) (l'.map (·.1))) t') { s' with toks := tk }) →
          wpAny (model prog w) (A.under (Code.builtin "re.Pattern.sub.loop" { pos := [Value.ref p, Value.str x tx, Value.str r tr, Value.int 0 0, Value.int 0 0, Value.int n 0, Value.int (↑q) 0, Value.int (↑q) 0, Value.bool false, Value.ref D, Value.bool false] }))
            (do
              let joiner ← reSlice x.cps 0 0 0
              let __do_lift ← seqItems? (Value.ref D)
              let text ← if (__do_lift.getD #[]).isEmpty = true then pure joiner else call (Value.builtin (if (0 == 0) = true then "str.join" else "bytes.join")) [joiner, Value.ref D]
              if false = true then do
                let __do_lift ← holding [text] do
                  let __do_lift ← mkInt n
                  newTuple [text, __do_lift]
                ret __do_lift
              else ret text)
            (fun fin s' => match fin with | .done f => Back Q E (.ok f) s' | .again c' => c'.quiet = true ∧ codeAny (model prog w) A c' (Back Q E) s') (fun e s' => Back Q E (.error e) s') s' := by
        intro l' nn' s' hll hsum hl' hk' hQ
        refine wpAny_bind (wp_reSlice hs0 ?_)
        refine wpAny_bind (wpAny_seqItems (o := { cls := .type "list", data := .seq (strValues l').toArray nn' }) hl' rfl ?_)
        dsimp only
        rw [Option.getD_some]
        have ej : (Str.mk (x.cps.extract 0 0)) = Str.mk #[] := by simp
        rw [ej]
        by_cases he : ((strValues l').toArray.isEmpty) = true
        · rw [if_pos he]
          have : l' = [] := by cases l' with | nil => rfl | cons _ _ => simp [strValues] at he
          subst this
          refine wpAny_bind (wpAny_pure ?_)
          rw [if_neg Bool.false_ne_true]
          exact wpAny_pure (hQ _ _)
        · rw [if_neg he]
          refine wpAny_bind ?_
          refine SC.join (l := l') (texts := l'.map (·.1)) ⟨_, hl', rfl, nn', rfl⟩ rfl ?_ fun t' k' => ?_
          · unfold JoinOk
            have hfold : ∀ (r : List Str) (a : Nat), r.toArray.foldl (fun a y => a + y.length + (Str.mk #[]).length) a = a + (r.map (·.cps.size)).sum := by
              intro r
              induction r with
              | nil => intro a; simp
              | cons y r ih =>
                intro a
                have := ih (a + y.length + (Str.mk #[]).length)
                simp only [List.foldl_toArray, List.foldl_cons, List.map_cons, List.sum_cons] at this ⊢
                rw [this]
                show a + y.cps.size + 0 + _ = _
                omega
            rw [hfold]
            simp only [Builtin.Str.tooLong, sizeLine_eq, Nat.zero_add, Bool.not_eq_true', decide_eq_false_iff_not]
            omega
          · rw [if_neg Bool.false_ne_true]
            exact wpAny_pure (hQ _ _)
      have hp : piecesOf fnd x.cps r (f + 1) q = if q < x.cps.size then [⟨x.cps.extract q x.cps.size⟩] else [] := by
        show (match fnd q with | some (a, b) => _ | none => _) = _
        rw [hq]
      rw [hp] at h7
      by_cases hlt : q < x.cps.size
      · rw [if_pos hlt] at h7 ⊢
        refine wpAny_bind (wp_reSlice hs0 ?_)
        refine wpAny_bind (push_str (h₀ := h₀) h5 h6 hD (by omega) fun h' nn' hl' hk' => ?_)
        refine fin (l ++ [(⟨x.cps.extract q x.cps.size⟩, s.toks)]) nn' _ ?_ ?_ hl' hk' fun t' tk => ?_
        · simp; omega
        · simp only [List.map_append, List.map_cons, List.map_nil, List.sum_append, List.sum_cons, List.sum_nil, Array.size_extract]; omega
        · have := h7 t' h' tk hk'
          simpa using this
      · rw [if_neg hlt] at h7 ⊢
        refine fin l nn s (by omega) (by omega) h5 h6 fun t' tk => ?_
        have := h7 t' s.heap tk h6
        simpa using this
    | some ab =>
      obtain ⟨a, b⟩ := ab
      rw [hq] at hm
      obtain ⟨m, rfl, hab⟩ : ∃ m, m' = some m ∧ (m.start, m.handed) = (a, b) := by
        cases m' with
        | none => cases hm
        | some m => exact ⟨m, rfl, by simpa using hm⟩
      obtain ⟨hma, hmb⟩ : m.start = a ∧ m.handed = b := by simpa using hab
      obtain ⟨g1, g2, g3⟩ := hS.on q a b hq
      have hp : piecesOf fnd x.cps r (f + 1) q = (if q < a then [⟨x.cps.extract q a⟩] else []) ++ r :: piecesOf fnd x.cps r f b := by
        show (match fnd q with | some (a, b) => _ | none => _) = _
        rw [hq]
      rw [hp] at h7
      dsimp only
      rw [hma, hmb]
      have hno : (b == a) = false := by simp; omega
      rw [hno]
      have hlen : ∀ (c : List (Str × Tok)), c.length ≤ 20001 → c.length ≤ 100000 := fun c h => by omega
      have go : ∀ (l' : List (Str × Tok)) (nn' : Nat) (s' : Shared), l'.length ≤ 2 * q + 1 → (((l'.map (·.1)).map (·.cps.size)).sum ≤ 4 * q + (a - q)) → s'.heap.get? D = some { cls := .type "list", data := .seq (strValues l').toArray nn' } → (∀ b o, h₀.get? b = some o → s'.heap.get? b = some o) →
          (∀ t' h' tk, (∀ b o, h₀.get? b = some o → h'.get? b = some o) → Q (.str (Txt.join (Str.mk #[]) (l'.map (·.1) ++ r :: piecesOf fnd x.cps r f b)) t') { s' with heap := h', toks := tk }) →
          wpAny (model prog w) (A.under (Code.builtin "re.Pattern.sub.loop" { pos := [Value.ref p, Value.str x tx, Value.str r tr, Value.int 0 0, Value.int 0 0, Value.int n 0, Value.int (↑q) 0, Value.int (↑q) 0, Value.bool false, Value.ref D, Value.bool false] }))
            (do
              let item ← pure (Value.str r tr)
              if (item != Value.none) = true then do
                updateSeq D fun x => x.push item
                again (Code.builtin "re.Pattern.sub.loop" { pos := [Value.ref p, Value.str x tx, Value.str r tr, Value.int 0 0, Value.int 0 0, Value.int (n + 1) 0, Value.int (↑b) 0, Value.int (↑b) 0, Value.bool false, Value.ref D, Value.bool false] })
              else
                again (Code.builtin "re.Pattern.sub.loop" { pos := [Value.ref p, Value.str x tx, Value.str r tr, Value.int 0 0, Value.int 0 0, Value.int (n + 1) 0, Value.int (↑b) 0, Value.int (↑b) 0, Value.bool false, Value.ref D, Value.bool false] }))
            (fun fin s' => match fin with | .done f => Back Q E (.ok f) s' | .again c' => c'.quiet = true ∧ codeAny (model prog w) A c' (Back Q E) s') (fun e s' => Back Q E (.error e) s') s' := by
        intro l' nn' s' hl1 hl2 hl3 hl4 hl5
        refine wpAny_bind (wpAny_pure ?_)
        rw [if_pos (by rfl)]
        refine wpAny_bind (push_str (h₀ := h₀) hl3 hl4 hD (by omega) fun h' nn'' hl' hk' => ?_)
        refine wpAny_pure (show _ ∧ _ from ⟨plainId_quiet (by decide +kernel) _, ?_⟩)
        refine ih b (n + 1) (l' ++ [(r, tr)]) nn'' { s' with heap := h' } g3 (by omega) ?_ ?_ hl' hk' fun t' h'' tk hk'' => ?_
        · simp; omega
        · simp only [List.map_append, List.map_cons, List.map_nil, List.sum_append, List.sum_cons, List.sum_nil]; omega
        · have := hl5 t' h'' tk hk''
          simpa using this
      by_cases hlt : q < a
      · rw [if_pos hlt] at h7 ⊢
        refine wpAny_bind (wp_reSlice hs0 ?_)
        refine wpAny_bind (push_str (h₀ := h₀) h5 h6 hD (by omega) fun h' nn' hl' hk' => ?_)
        refine go (l ++ [(⟨x.cps.extract q a⟩, s.toks)]) nn' { s with heap := h', toks := s.toks + 1 } ?_ ?_ hl' hk' fun t' h'' tk hk'' => ?_
        · simp; omega
        · simp only [List.map_append, List.map_cons, List.map_nil, List.sum_append, List.sum_cons, List.sum_nil, Array.size_extract]; omega
        · have := h7 t' h'' tk hk''
          simpa using this
      · rw [if_neg hlt] at h7 ⊢
        refine go l nn s (by omega) (by omega) h5 h6 fun t' h'' tk hk'' => ?_
        have := h7 t' h'' tk hk''
        simpa using this

theorem named_sub (a b : Value) : reNamed "re.Pattern.sub" "sub" ["repl", "string", "count"] 2 [a, b] [] = pure [some a, some b, none] := by rfl

/-- the call of the method -/
theorem call_sub {s : Shared} {p : Addr} {code : Array Nat} {x r : Str} {tx tr : Tok} {fnd : Nat → Option (Nat × Nat)} {Q : Value → Shared → Prop}
    (hx : x.cps.size ≤ 10000) (hr : r.cps.size ≤ 4) (hb : r.cps.contains 92 = false) (hS : Seeks code x.cps fnd) (hP : PatAt s.heap p code)
    (h : ∀ t' h' tk, (∀ b o, s.heap.get? b = some o → h'.get? b = some o) → Q (.str (Txt.join (Str.mk #[]) (piecesOf fnd x.cps r (x.cps.size + 1) 0)) t') { s with heap := h', toks := tk }) :
    wpAny (model prog w) A (call (.builtin "re.Pattern.sub") [.ref p, .str r tr, .str x tx]) Q E s := by
  have hT : s.TypeIs (.ref p) "re.Pattern" := by
    obtain ⟨fs, T, ws, n, h1, _⟩ := hP
    exact ⟨_, h1, rfl⟩
  refine wpAny_call (codeAny_call_builtin slot_sub.plain entry_sub (slot_sub.check _ _ _ _ _ _ _ _ hT (args_sub _ _ _) ?_))
  unfold «re.Pattern.sub» reSubstitute
  dsimp only
  rw [named_sub]
  refine wpAny_bind (wpAny_pure ?_)
  dsimp only
  refine wpAny_bind (wpAny_pure ?_)
  refine wpAny_bind (wpAny_specialOf (typeIs_str _ _ _) (r := none) (by rw [typeLookup_type, builtinLookup_eq_fast]; kernel_rfl) ?_)
  rw [if_neg (by simp)]
  refine wpAny_bind (wpAny_of_eq (a := some r) rfl ?_)
  dsimp only
  refine wpAny_bind (wpAny_pure ?_)
  rw [if_neg (by simp), hb, if_pos (by rfl)]
  refine wpAny_bind (wpAny_pure ?_)
  refine wpAny_bind (wpAny_holding (wp_whole hP ?_))
  rw [if_neg (by simp)]
  refine wpAny_bind (wpAny_newList ?_ (by decide))
  refine wpAny_pure (show _ ∧ _ from ⟨plainId_quiet (by decide +kernel) _, ?_⟩)
  have hnew : s.heap.get? s.heap.objs.size = none := by
    cases q : s.heap.get? s.heap.objs.size with
    | none => rfl
    | some o => exact absurd (Heap.lt_size q) (Nat.lt_irrefl _)
  have L := sub_loop (prog := prog) (w := w) (A := A) (E := E) (p := p) (D := s.heap.objs.size) (tx := tx) (tr := tr) (Q := Q) hx hr hS hP hnew (x.cps.size + 1) 0 0 [] 0
    { s with heap := s.heap.push { cls := .type "list", data := .seq ([] : List Value).toArray } } (Nat.zero_le _) (Nat.le_refl _) (Nat.le_refl _) (Nat.le_refl _) (Heap.get?_push_size _ rfl) (fun b o e => Heap.get?_push_of_some _ e) (fun t' h' tk hk => by simpa using h t' h' tk hk)
  exact L
end

/-! both patterns at once -/
theorem eolFrom_ge {text : Array Nat} {lim : Nat} : ∀ {f p s : Nat}, eolFrom text lim f p = some s → p ≤ s
  | 0, _, _, h => by cases h
  | f + 1, p, s, h => by
    unfold eolFrom at h
    split at h
    · cases h
    · split at h
      · cases h; omega
      · have := eolFrom_ge h; omega
theorem dotFrom_lt {text : Array Nat} {lim : Nat} : ∀ {f p s : Nat}, dotFrom text lim f p = some s → p ≤ s ∧ s < lim ∧ front text s = true ∧ text.getD s 0 = 46
  | 0, _, _, h => by cases h
  | f + 1, p, s, h => by
    unfold dotFrom at h
    split at h
    · cases h
    · split at h
      · rename_i g; cases h; exact ⟨Nat.le_refl _, by omega, g.1, g.2⟩
      · have := dotFrom_lt h; exact ⟨by omega, this.2⟩
noncomputable def fnd2 (text : Array Nat) (p : Nat) : Option (Nat × Nat) := (eolFrom text text.size (text.size + 1 - p) p).map fun s => (s, eolAt text text.size s)
noncomputable def fnd1 (text : Array Nat) (p : Nat) : Option (Nat × Nat) := (dotFrom text text.size (text.size + 1 - p) p).map fun s => (s, s + 1)
theorem seeks2 (text : Array Nat) : Seeks code2 text (fnd2 text) where
  run p := let ⟨k, hk, h⟩ := search2 text p; ⟨k, Nat.lt_of_le_of_lt hk (by decide), h⟩
  on p a b h := by
    unfold fnd2 at h
    cases e : eolFrom text text.size (text.size + 1 - p) p with
    | none => rw [e] at h; cases h
    | some s =>
      rw [e] at h
      obtain ⟨rfl, rfl⟩ : s = a ∧ eolAt text text.size s = b := by simpa using h
      have h1 := eolFrom_lt e
      have h2 := eolFrom_ge e
      unfold eolAt
      split <;> omega
theorem seeks1 (text : Array Nat) (hz : text.size ≤ 100000) : Seeks code1 text (fnd1 text) where
  run p := let ⟨k, hk, h⟩ := search1 text p; ⟨k, by omega, h⟩
  on p a b h := by
    unfold fnd1 at h
    cases e : dotFrom text text.size (text.size + 1 - p) p with
    | none => rw [e] at h; cases h
    | some s =>
      rw [e] at h
      obtain ⟨rfl, rfl⟩ : s = a ∧ s + 1 = b := by simpa using h
      have h1 := dotFrom_lt e
      omega
end Mine
end

section
open PySem PySem.Sre PySem.Builtin.Re PySem.Calls PySem.Builtin PyProof.Rows
namespace Mine
set_option linter.unusedSimpArgs false
set_option linter.unusedVariables false

/-- all ends of line made both signs; behind a return the feed is spoken for -/
noncomputable def fixS : Bool → List Nat → List Nat
  | _, [] => []
  | cr, c :: r => if c = 10 then (if cr = true then fixS false r else 13 :: 10 :: fixS false r) else if c = 13 then 13 :: 10 :: fixS true r else c :: fixS false r
noncomputable def fixL (l : List Nat) : List Nat := fixS false l
/-- a dot more where a line opens by one -/
noncomputable def dotL : Bool → List Nat → List Nat
  | _, [] => []
  | b, c :: r => (if b = true ∧ c = 46 then [46, 46] else [c]) ++ dotL (c == 10) r

theorem fixL_other {c : Nat} {r : List Nat} (h1 : c ≠ 10) (h2 : c ≠ 13) : fixL (c :: r) = c :: fixL r := by simp [fixL, fixS, h1, h2]
theorem fixL_lf {r : List Nat} : fixL (10 :: r) = 13 :: 10 :: fixL r := by simp [fixL, fixS]
theorem fixL_crlf {r : List Nat} : fixL (13 :: 10 :: r) = 13 :: 10 :: fixL r := by simp [fixL, fixS]
theorem fixL_cr {d : Nat} {r : List Nat} (h : d ≠ 10) : fixL (13 :: d :: r) = 13 :: 10 :: fixL (d :: r) := by simp [fixL, fixS, h]
theorem fixL_cr_nil : fixL [13] = [13, 10] := by simp [fixL, fixS]

theorem drop_at {text : Array Nat} {p : Nat} (h : p < text.size) : text.toList.drop p = text.getD p 0 :: text.toList.drop (p + 1) := by
  have h' : p < text.toList.length := by simpa using h
  rw [List.drop_eq_getElem_cons h']
  congr 1
  simp [h]
theorem extract_cons {text : Array Nat} {p s : Nat} (h : p < s) (hs : s ≤ text.size) : (text.extract p s).toList = text.getD p 0 :: (text.extract (p + 1) s).toList := by
  have h' : p < text.size := by omega
  simp only [Array.toList_extract, List.extract_eq_take_drop]
  rw [drop_at h', show s - p = (s - (p + 1)) + 1 by omega, List.take_succ_cons]
theorem extract_self {text : Array Nat} {p s : Nat} (h : s ≤ p) : (text.extract p s).toList = [] := by
  simp only [Array.toList_extract, List.extract_eq_take_drop]
  rw [show s - p = 0 by omega, List.take_zero]

theorem fix_none {text : Array Nat} : ∀ {f p : Nat}, text.size + 1 - p ≤ f → p ≤ text.size → eolFrom text text.size f p = none → fixL (text.toList.drop p) = text.toList.drop p
  | 0, p, h, hp, _ => by omega
  | f + 1, p, h, hp, e => by
    unfold eolFrom at e
    by_cases hl : p ≥ text.size
    · obtain rfl : p = text.size := by omega
      have : text.toList.drop text.size = [] := by simp
      rw [this]; rfl
    · rw [if_neg hl] at e
      by_cases hc : text.getD p 0 = 10 ∨ text.getD p 0 = 13
      · rw [if_pos hc] at e; cases e
      · rw [if_neg hc] at e
        rw [drop_at (by omega), fixL_other (fun q => hc (.inl q)) (fun q => hc (.inr q)), fix_none (by omega) (by omega) e]
theorem fix_some {text : Array Nat} : ∀ {f p s : Nat}, eolFrom text text.size f p = some s → fixL (text.toList.drop p) = (text.extract p s).toList ++ fixL (text.toList.drop s)
  | 0, p, s, e => by cases e
  | f + 1, p, s, e => by
    have hge := eolFrom_ge e
    unfold eolFrom at e
    by_cases hl : p ≥ text.size
    · rw [if_pos hl] at e; cases e
    · rw [if_neg hl] at e
      by_cases hc : text.getD p 0 = 10 ∨ text.getD p 0 = 13
      · rw [if_pos hc] at e
        cases e
        rw [extract_self (Nat.le_refl _), List.nil_append]
      · rw [if_neg hc] at e
        have h2 := eolFrom_ge e
        have h3 := (eolFrom_lt e).1
        rw [drop_at (by omega), fixL_other (fun q => hc (.inl q)) (fun q => hc (.inr q)), fix_some e, extract_cons (p := p) (by omega) (by omega), List.cons_append]
theorem fix_here {text : Array Nat} {s : Nat} (hs : s < text.size) (hc : text.getD s 0 = 10 ∨ text.getD s 0 = 13) :
    fixL (text.toList.drop s) = 13 :: 10 :: fixL (text.toList.drop (eolAt text text.size s)) := by
  rw [drop_at hs]
  unfold eolAt
  by_cases h10 : text.getD s 0 = 10
  · rw [h10, fixL_lf, if_neg (fun q => absurd q.1 (by decide))]
  · have h13 := hc.resolve_left h10
    rw [h13]
    by_cases hn : s + 1 < text.size
    · rw [drop_at hn]
      by_cases hd : text.getD (s + 1) 0 = 10
      · rw [if_pos ⟨rfl, hn, hd⟩, hd, fixL_crlf]
      · rw [if_neg (fun q => hd q.2.2), fixL_cr hd, drop_at hn]
    · have : text.toList.drop (s + 1) = [] := by simp; omega
      rw [if_neg (fun q => hn q.2.1), this, fixL_cr_nil]
      rfl

noncomputable def cat (l : List Str) : List Nat := (l.map (·.cps.toList)).flatten

theorem pieces2 {text : Array Nat} : ∀ (f p : Nat), text.size + 1 - p ≤ f → p ≤ text.size → cat (piecesOf (fnd2 text) text ⟨#[13, 10]⟩ f p) = fixL (text.toList.drop p)
  | 0, p, h, hp => by omega
  | f + 1, p, h, hp => by
    show cat (match fnd2 text p with | some (a, b) => _ | none => _) = _
    cases e : eolFrom text text.size (text.size + 1 - p) p with
    | none =>
      have : fnd2 text p = none := by unfold fnd2; rw [e]; rfl
      rw [this]
      dsimp only
      rw [fix_none (Nat.le_refl _) hp e]
      by_cases hl : p < text.size
      · rw [if_pos hl]
        have ht : List.take (text.size - p) (List.drop p text.toList) = List.drop p text.toList := List.take_of_length_le (by simp)
        simp [cat, List.extract_eq_take_drop, ht]
      · rw [if_neg hl]
        have : text.toList.drop p = [] := by simp; omega
        rw [this]; rfl
    | some s =>
      have : fnd2 text p = some (s, eolAt text text.size s) := by unfold fnd2; rw [e]; rfl
      rw [this]
      dsimp only
      have h1 := eolFrom_lt e
      have h2 := eolFrom_ge e
      have h3 := (seeks2 text).on p _ _ this
      have ih := pieces2 f (eolAt text text.size s) (by omega) h3.2.2
      rw [fix_some e, fix_here h1.1 h1.2, ← ih]
      by_cases hl : p < s
      · rw [if_pos hl]; simp [cat]
      · rw [if_neg hl, extract_self (by omega)]; simp [cat]

theorem dot_none {text : Array Nat} : ∀ {f p : Nat}, text.size + 1 - p ≤ f → p ≤ text.size → dotFrom text text.size f p = none → dotL (front text p) (text.toList.drop p) = text.toList.drop p
  | 0, p, h, hp, _ => by omega
  | f + 1, p, h, hp, e => by
    unfold dotFrom at e
    by_cases hl : p ≥ text.size
    · obtain rfl : p = text.size := by omega
      have : text.toList.drop text.size = [] := by simp
      rw [this]; rfl
    · rw [if_neg hl] at e
      by_cases hc : front text p = true ∧ text.getD p 0 = 46
      · rw [if_pos hc] at e; cases e
      · rw [if_neg hc] at e
        have ih := dot_none (by omega) (by omega) e
        have hf : front text (p + 1) = (text.getD p 0 == 10) := by simp [front]
        rw [hf] at ih
        rw [drop_at (by omega)]
        show (if _ then _ else _) ++ dotL _ _ = _
        rw [if_neg hc, ih]; rfl
theorem dot_some {text : Array Nat} : ∀ {f p s : Nat}, dotFrom text text.size f p = some s → dotL (front text p) (text.toList.drop p) = (text.extract p s).toList ++ 46 :: 46 :: dotL (front text (s + 1)) (text.toList.drop (s + 1))
  | 0, p, s, e => by cases e
  | f + 1, p, s, e => by
    have hge := dotFrom_lt e
    unfold dotFrom at e
    by_cases hl : p ≥ text.size
    · rw [if_pos hl] at e; cases e
    · rw [if_neg hl] at e
      have hf : front text (p + 1) = (text.getD p 0 == 10) := by simp [front]
      by_cases hc : front text p = true ∧ text.getD p 0 = 46
      · rw [if_pos hc] at e
        cases e
        rw [extract_self (Nat.le_refl _), List.nil_append, hf, drop_at (by omega)]
        show (if _ then _ else _) ++ dotL _ _ = _
        rw [if_pos hc]; rfl
      · rw [if_neg hc] at e
        have h2 := dotFrom_lt e
        have ih := dot_some e
        rw [hf] at ih
        rw [drop_at (by omega)]
        show (if _ then _ else _) ++ dotL _ _ = _
        rw [if_neg hc, ih, extract_cons (p := p) (by omega) (by omega)]; rfl
theorem pieces1 {text : Array Nat} : ∀ (f p : Nat), text.size + 1 - p ≤ f → p ≤ text.size → cat (piecesOf (fnd1 text) text ⟨#[46, 46]⟩ f p) = dotL (front text p) (text.toList.drop p)
  | 0, p, h, hp => by omega
  | f + 1, p, h, hp => by
    show cat (match fnd1 text p with | some (a, b) => _ | none => _) = _
    cases e : dotFrom text text.size (text.size + 1 - p) p with
    | none =>
      have : fnd1 text p = none := by unfold fnd1; rw [e]; rfl
      rw [this]
      dsimp only
      rw [dot_none (Nat.le_refl _) hp e]
      by_cases hl : p < text.size
      · rw [if_pos hl]
        have ht : List.take (text.size - p) (List.drop p text.toList) = List.drop p text.toList := List.take_of_length_le (by simp)
        simp [cat, List.extract_eq_take_drop, ht]
      · rw [if_neg hl]
        have : text.toList.drop p = [] := by simp; omega
        rw [this]; rfl
    | some s =>
      have : fnd1 text p = some (s, s + 1) := by unfold fnd1; rw [e]; rfl
      rw [this]
      dsimp only
      have h1 := dotFrom_lt e
      have ih := pieces1 (text := text) f (s + 1) (by omega) (by omega)
      rw [dot_some e, ← ih]
      by_cases hl : p < s
      · rw [if_pos hl]; simp [cat]
      · rw [if_neg hl, extract_self (by omega)]; simp [cat]

section
variable {prog : Program} {w : World} {A : Around} {E : Value → Shared → Prop}
theorem str_ext {a b : Str} (h : a.cps.toList = b.cps.toList) : a = b := by
  cases a; cases b; simp only [Str.mk.injEq]; exact Array.toList_inj.mp h
/-- the ends of line mended -/
theorem call_sub2 {s : Shared} {p : Addr} {x : Str} {tx tr : Tok} {Q : Value → Shared → Prop} (hx : x.cps.size ≤ 10000) (hP : PatAt s.heap p code2)
    (h : ∀ t' h' tk, (∀ b o, s.heap.get? b = some o → h'.get? b = some o) → Q (.str ⟨(fixL x.cps.toList).toArray⟩ t') { s with heap := h', toks := tk }) :
    wpAny (model prog w) A (call (.builtin "re.Pattern.sub") [.ref p, .str ⟨#[13, 10]⟩ tr, .str x tx]) Q E s := by
  refine call_sub hx (by decide) (by simp) (seeks2 x.cps) hP fun t' h' tk hk => ?_
  have := h t' h' tk hk
  rwa [show (⟨(fixL x.cps.toList).toArray⟩ : Str) = Txt.join (Str.mk #[]) (piecesOf (fnd2 x.cps) x.cps ⟨#[13, 10]⟩ (x.cps.size + 1) 0) from ?_] at this
  refine str_ext ?_
  rw [glued_empty]
  have e := pieces2 (text := x.cps) (x.cps.size + 1) 0 (by omega) (Nat.zero_le _)
  unfold cat at e
  rw [e, List.drop_zero]
/-- a dot more -/
theorem call_sub1 {s : Shared} {p : Addr} {x : Str} {tx tr : Tok} {Q : Value → Shared → Prop} (hx : x.cps.size ≤ 10000) (hP : PatAt s.heap p code1)
    (h : ∀ t' h' tk, (∀ b o, s.heap.get? b = some o → h'.get? b = some o) → Q (.str ⟨(dotL true x.cps.toList).toArray⟩ t') { s with heap := h', toks := tk }) :
    wpAny (model prog w) A (call (.builtin "re.Pattern.sub") [.ref p, .str ⟨#[46, 46]⟩ tr, .str x tx]) Q E s := by
  refine call_sub hx (by decide) (by simp) (seeks1 x.cps (by omega)) hP fun t' h' tk hk => ?_
  have := h t' h' tk hk
  rwa [show (⟨(dotL true x.cps.toList).toArray⟩ : Str) = Txt.join (Str.mk #[]) (piecesOf (fnd1 x.cps) x.cps ⟨#[46, 46]⟩ (x.cps.size + 1) 0) from ?_] at this
  refine str_ext ?_
  rw [glued_empty]
  have e := pieces1 (text := x.cps) (x.cps.size + 1) 0 (by omega) (Nat.zero_le _)
  unfold cat at e
  rw [e, List.drop_zero]
  rfl
end
end Mine
end

section
open PySem PySem.W PySem.Calls PyProof.Rows PySem.Challenge
namespace Mine
set_option maxRecDepth 100000
/-- what stays of the heap -/
noncomputable def Keeps' (h h' : Heap) : Prop := ∀ b o, h.get? b = some o → h'.get? b = some o
theorem Keeps'.trans {a b c : Heap} (x : Keeps' a b) (y : Keeps' b c) : Keeps' a c := fun p o e => y p o (x p o e)
theorem Keeps'.refl (a : Heap) : Keeps' a a := fun _ _ e => e

section
variable {prog : Program} {w : World} {A : Around} {E : Value → Shared → Prop} {s : Shared} {K : Frag} {mg mb : Str → Option Value} {p : Program} {loose : List Str} {mean : ExcName → Option Value} {Q : Value → Shared → Prop}
theorem enter {name qual : Str} {params : Arguments} {body : List Stmt} {scope : Scope} {dV kV doc pm cdv ct oc : Value} {an od : Option Addr} {osl : Array (Option Value)} {f : Addr} {args : List Value} {binds : List (Str × Value)}
    (X : K.In s.heap) (T : Top p loose mean mg mb s.heap)
    (ho : K.lookup f = some ⟨oc, od, .func (fnOf name qual params body scope dV kV doc pm an cdv ct), osl⟩) (hcd : codeIn K cdv qual = true) (hroom : A.depth < recursionLimit)
    (hbind : BindsTo s (fnOf name qual params body scope dV kV doc pm an cdv ct) ⟨args, []⟩ binds) (hloc : ∀ y ∈ binds, scope.names.lookup y.1 = some .local)
    (h : ∀ L' h₁, Fr s.heap L' h₁ (fun y => binds.reverse.lookup y) → News s.heap L' h₁ [] →
      wpAny (model prog w) (A.deeper (envOf qual scope L' f cdv)) (execs body (envOf qual scope L' f cdv))
        (fun fl s' => Q (match fl with | .ret v => v | _ => .none) s') (fun _ _ => False) { s with heap := h₁, toks := s.toks + binds.length })
    (hco : scope.isCoroutine = false) (hgen : scope.isGenerator = false) (hk : scope.kind = .function)
    (hcell : ∀ x ∈ scope.names, x.2 ≠ .cell) : wpAny (model prog w) A (call (.ref f) args) Q E s := by
  refine wpAny_call (codeAny_call_def (fd := fnX name qual params body scope [] dV kV doc pm an cdv ct) (body := body) (binds := binds) hroom (X _ _ ho) rfl T.nolimit (codeRec_of X hcd) rfl hbind hcell hloc (fun h₁ hns hk₁ => ?_) hco hgen hk)
  exact wpAny_mono (h _ h₁ ⟨hns, fun b o e => hk₁ b o e, Nat.le_refl _⟩ News.nil) (fun fl s' hl => hl) fun _ _ y => y.elim
end
end Mine
end

section
set_option maxHeartbeats 4000000
open PySem PySem.W PySem.Calls PyProof.Rows PySem.Challenge
set_option maxRecDepth 100000
namespace Mine
theorem in_at {P : Params} {h : Heap} (X : (KF P).In h) {a : Addr} {o : Obj} (e : (KF P).lookup a = some o) : h.get? a = some o := X _ _ e
section
variable {w : World} {A : Around} {E : Value → Shared → Prop} {s : Shared} {mg mb : Str → Option Value} {mean : ExcName → Option Value} {Q : Value → Shared → Prop}
theorem gm_pat {p : Addr} {code : Array Nat} {pl : Sem Bool} {M : Model} {Q : Value × List Value → Shared → Prop} (hP : PatAt s.heap p code) (h : Q (.builtin "re.Pattern.sub", [.ref p]) s) :
    wpAny M A (getMethod (.ref p) (Str.ofString "sub") pl) Q E s := by
  obtain ⟨fs, T, ws, n, h1, _⟩ := hP
  exact getMethod_builtin ⟨_, h1, rfl⟩ plainAttrs_pat slot_sub type_sub (fun a e => by cases e; exact ⟨_, h1, rfl⟩) h
theorem pat1_of {P : Params} {h : Heap} (X : (KF P).In h) : PatAt h 36 code1 := ⟨_, _, _, _, X 36 (o36v0 P) rfl, rfl, rfl, rfl, X 35 (o35v0 P) rfl, by decide +kernel⟩
theorem pat2_of {P : Params} {h : Heap} (X : (KF P).In h) : PatAt h 41 code2 := ⟨_, _, _, _, X 41 (o41v0 P) rfl, rfl, rfl, rfl, X 40 (o40v0 P) rfl, by decide +kernel⟩
theorem ofs_crlf : Str.ofString "\x0d\n" = ⟨#[13, 10]⟩ := by decide +kernel
theorem ofs_dots : Str.ofString ".." = ⟨#[46, 46]⟩ := by decide +kernel
end
section
local macro_rules | `(tactic| walk_at "getMethod ref") => `(tactic| (k_here; (with_reducible show wpAny _ _ (getMethod (Value.ref _) (Str.ofString "sub") _) _ _ _); first | (refine gm_pat (p := 41) (code := code2) (pat2_of (by k_in)) ?_) | (refine gm_pat (p := 36) (code := code1) (pat1_of (by k_in)) ?_)))
theorem c_fix {w : World} {A : Around} {E : Value → Shared → Prop} {s : Shared} {mg mb : Str → Option Value} {mean : ExcName → Option Value} {Q : Value → Shared → Prop} {x : Str} {t : Tok}
    (X : (KF w.params).In s.heap) (T : Top vw (looseW vw lsn) mean mg mb s.heap) (hroom : A.depth < 900) (hx : x.length ≤ 2000)
    (h : ∀ r t' h' tk, Keeps' s.heap h' → r.cps.toList = fixL x.cps.toList → Q (.str r t') { s with heap := h', toks := tk }) :
    wpAny (model pw w) A (call (.ref 55) [.str x t]) Q E s := by
  have hfrag : rw_re0099_01 = rw_re0099_01 ∧ KF = KF := by (k_fill; exact ⟨rfl, rfl⟩)
  clear hfrag
  refine enter (binds := [(Str.ofString "data", .str x t)]) X T (by exact rfl) (by k_is) (Nat.lt_of_lt_of_le hroom (by decide)) (BindsTo.of_eq rfl) (locs rfl) ?_ rfl rfl rfl (by decide +kernel)
  intro L' h' F' N'
  k_steps
  rw [ofs_crlf]
  refine call_sub2 (Nat.le_trans hx (by decide)) (pat2_of (by k_in)) fun t' h'' tk hk => ?_
  exact h _ _ _ _ (Keeps'.trans F'.keep hk) rfl
theorem fixS_len : ∀ (b : Bool) (l : List Nat), (fixS b l).length ≤ 2 * l.length
  | _, [] => by simp [fixS]
  | b, c :: r => by
    have h1 := fixS_len false r
    have h2 := fixS_len true r
    simp only [fixS]
    split
    · split <;> simp only [List.length_cons] <;> omega
    · split <;> simp only [List.length_cons] <;> omega
theorem c_quote {w : World} {A : Around} {E : Value → Shared → Prop} {s : Shared} {mg mb : Str → Option Value} {mean : ExcName → Option Value} {Q : Value → Shared → Prop} {x : Str} {t : Tok}
    (X : (KF w.params).In s.heap) (T : Top vw (looseW vw lsn) mean mg mb s.heap) (hroom : A.depth < 900) (hx : x.length ≤ 2000)
    (h : ∀ r t' h' tk, Keeps' s.heap h' → r.cps.toList = dotL true (fixL x.cps.toList) → Q (.str r t') { s with heap := h', toks := tk }) :
    wpAny (model pw w) A (call (.ref 48) [.str x t]) Q E s := by
  refine enter (binds := [(Str.ofString "data", .str x t)]) X T (by exact rfl) (by k_is) (Nat.lt_of_lt_of_le hroom (by decide)) (BindsTo.of_eq rfl) (locs rfl) ?_ rfl rfl rfl (by decide +kernel)
  intro L' h' F' N'
  k_steps
  rw [ofs_crlf]
  refine call_sub2 (Nat.le_trans hx (by decide)) (pat2_of (by k_in)) fun t' h'' tk hk => ?_
  have F'' := Fr.keeps F' hk
  k_steps
  rw [ofs_dots]
  have hl := fixS_len false x.cps.toList
  refine call_sub1 ?_ (pat1_of (by k_in)) fun t' hh tk hk' => ?_
  · show (fixS false x.cps.toList).length ≤ 10000
    have e : x.cps.toList.length = x.length := Array.length_toList
    rw [e] at hl
    exact Nat.le_trans hl (by omega)
  · exact h _ _ _ _ (Keeps'.trans F''.keep hk') rfl
end
end Mine
end

section
set_option maxHeartbeats 4000000
open PySem PySem.W PySem.Calls PyProof.Rows PySem.Challenge
set_option maxRecDepth 100000
namespace Mine
theorem ofs_app (a : String) (x : Str) : (Str.ofString a ++ x).cps.toList = (Str.ofString a).cps.toList ++ x.cps.toList := by
  show ((Str.ofString a).cps ++ x.cps).toList = _
  simp
theorem c_comment {w : World} {A : Around} {E : Value → Shared → Prop} {s : Shared} {mg mb : Str → Option Value} {mean : ExcName → Option Value} {Q : Value → Shared → Prop} {x : Str} {t : Tok}
    (X : (KF w.params).In s.heap) (T : Top vw (looseW vw lsn) mean mg mb s.heap) (hroom : A.depth < 900) (hx : x.length ≤ 2000)
    (h : ∀ r t' h' tk, Keeps' s.heap h' → r.cps.toList = (if (Txt.rstrip x).length = 0 then [35] else 35 :: 32 :: (Txt.rstrip x).cps.toList) → Q (.str r t') { s with heap := h', toks := tk }) :
    wpAny (model pw w) A (call (.ref 62) [.str x t]) Q E s := by
  have hfrag : rw_re0099_01 = rw_re0099_01 ∧ KF = KF := by (k_fill; exact ⟨rfl, rfl⟩)
  clear hfrag
  refine enter (binds := [(Str.ofString "line", .str x t)]) X T (by exact rfl) (by k_is) (Nat.lt_of_lt_of_le hroom (by decide)) (BindsTo.of_eq rfl) (locs rfl) ?_ rfl rfl rfl (by decide +kernel)
  intro L' h' F' N'
  k_steps
  · refine h _ _ _ _ (Fr.keep (by assumption)) ?_
    rw [if_neg (by omega), ofs_app]
    rfl
  · refine h _ _ _ _ (Fr.keep (by assumption)) ?_
    rw [if_pos (by omega)]
    rfl
/-- the set's elements -/
noncomputable def b1Elems (P : Params) : List (Int × Value) := match (o70v0 P).data with
  | .set es _ _ => es.toList
  | _ => []
noncomputable def b1Has (P : Params) (c : Int) : Bool := (b1Elems P).any fun e => Value.isInt c e.2
theorem b1_elems (P : Params) (prog : Program) (w : World) : ElemsOf (intKind prog w) (b1Elems P) := by
  have e : ((b1Elems P).all fun e => match e.2 with | .int k _ => decide (e.1 = hashInt k) | _ => false) = true := by kernel_rfl
  intro x hx
  have := List.all_eq_true.mp e x hx
  obtain ⟨a, v⟩ := x
  cases v <;> first | (exfalso; exact Bool.false_ne_true this) | skip
  rename_i k t
  exact ⟨⟨k, by simp [intKind, Value.isInt], of_decide_eq_true this⟩, rfl⟩
theorem b1_setOf {P : Params} {h : Heap} {prog : Program} {w : World} (X : (KF P).In h) : h.SetOf (intKind prog w) 70 (b1Has P) 27 := by
  refine ⟨o70v0 P, (b1Elems P).toArray, 29, _, X 70 (o70v0 P) rfl, ⟨rfl, rfl, rfl⟩, rfl, ?_, ?_, by rw [show (b1Elems P).toArray.size = 27 by kernel_rfl]; decide, ?_, by kernel_rfl⟩
  · exact b1_elems P prog w
  · intro k
    simp [b1Has, List.any_eq_true, intKind]
  · cases P.followText "set-order" <;> kernel_rfl
section
local macro_rules | `(tactic| walk_at "compareOp In") => `(tactic| (k_here; (with_reducible show wpAny _ _ (compareOp CmpOp.In (Value.int _ _) (Value.ref 70)) _ _ _); (refine wpAny_inSet_of (knd := PySem.intKind _ _) (intKind_is _ _ _ _) rfl (b1_setOf (P := World.params _) (by k_in)) ?_)))
theorem c_inb1 {w : World} {A : Around} {E : Value → Shared → Prop} {s : Shared} {mg mb : Str → Option Value} {mean : ExcName → Option Value} {Q : Value → Shared → Prop} {c : Nat} {t : Tok}
    (X : (KF w.params).In s.heap) (T : Top vw (looseW vw lsn) mean mg mb s.heap) (hroom : A.depth < 900)
    (h : ∀ h' tk, Keeps' s.heap h' → Q (.bool (b1Has w.params c)) { s with heap := h', toks := tk }) :
    wpAny (model pw w) A (call (.ref 80) [.str ⟨#[c]⟩ t]) Q E s := by
  refine enter (binds := [(Str.ofString "code", .str ⟨#[c]⟩ t)]) X T (by exact rfl) (by k_is) (Nat.lt_of_lt_of_le hroom (by decide)) (BindsTo.of_eq rfl) (locs rfl) ?_ rfl rfl rfl (by decide +kernel)
  intro L' h' F' N'
  k_steps
  exact h _ _ (Fr.keep (by assumption))
end
noncomputable def b3Es : List DictEntry := b3All 39
theorem b3_keysOf (prog : Program) (w : World) : KeysOf (intKind prog w) b3Es.toArray := by
  have e : (b3Es.all fun e => match e.key with | .int k _ => decide (e.hash = hashInt k) | _ => false) = true := by kernel_rfl
  intro x hx
  have := List.all_eq_true.mp e x (by simpa using hx)
  obtain ⟨a, v, u⟩ := x
  cases v <;> first | (exfalso; exact Bool.false_ne_true this) | skip
  rename_i k t
  exact ⟨k, by simp [intKind, Value.isInt], of_decide_eq_true this⟩
noncomputable def b3Look (c : Int) : Option Value := findBy Value.isInt b3Es.toArray c
theorem b3_mapOf {P : Params} {h : Heap} {prog : Program} {w : World} (X : (KF P).In h) : h.MapOf (intKind prog w) 81 b3Look :=
  ⟨o81v0 P, b3Es.toArray, _, X 81 (o81v0 P) rfl, ⟨rfl, rfl, rfl⟩, rfl, b3_keysOf prog w, fun _ => rfl⟩
/-- what the table gives -/
noncomputable def strOf : Option Value → Option Str
  | some (.str v _) => some v
  | _ => none
noncomputable def b3Str (c : Int) : Option Str := strOf (b3Look c)
theorem b3Str_none {c : Int} (h : b3Look c = none) : b3Str c = none := by
  have e : strOf (b3Look c) = strOf none := congrArg strOf h
  exact e
theorem b3Str_some {c : Int} {v : Str} {t : Tok} (h : b3Look c = some (.str v t)) : b3Str c = some v := by
  have e : strOf (b3Look c) = strOf (some (.str v t)) := congrArg strOf h
  exact e
theorem b3_str (c : Int) : b3Look c = none ∨ ∃ v t, b3Look c = some (.str v t) := by
  have e : (b3Es.all fun e => match e.val with | .str _ _ => true | _ => false) = true := by kernel_rfl
  unfold b3Look findBy
  cases h : b3Es.toArray.find? (fun e => Value.isInt c e.key) with
  | none => exact .inl rfl
  | some e' =>
    right
    have hm : e' ∈ b3Es := by have := Array.mem_of_find?_eq_some h; simpa using this
    have := List.all_eq_true.mp e _ hm
    obtain ⟨a, b, v⟩ := e'
    cases v <;> first | exact ⟨_, _, rfl⟩ | (exfalso; exact Bool.false_ne_true this)
/-- the signs that a text may hold -/
noncomputable def sigma : List Nat := [46, 13, 10, 32, 8203, 13255, 223, 75, 890, 173, 35, 99, 111, 115, 107, 953]
noncomputable def foldC (c : Nat) : List Nat := if c = 13255 then [99, 111, 46] else if c = 223 then [115, 115] else if c = 890 then [32, 953] else if c = 75 then [107] else [c]
noncomputable def foldOf (c : Nat) : Option Str → List Nat
  | some v => v.cps.toList
  | none => (Txt.lower ⟨#[c]⟩).cps.toList
/-- the same look, in the list -/
noncomputable def b3StrL (c : Int) : Option Str := strOf ((b3Es.find? (fun e => Value.isInt c e.key)).map (·.val))
theorem b3StrL_eq (c : Int) : b3Str c = b3StrL c := by
  unfold b3Str b3StrL b3Look findBy
  rw [List.find?_toArray]
theorem b3_sigmaB : (sigma.all fun c => foldOf c (b3StrL c) == foldC c) = true := by kernel_rfl
theorem b3_sigma (c : Nat) (h : c ∈ sigma) : foldOf c (b3Str c) = foldC c := by
  have := List.all_eq_true.mp b3_sigmaB c h
  rw [b3StrL_eq]
  exact eq_of_beq this
theorem b3_none {c : Nat} (hc : c ∈ sigma) (h : b3Look c = none) : (Txt.lower ⟨#[c]⟩).cps.toList = foldC c := by
  rw [← b3_sigma c hc, b3Str_none h]; rfl
theorem b3_some {c : Nat} {v : Str} {t : Tok} (hc : c ∈ sigma) (h : b3Look c = some (.str v t)) : v.cps.toList = foldC c := by
  rw [← b3_sigma c hc, b3Str_some h]; rfl
end Mine
end

section
set_option maxHeartbeats 4000000
open PySem PySem.W PySem.Calls PyProof.Rows PySem.Challenge
set_option maxRecDepth 100000
namespace Mine
/-- hides the table from the walk -/
structure Look (c : Int) (r : Option Value) : Prop where
  e : b3Look c = r
structure Hid' (p : Prop) : Prop where
  e : p
section
theorem gm_get {P : Params} {M : Model} {A : Around} {E : Value → Shared → Prop} {s : Shared} {pl : Sem Bool} {Q : Value × List Value → Shared → Prop} (X : (KF P).In s.heap) (h : Q (.builtin "dict.get", [.ref 81]) s) :
    wpAny M A (getMethod (.ref 81) (Str.ofString "get") pl) Q E s :=
  getMethod_builtin ⟨o81v0 P, X 81 (o81v0 P) rfl, rfl⟩ PySem.F.plainAttrs_dict PySem.F.slot_dict_get PySem.F.type_dict_get (fun a e => by cases e; exact ⟨_, X 81 (o81v0 P) rfl, rfl⟩) h
theorem call_get {P : Params} {prog : Program} {w : World} {A : Around} {E : Value → Shared → Prop} {s : Shared} {Q : Value → Shared → Prop} {c : Int} {t : Tok} {r : Option Value} (X : (KF P).In s.heap) (e : Look c r) (h : Q (r.getD .none) { s with toks := s.toks + 1 }) :
    wpAny (model prog w) A (call (.builtin "dict.get") [.ref 81, .int c t]) Q E s := by
  obtain ⟨e⟩ := e
  subst e
  exact call_meetsIn PySem.F.slot_dict_get ⟨o81v0 P, X 81 (o81v0 P) rfl, rfl⟩ PySem.F.entry_dict_get (PySem.F.args_dict_get_2 _ _) (meets_dict_get (intKind prog w) 81 (intKind_is _ _ _ _) rfl) ⟨_, b3_mapOf X, h⟩
local macro_rules | `(tactic| walk_at "getMethod ref") => `(tactic| (k_here; (with_reducible show wpAny _ _ (getMethod (Value.ref 81) (Str.ofString "get") _) _ _ _); (refine gm_get (P := World.params _) (by k_in) ?_)))
local macro_rules | `(tactic| walk_at "call builtin:dict.get") => `(tactic| (k_here; (with_reducible show wpAny _ _ (call (Value.builtin "dict.get") [Value.ref 81, _]) _ _ _); (refine call_get (P := World.params _) (by k_in) (by assumption) ?_); (try simp only [Option.getD_none, Option.getD_some])))
theorem c_b3 {w : World} {A : Around} {E : Value → Shared → Prop} {s : Shared} {mg mb : Str → Option Value} {mean : ExcName → Option Value} {Q : Value → Shared → Prop} {c : Nat} {t : Tok}
    (X : (KF w.params).In s.heap) (T : Top vw (looseW vw lsn) mean mg mb s.heap) (hroom : A.depth < 900) (hc : c ∈ sigma)
    (h : ∀ r t' h' tk, Keeps' s.heap h' → r.cps.toList = foldC c → Q (.str r t') { s with heap := h', toks := tk }) :
    wpAny (model pw w) A (call (.ref 126) [.str ⟨#[c]⟩ t]) Q E s := by
  have hfrag : rw_re0099_01 = rw_re0099_01 ∧ KF = KF := by (k_fill; exact ⟨rfl, rfl⟩)
  clear hfrag
  refine enter (binds := [(Str.ofString "code", .str ⟨#[c]⟩ t)]) X T (by exact rfl) (by k_is) (Nat.lt_of_lt_of_le hroom (by decide)) (BindsTo.of_eq rfl) (locs rfl) ?_ rfl rfl rfl (by decide +kernel)
  intro L' h' F' N'
  rcases b3_str c with hn | ⟨v, tv, hv⟩
  · have hs := Hid'.mk (b3_none hc hn)
    replace hn := Look.mk hn
    k_steps
    refine SCL.lower ?_ (fun _ => h _ _ _ _ (Fr.keep (by assumption)) hs.e)
    show 1 ≤ 5592405
    decide
  · have hs := Hid'.mk (b3_some hc hv)
    replace hv := Look.mk hv
    k_steps
    exact h _ _ _ _ (Fr.keep (by assumption)) hs.e
end
theorem one_eq (c d : Nat) : ((⟨#[c]⟩ : Str) == ⟨#[d]⟩) = decide (c = d) := by
  by_cases e : c = d
  · subst e; simp
  · rw [decide_eq_false e]
    rw [beq_eq_false_iff_ne]
    intro h
    injection h with h
    exact e (by simpa using h)
theorem ofs_zw : Str.ofString "\u200b" = ⟨#[8203]⟩ := by decide +kernel
theorem ofs_shy : Str.ofString "\u00ad" = ⟨#[173]⟩ := by decide +kernel
theorem ofs_co : Str.ofString "\u33c7" = ⟨#[13255]⟩ := by decide +kernel
theorem ofs_ss : Str.ofString "\u00df" = ⟨#[223]⟩ := by decide +kernel
theorem ofs_io : Str.ofString "\u037a" = ⟨#[890]⟩ := by decide +kernel
theorem ofs_K : Str.ofString "K" = ⟨#[75]⟩ := by decide +kernel
/-- what the law's own folding gives -/
noncomputable def lfold (c : Nat) : List Nat := if c = 8203 then [] else if c = 173 then [] else if c = 13255 then [99, 111, 46] else if c = 223 then [115, 115] else if c = 890 then [32, 953] else if c = 75 then [107] else [c]
theorem c_folded {w : World} {A : Around} {E : Value → Shared → Prop} {s : Shared} {mg mb : Str → Option Value} {mean : ExcName → Option Value} {Q : Value → Shared → Prop} {c : Nat} {t : Tok}
    (X : (KF w.params).In s.heap) (T : Top vw (looseW vw lsn) mean mg mb s.heap) (hroom : A.depth < 900)
    (h : ∀ r t' h' tk, Keeps' s.heap h' → r.cps.toList = lfold c → Q (.str r t') { s with heap := h', toks := tk }) :
    wpAny (model pw w) A (call (.ref 133) [.str ⟨#[c]⟩ t]) Q E s := by
  refine enter (binds := [(Str.ofString "sign", .str ⟨#[c]⟩ t)]) X T (by exact rfl) (by k_is) (Nat.lt_of_lt_of_le hroom (by decide)) (BindsTo.of_eq rfl) (locs rfl) ?_ rfl rfl rfl (by decide +kernel)
  intro L' h' F' N'
  k_steps
  all_goals (refine h _ _ _ _ (Fr.keep (by assumption)) ?_; clear h F' N' X T)
  all_goals (simp only [ofs_zw, ofs_shy, ofs_co, ofs_ss, ofs_io, ofs_K, one_eq, decide_eq_true_eq, decide_eq_false_iff_not] at *; simp only [lfold, *])
  all_goals (first | decide +kernel | rfl | simp)
end Mine
end

section
open PySem PySem.W PySem.Calls PyProof.Rows PySem.Challenge
namespace Mine
set_option maxRecDepth 100000
section
variable {prog : Program} {w : World} {A : Around} {E : Value → Shared → Prop} {s : Shared} {K : Frag} {mg mb : Str → Option Value} {p : Program} {loose : List Str} {mean : ExcName → Option Value} {Q : Value → Shared → Prop}
theorem enterC {name qual : Str} {params : Arguments} {body : List Stmt} {scope : Scope} {dV kV doc pm cdv ct oc : Value} {an od : Option Addr} {osl : Array (Option Value)} {f : Addr} {args : List Value} {binds : List (Str × Value)}
    (X : K.In s.heap) (T : Top p loose mean mg mb s.heap)
    (ho : K.lookup f = some ⟨oc, od, .func (fnOf name qual params body scope dV kV doc pm an cdv ct), osl⟩) (hcd : codeIn K cdv qual = true) (hroom : A.depth < recursionLimit)
    (hbind : BindsTo s (fnOf name qual params body scope dV kV doc pm an cdv ct) ⟨args, []⟩ binds)
    (hkind : (binds.all fun y => scope.names.lookup y.1 == some .local || scope.names.lookup y.1 == some .cell) = true)
    (hnd : ((cellsFrom 0 scope.names []).map (·.1)).Nodup)
    (h : ∀ L' h₁ tk cells, Fr s.heap L' h₁ (bindL (envOfC qual scope L' f cdv).kindOf binds fun _ => none) → News s.heap L' h₁ cells →
      CellsAre (bindC (envOfC qual scope L' f cdv).kindOf binds fun _ => none) (cellsFrom (L' + 1) scope.names []) cells →
      wpAny (model prog w) (A.deeper (envOfC qual scope L' f cdv)) (execs body (envOfC qual scope L' f cdv))
        (fun fl s' => Q (match fl with | .ret v => v | _ => .none) s') (fun _ _ => False) { s with heap := h₁, toks := tk })
    (hco : scope.isCoroutine = false) (hgen : scope.isGenerator = false) (hk : scope.kind = .function) : wpAny (model prog w) A (call (.ref f) args) Q E s := by
  refine wpAny_call (codeAny_call_function (fd := fnX name qual params body scope [] dV kV doc pm an cdv ct) hroom (X _ _ ho) rfl hco hgen rfl (codeRec_of X hcd) (hbind _ _ _ _ ?_))
  refine wpAny_newFunctionEnv_cells hk (kindsX hkind _) fun env' he s' x => ?_
  subst he
  refine ⟨T.nolimit.keeps x.toInCall.keep, codeAny_func ?_⟩
  obtain ⟨h₁, tk, rfl, _⟩ := x.done
  have hk₁ := x.toInCall.keep
  obtain ⟨cells, NC, Y⟩ := Cl.news (h₀ := s.heap) (Nat.le_refl _) fun n c hm => ⟨x.cell n c (lookup_of_mem_nodup (cellsFrom_names scope.names 0 (s.heap.objs.size + 1) [] [] rfl ▸ hnd) hm), x.above n c hm⟩
  exact wpAny_mono (h s.heap.objs.size h₁ tk cells ⟨x.toInCall.ns, fun b o e => hk₁ b o e, Nat.le_refl _⟩ (fun p hp => NC p hp) Y) (fun fl s' hl => hl) fun _ _ y => y.elim
end
end Mine
end

section
open PySem PySem.W PySem.Calls PyProof.Rows PySem.Challenge PyProof.V PySem.Spec
namespace Mine
set_option maxRecDepth 100000
section
variable {prog : Program} {w : World} {A : Around} {E : Value → Shared → Prop} {s : Shared} {env : Env} {h₀ : Heap} {x : Str} {body : List Stmt} {Q : Flow → Shared → Prop}

/-- a turn's end: what the loop needs, or the way out -/
noncomputable def GEnd (h₀ : Heap) (L : Addr) (J : (Str → Option Value) → List (Addr × Obj) → Prop) (I : Addr) (oI : Obj) (s₁ s₂ : Shared) : Prop :=
  ∃ h' tk m' nx, s₂ = { s₁ with heap := h', toks := tk } ∧ Fr h₀ L h' m' ∧ News h₀ L h' ((I, oI) :: nx) ∧ (∀ p ∈ nx, p.1 ≠ I) ∧ J m' nx
noncomputable def GPost (h₀ : Heap) (L : Addr) (J : (Str → Option Value) → List (Addr × Obj) → Prop) (I : Addr) (oI : Obj) (s₁ : Shared) (Q : Flow → Shared → Prop) (f : Flow) (s₂ : Shared) : Prop :=
  match f with
  | .ret v => Q (.ret v) s₂
  | .brk => Q .next s₂
  | _ => GEnd h₀ L J I oI s₁ s₂

theorem loop_gen {I : Addr} {fp : List Addr} {n : Nat} {P : Nat → Value → Prop} {St : Nat → Heap → Prop} {m₀ : Str → Option Value} {news : List (Addr × Obj)} (J : Nat → (Str → Option Value) → List (Addr × Obj) → Prop)
    (W : Walks prog w A I fp [I] n P St) (hI0 : h₀.get? I = none) (hob : ∀ i h, St i h → ∃ o, h.get? I = some o)
    (hfp : ∀ b ∈ fp, b = I ∨ (∃ q, h₀.get? b = some q) ∨ ∃ o, ∀ i m nx, J i m nx → (b, o) ∈ nx)
    (hLf : env.locals ∉ fp) (hnw : ∀ p ∈ news, p.1 ≠ I) (hst : St 0 s.heap) (F : Fr h₀ env.locals s.heap m₀) (N : News h₀ env.locals s.heap news) (hj : J 0 m₀ news)
    (turn : ∀ i v m₁ news₁ h tk oI, i < n → P i v → J i m₁ news₁ → (∀ p ∈ news₁, p.1 ≠ I) → Fr h₀ env.locals h (fun y => if y = x then some v else m₁ y) → News h₀ env.locals h ((I, oI) :: news₁) →
      wpAny (model prog w) A (execs body env) (GPost h₀ env.locals (J (i + 1)) I oI { s with heap := h, toks := tk } Q) E { s with heap := h, toks := tk })
    (done : ∀ m₁ news₁ h tk, J n m₁ news₁ → Fr h₀ env.locals h m₁ → News h₀ env.locals h news₁ → Q .next { s with heap := h, toks := tk }) :
    LoopAtV prog w A h₀ env x body Q E (.ref I) s := by
  refine ⟨I, fp, [I], n, P, St, m₀, news, J, rfl, W, hLf, ?_, ?_, hst, F, N, hj, ?_, ?_⟩
  · intro b hb; rw [List.mem_singleton.mp hb]; exact hI0
  · intro p hp hI; exact hnw p hp (List.mem_singleton.mp hI)
  · rintro i v m₁ news₁ s₁ own ⟨hh', tk', rfl⟩ hin hP hJ hoff hown hget hall hst' F₁ N₁
    obtain ⟨o, ho⟩ := hob _ _ hst'
    have hIf : I ∈ fp := W.sub I (List.mem_singleton.mpr rfl)
    have hio : (I, o) ∈ own := hall I hIf hI0 o ho
    have hoff' : ∀ p ∈ news₁, p.1 ≠ I := fun p hp e => hoff p hp (List.mem_singleton.mpr e)
    have N₂ : News h₀ env.locals hh' ((I, o) :: news₁) := fun p hp => by
      rcases List.mem_cons.mp hp with rfl | hp
      · exact N₁ _ (List.mem_append_left _ hio)
      · exact N₁ _ (List.mem_append_right _ hp)
    refine wpAny_mono (turn i v m₁ news₁ hh' tk' o hin hP hJ hoff' F₁ N₂) (fun f s₂ p => ?_) fun _ _ e => e
    have fin : GEnd h₀ env.locals (J (i + 1)) I o { s with heap := hh', toks := tk' } s₂ → LoopStepU h₀ env.locals [I] own (J (i + 1)) { s with heap := hh', toks := tk' } .next s₂ := by
      rintro ⟨h', tk, m', nx, e, F', N', hn, hm⟩
      refine ⟨rfl, h', tk, m', nx, e, F', fun p hp => ?_, fun p hp hq => hn p hp (List.mem_singleton.mp hq), hm⟩
      rcases List.mem_append.mp hp with hp | hp
      · have z := N₁ p (List.mem_append_left _ hp)
        rcases hfp p.1 (hown p hp) with e1 | ⟨q, hq⟩ | ⟨ob, hob'⟩
        · have e2 : p = (I, o) := by
            have h4 := z.1
            rw [e1, ho] at h4
            exact Prod.ext e1 (Option.some.inj h4).symm
          rw [e2]; exact N' _ List.mem_cons_self
        · rw [z.2.2] at hq; cases hq
        · have h5 := N₁ _ (List.mem_append_right _ (hob' _ _ _ hJ))
          have e2 : p = (p.1, ob) := by
            have h4 := z.1
            have h6 := h5.1
            dsimp only at h6
            rw [h4] at h6
            exact Prod.ext rfl (Option.some.inj h6)
          rw [e2]; exact N' _ (List.mem_cons_of_mem _ (hob' _ _ _ hm))
      · exact N' p (List.mem_cons_of_mem _ hp)
    cases f with
    | ret v => exact .ret p
    | brk => exact .brk p
    | next => exact .next (fin p)
    | cont => exact .cont (fin p)
  · rintro h' tk m' news' F' N' _ hJ
    exact done m' news' h' tk hJ F' N'

theorem iter_range {r : Addr} {b₀ : Int} {t₀ u₀ v₀ : Tok} {n : Nat} {m₀ : Str → Option Value} {news : List (Addr × Obj)} (J : Nat → (Str → Option Value) → List (Addr × Obj) → Prop)
    (hh : A.handled = none) (hr : IsRange s.heap r 0 b₀ 1 t₀ u₀ v₀) (hsmall : Builtin.Range.small 0 b₀ 1 = true) (hn : Builtin.Range.rangeSize 0 b₀ 1 = (n : Int)) (F : Fr h₀ env.locals s.heap m₀) (N : News h₀ env.locals s.heap news) (hj : J 0 m₀ news)
    (turn : ∀ (i : Nat) t m₁ news₁ h tk I oI, i < n → J i m₁ news₁ → (∀ p ∈ news₁, p.1 ≠ I) → Fr h₀ env.locals h (fun y => if y = x then some (.int (i : Int) t) else m₁ y) → News h₀ env.locals h ((I, oI) :: news₁) →
      wpAny (model prog w) A (execs body env) (GPost h₀ env.locals (J (i + 1)) I oI { s with heap := h, toks := tk } Q) E { s with heap := h, toks := tk })
    (done : ∀ m₁ news₁ h tk, J n m₁ news₁ → Fr h₀ env.locals h m₁ → News h₀ env.locals h news₁ → Q .next { s with heap := h, toks := tk }) :
    wpAny (model prog w) A (pyIter (.ref r)) (fun it s₂ => LoopAtV prog w A h₀ env x body Q E it s₂) E s := by
  refine wpAny_pyIter_range hr hsmall ?_
  have W : Walks prog w A s.heap.objs.size [s.heap.objs.size] [s.heap.objs.size] n (fun i v => i < n ∧ ∃ t, v = .int (0 + i * 1) t)
      (fun i h => IsRangeIter h s.heap.objs.size (0 + (i : Nat) * 1) ((n : Int) - (i : Nat)) 1) := (Walks.range hh _ 0 1 n).bound
  refine loop_gen J W (next_is_new F) (fun i h hs => ⟨_, hs⟩) (fun b hb => .inl (List.mem_singleton.mp hb)) ?_ ?_ (by show IsRangeIter _ _ _ _ _; rw [hn]; simpa using Heap.get?_push_size _ rfl) (F.push _) (fun p hp => ⟨Heap.get?_push_of_some _ (N p hp).1, (N p hp).2⟩) hj ?_ ?_
  · intro hm
    exact absurd F.ns.lt ((List.mem_singleton.mp hm) ▸ Nat.lt_irrefl _)
  · intro p hp hI
    exact absurd (Heap.lt_size (N p hp).1) (hI ▸ Nat.lt_irrefl _)
  · rintro i v m₁ news₁ h tk oI hi ⟨_, t, rfl⟩ hJ hoff F₁ N₁
    rw [show (0 : Int) + (i : Int) * 1 = (i : Int) by omega] at F₁
    exact turn i t m₁ news₁ h tk _ oI hi hJ hoff F₁ N₁
  · exact done

theorem iter_made {ax : Addr} {its : Array Value} {ob : Obj} {m₀ : Str → Option Value} {news : List (Addr × Obj)} (J : Nat → (Str → Option Value) → List (Addr × Obj) → Prop)
    (hh : A.handled = none) (hc : ob.cls = .type "list") (hd : ∃ k, ob.data = .seq its k) (F : Fr h₀ env.locals s.heap m₀) (N : News h₀ env.locals s.heap news) (hj : J 0 m₀ news) (hJ : ∀ i m nx, J i m nx → (ax, ob) ∈ nx)
    (turn : ∀ (i : Nat) v m₁ news₁ h tk I oI, i < its.size → its[i]? = some v → J i m₁ news₁ → (∀ p ∈ news₁, p.1 ≠ I) → Fr h₀ env.locals h (fun y => if y = x then some v else m₁ y) → News h₀ env.locals h ((I, oI) :: news₁) →
      wpAny (model prog w) A (execs body env) (GPost h₀ env.locals (J (i + 1)) I oI { s with heap := h, toks := tk } Q) E { s with heap := h, toks := tk })
    (done : ∀ m₁ news₁ h tk, J its.size m₁ news₁ → Fr h₀ env.locals h m₁ → News h₀ env.locals h news₁ → Q .next { s with heap := h, toks := tk }) :
    wpAny (model prog w) A (pyIter (.ref ax)) (fun it s₂ => LoopAtV prog w A h₀ env x body Q E it s₂) E s := by
  have hm := hJ _ _ _ hj
  have hls : s.heap.IsList ax its := ⟨ob, (N _ hm).1, hc, hd⟩
  have hlt : ax < s.heap.objs.size := Heap.lt_size (N _ hm).1
  have hne : ax ≠ s.heap.objs.size := Nat.ne_of_lt hlt
  refine wpAny_pyIter_list hls ?_
  have W := Walks.list (prog := prog) (w := w) hh s.heap.objs.size ax hne its
  refine loop_gen J W (next_is_new F) (fun i h hs => by obtain ⟨⟨o, ho, _⟩, _⟩ := hs; exact ⟨o, ho⟩) (fun b hb => ?_) ?_ ?_ ⟨⟨_, Heap.get?_push_size _ rfl, rfl, rfl⟩, hls.at fun o e => Heap.get?_push_of_some _ e⟩ (F.push _) (fun p hp => ⟨Heap.get?_push_of_some _ (N p hp).1, (N p hp).2⟩) hj ?_ done
  · rcases List.mem_cons.mp hb with e | hb
    · exact .inl e
    · rw [List.mem_singleton.mp hb]
      exact .inr (.inr ⟨ob, hJ⟩)
  · intro hq
    rcases List.mem_cons.mp hq with e | hq
    · exact absurd F.ns.lt (e ▸ Nat.lt_irrefl _)
    · exact (N _ hm).2.1 (List.mem_singleton.mp hq).symm
  · intro p hp hI
    exact absurd (Heap.lt_size (N p hp).1) (hI ▸ Nat.lt_irrefl _)
  · intro i v m₁ news₁ h tk oI hi hP hJ' hoff F₁ N₁
    exact turn i v m₁ news₁ h tk _ oI hi hP hJ' hoff F₁ N₁
end
end Mine
end

section
open PySem PySem.W PySem.Calls PyProof.Rows PySem.Challenge PyProof.V PySem.Spec
namespace Mine
set_option maxRecDepth 100000
inductive Rel2 {α : Type} (R : α → Value → Prop) : List Value → List α → Prop
  | nil : Rel2 R [] []
  | cons {y : Value} {i : α} {ys : List Value} {is : List α} : R i y → Rel2 R ys is → Rel2 R (y :: ys) (i :: is)
theorem Rel2.snoc {α : Type} {R : α → Value → Prop} {y : Value} {i : α} : ∀ {ys : List Value} {is : List α}, Rel2 R ys is → R i y → Rel2 R (ys ++ [y]) (is ++ [i])
  | _, _, .nil, h => .cons h .nil
  | _, _, .cons a r, h => .cons a (r.snoc h)
theorem Rel2.len {α : Type} {R : α → Value → Prop} : ∀ {ys : List Value} {is : List α}, Rel2 R ys is → ys.length = is.length
  | _, _, .nil => rfl
  | _, _, .cons _ r => by simp [r.len]
theorem Rel2.get {α : Type} {R : α → Value → Prop} : ∀ {ys : List Value} {is : List α} (_ : Rel2 R ys is) (k : Nat) {y : Value}, ys[k]? = some y → ∃ i, is[k]? = some i ∧ R i y
  | _, _, .nil, k, y, e => by simp at e
  | _, _, .cons a r, 0, y, e => by simp at e; subst e; exact ⟨_, rfl, a⟩
  | _, _, .cons a r, k + 1, y, e => by simp at e; obtain ⟨i, e1, e2⟩ := r.get k e; exact ⟨i, by simpa using e1, e2⟩
theorem Rel2.at {α : Type} {R : α → Value → Prop} {ys : List Value} {is : List α} (x : Rel2 R ys is) (k : Nat) {i : α} (e : is[k]? = some i) : ∃ y, ys[k]? = some y ∧ R i y := by
  have hk : k < is.length := by
    rcases Nat.lt_or_ge k is.length with h | h
    · exact h
    · rw [List.getElem?_eq_none h] at e; cases e
  have hk' : k < ys.length := by rw [x.len]; exact hk
  obtain ⟨i', e1, e2⟩ := x.get k (List.getElem?_eq_getElem hk')
  rw [e] at e1; cases e1
  exact ⟨_, List.getElem?_eq_getElem hk', e2⟩
theorem Rel2.map {α β : Type} {R : α → Value → Prop} {R' : β → Value → Prop} {f : α → β} (hR : ∀ i y, R i y → R' (f i) y) : ∀ {ys : List Value} {is : List α}, Rel2 R ys is → Rel2 R' ys (is.map f)
  | _, _, .nil => .nil
  | _, _, .cons a r => .cons (hR _ _ a) (r.map hR)
theorem Rel2.app {α : Type} {R : α → Value → Prop} : ∀ {ys zs : List Value} {is js : List α}, Rel2 R ys is → Rel2 R zs js → Rel2 R (ys ++ zs) (is ++ js)
  | _, _, _, _, .nil, h => h
  | _, _, _, _, .cons a r, h => .cons a (r.app h)
theorem Rel2.imp {α : Type} {R R' : α → Value → Prop} {ys : List Value} {is : List α} (x : Rel2 R ys is) (h : ∀ i y, R i y → R' i y) : Rel2 R' ys is := by
  have := x.map (f := id) (R' := R') h
  rwa [List.map_id] at this
theorem Rel2.ints {ys : List Value} {is : List Int} (x : Rel2 (fun i y => ∃ t, y = .int i t) ys is) : IntsAre ys is := by
  induction x with
  | nil => exact .nil
  | cons h _ ih => obtain ⟨t, rfl⟩ := h; exact .cons _ _ ih
theorem rel_ints {ys : List Value} {is : List Int} (x : IntsAre ys is) : Rel2 (fun i y => ∃ t, y = .int i t) ys is := by
  induction x with
  | nil => exact .nil
  | cons i t _ ih => exact .cons ⟨t, rfl⟩ ih
/-- a list's values are signs -/
noncomputable abbrev Signs (ys : List Value) (cs : List Nat) : Prop := Rel2 (fun c y => ∃ t, y = .str ⟨#[c]⟩ t) ys cs

section
variable {prog : Program} {w : World} {A : Around} {s : Shared} {h₀ : Heap} {L : Addr} {m : Str → Option Value} {env : Env} {elt ct : Expr} {x : Str} {scope : Scope} {cl : List (Str × Addr)} {S : List (Addr × Obj) → Prop} {P : Nat → Value → Prop} {Fin : List Value → List (Addr × Obj) → Prop} {news : List (Addr × Obj)}
theorem rest_U {n : Nat} (R : Nat → Value → Prop)
    (turn : ∀ i v I oI C oC D m₂ ys h tk (E' : Value → Shared → Prop), i < n → P i v → LCg.NsObj oC m₂ → m₂ x = some v → Fr h₀ L h m → News h₀ L h ((I, oI) :: (C, oC) :: (D, LCg.lst ys) :: news) → LCg.Off3 I C D news → ((@Ne Nat I C) ∧ (@Ne Nat I D) ∧ (@Ne Nat C D)) →
      wpAny (model prog w) A (eval elt (compEnvC scope cl C env)) (LCg.CompEnd h₀ L m { s with heap := h, toks := tk } I oI C oC D (LCg.lst ys) S (fun y news' => news' = news ∧ R i y)) E' { s with heap := h, toks := tk })
    (fin : ∀ ys, Rel2 R ys (List.range n) → Fin ys news) : LCg.CompRest prog w A h₀ L m env elt x scope cl s S P Fin n 0 [] news := by
  have key : ∀ (j i : Nat) (ys : List Value), i + j = n → Rel2 R ys (List.range i) → LCg.CompRest prog w A h₀ L m env elt x scope cl s S P Fin j i ys news := by
    intro j
    induction j with
    | zero =>
      intro i ys hi hy
      have e : i = n := by omega
      subst e
      exact LCg.CompRest.zero (fin ys hy)
    | succ j ih =>
      intro i ys hi hy
      refine LCg.CompRest.succ ?_
      intro v I oI C oC D m₂ h tk E' hv hC hx F N off ne
      refine wpAny_mono (turn i v I oI C oC D m₂ ys h tk E' (by omega) hv hC hx F N off ne) (fun y s₂ hq => ?_) fun _ _ e => e
      obtain ⟨h', tk', nw, e, F', N', off', hS, hn, hy'⟩ := hq
      rw [hn] at N' off' hS
      refine ⟨h', tk', news, e, F', N', off', hS, ih (i + 1) _ (by omega) ?_⟩
      rw [List.range_succ]
      exact hy.snoc hy'
  exact key n 0 [] (by omega) .nil
/-- a comprehension with one test -/
theorem rest_T {n : Nat} (p : Nat → Bool) (R : Nat → Value → Prop)
    (turn : ∀ i v I oI C oC D m₂ ys h tk (E' : Value → Shared → Prop), i < n → P i v → LCg.NsObj oC m₂ → m₂ x = some v → Fr h₀ L h m → News h₀ L h ((I, oI) :: (C, oC) :: (D, LCg.lst ys) :: news) → LCg.Off3 I C D news → ((@Ne Nat I C) ∧ (@Ne Nat I D) ∧ (@Ne Nat C D)) →
      wpAny (model prog w) A (isTrue ct (compEnvC scope cl C env) (eval ct (compEnvC scope cl C env))) (fun ok s' => ok = p i ∧ if ok = true then
        wpAny (model prog w) A (eval elt (compEnvC scope cl C env)) (LCg.CompEnd h₀ L m { s with heap := h, toks := tk } I oI C oC D (LCg.lst ys) S (fun y news' => news' = news ∧ R i y)) E' s'
        else LCg.CompEnd h₀ L m { s with heap := h, toks := tk } I oI C oC D (LCg.lst ys) S (fun _ news' => news' = news) Value.none s') E' { s with heap := h, toks := tk })
    (fin : ∀ ys, Rel2 R ys ((List.range n).filter p) → Fin ys news) : LCt.CompRestT prog w A h₀ L m env ct elt x scope cl s S P Fin n 0 [] news := by
  have key : ∀ (j i : Nat) (ys : List Value), i + j = n → Rel2 R ys ((List.range i).filter p) → LCt.CompRestT prog w A h₀ L m env ct elt x scope cl s S P Fin j i ys news := by
    intro j
    induction j with
    | zero =>
      intro i ys hi hy
      have e : i = n := by omega
      subst e
      exact LCt.CompRestT.zero (fin ys hy)
    | succ j ih =>
      intro i ys hi hy
      refine LCt.CompRestT.succ ?_
      intro v I oI C oC D m₂ h tk E' hv hC hx F N off ne
      refine wpAny_mono (turn i v I oI C oC D m₂ ys h tk E' (by omega) hv hC hx F N off ne) (fun ok s₂ hq => ?_) fun _ _ e => e
      obtain ⟨hp, hq⟩ := hq
      cases ok with
      | true =>
        simp only [if_true] at hq ⊢
        refine wpAny_mono hq (fun y s₃ h₃ => ?_) fun _ _ e => e
        obtain ⟨h', tk', nw, e, F', N', off', hS, hn, hy'⟩ := h₃
        rw [hn] at N' off' hS
        refine ⟨h', tk', news, e, F', N', off', hS, ih (i + 1) _ (by omega) ?_⟩
        rw [List.range_succ, List.filter_append, List.filter_cons, if_pos hp.symm, List.filter_nil]
        exact hy.snoc hy'
      | false =>
        simp only [Bool.false_eq_true, if_false] at hq ⊢
        obtain ⟨h', tk', nw, e, F', N', off', hS, hn⟩ := hq
        rw [hn] at N' off' hS
        refine ⟨h', tk', news, e, F', N', off', hS, ih (i + 1) _ (by omega) ?_⟩
        rw [List.range_succ, List.filter_append, List.filter_cons, if_neg (by rw [← hp]; exact Bool.false_ne_true), List.filter_nil, List.append_nil]
        exact hy
  exact key n 0 [] (by omega) .nil
end
end Mine
end

section
set_option maxHeartbeats 4000000
open PySem PySem.W PySem.Calls PyProof.Rows PySem.Challenge PyProof.V PySem.Spec
set_option maxRecDepth 100000
namespace Mine
noncomputable abbrev envTd (L : Addr) : Env := envOfC (Str.ofString "_law_told") (fnScope 16) L 138 (.ref 137)
noncomputable def stT (i : Nat) : Stmt := ((fnBody 16)[i]?).getD (.Pass default)
local macro_rules | `(tactic| k_mem) => `(tactic| assumption)
noncomputable def idxs (ns : List Int) (p : Int → Bool) : List Nat := (List.range ns.length).filter fun i => p (ns.getD i 0)
/-- ints -/
noncomputable abbrev NatsAre (vs : List Value) (is : List Nat) : Prop := Rel2 (fun (i : Nat) y => ∃ t, y = .int (i : Int) t) vs is
section
variable {w : World} {A : Around} {E : Value → Shared → Prop} {s : Shared} {g : Heap} {L : Addr} {m : Str → Option Value} {news : List (Addr × Obj)} {mg mb : Str → Option Value} {mean : ExcName → Option Value} {Q : Flow → Shared → Prop} {lS lR aU : Addr} {vS vR : List Value} {cs : List Nat} {ns : List Int} {oR oU : Obj}
theorem s_marks (hh : A.handled = none) (X : (KF w.params).In g) (T : Top vw (looseW vw lsn) mean mg mb g) (F : Fr g L s.heap m) (N : News g L s.heap news)
    (hR : g.IsList lR vR.toArray) (iR : IntsAre vR ns) (hn : ns.length ≤ 8) (hc : (L + 1, oR) ∈ news) (dR : oR.data = .cell (some (.ref lR)))
    (next : ∀ D vs h' tk, NatsAre vs (idxs ns (· == 2)) → Fr g L h' (fun z => if z = Str.ofString "marks" then some (.ref D) else m z) → News g L h' ((D, LCg.lst vs) :: news) → LCg.Off1 D news → Q .next { s with heap := h', toks := tk }) :
    wpAny (model pw w) A (exec (stT 2) (envTd L)) Q (fun _ _ => False) s := by
  have hfrag : rw_re0099_01 = rw_re0099_01 ∧ KF = KF := by (k_fill; exact ⟨rfl, rfl⟩)
  clear hfrag
  with_unfolding_all refine LCt.Assign_ListComp_T (F₀ := F) (by rfl) (by with_unfolding_all rfl) (by with_unfolding_all rfl) (by decide) (by rfl) (by decide) (by rfl) (by rfl) (by rfl) ?_
  k_steps
  refine LCt.CompSrcT.range (n := ns.length) hh (by assumption) (by assumption) (by assumption) (by first | decide | exact small_one (by l_bnd) (by l_bnd) (by l_bnd) (by l_bnd)) (rangeSize_nat _ _) (Nat.le_trans hn (by decide)) fun g' => ?_
  refine rest_T (fun i => (· == 2) (ns.getD i 0)) (fun i y => ∃ t, y = .int (i : Int) t) (fun i v I oI C oC D m₂ ys h tk E' hi hv hC hx F N off ne => ?_) (fun ys hy D h tk F N o1 => ?_)
  · obtain ⟨t, rfl⟩ := hv
    rw [Int.zero_add] at hx
    k_steps
    all_goals (try rw [Int.toNat_natCast] at *)
    all_goals first
      | exact LCg.CompEnd.intro F N news (fun p hp => hp) off trivial ⟨rfl, _, rfl⟩
      | exact LCg.CompEnd.intro F N news (fun p hp => hp) off trivial rfl
      | simp_all
  · exact next D ys h tk hy F N o1
theorem s_mends (hh : A.handled = none) (X : (KF w.params).In g) (T : Top vw (looseW vw lsn) mean mg mb g) (F : Fr g L s.heap m) (N : News g L s.heap news)
    (hR : g.IsList lR vR.toArray) (iR : IntsAre vR ns) (hn : ns.length ≤ 8) (hc : (L + 1, oR) ∈ news) (dR : oR.data = .cell (some (.ref lR)))
    (next : ∀ D vs h' tk, NatsAre vs (idxs ns (fun d => d == 1 || d == 3)) → Fr g L h' (fun z => if z = Str.ofString "mends" then some (.ref D) else m z) → News g L h' ((D, LCg.lst vs) :: news) → LCg.Off1 D news → Q .next { s with heap := h', toks := tk }) :
    wpAny (model pw w) A (exec (stT 3) (envTd L)) Q (fun _ _ => False) s := by
  have hfrag : rw_re0099_01 = rw_re0099_01 ∧ KF = KF := by (k_fill; exact ⟨rfl, rfl⟩)
  clear hfrag
  with_unfolding_all refine LCt.Assign_ListComp_T (F₀ := F) (by rfl) (by with_unfolding_all rfl) (by with_unfolding_all rfl) (by decide) (by rfl) (by decide) (by rfl) (by rfl) (by rfl) ?_
  k_steps
  refine LCt.CompSrcT.range (n := ns.length) hh (by assumption) (by assumption) (by assumption) (by first | decide | exact small_one (by l_bnd) (by l_bnd) (by l_bnd) (by l_bnd)) (rangeSize_nat _ _) (Nat.le_trans hn (by decide)) fun g' => ?_
  refine rest_T (fun i => (fun d => d == 1 || d == 3) (ns.getD i 0)) (fun i y => ∃ t, y = .int (i : Int) t) (fun i v I oI C oC D m₂ ys h tk E' hi hv hC hx F N off ne => ?_) (fun ys hy D h tk F N o1 => ?_)
  · obtain ⟨t, rfl⟩ := hv
    rw [Int.zero_add] at hx
    k_steps
    all_goals (try rw [Int.toNat_natCast] at *)
    all_goals first
      | exact LCg.CompEnd.intro F N news (fun p hp => hp) off trivial ⟨rfl, _, rfl⟩
      | exact LCg.CompEnd.intro F N news (fun p hp => hp) off trivial rfl
      | simp_all
  · exact next D ys h tk hy F N o1
end
end Mine
end

section
set_option maxHeartbeats 4000000
open PySem PySem.W PySem.Calls PyProof.Rows PySem.Challenge PyProof.V PySem.Spec
set_option maxRecDepth 100000
namespace Mine
local macro_rules | `(tactic| k_mem) => `(tactic| assumption)
local macro_rules | `(tactic| walk_at "eval Name") => `(tactic| (k_here; k_dflt (refine' nameX_L ?F ?v ?_ ?a ?b; (case F => k_asm); (case a => rfl); (case b => rfl); (case v => (try dsimp only); first | assumption | exact rfl | (refine (if_neg (by decide)).trans ?_; first | assumption | exact rfl | (refine (if_neg (by decide)).trans ?_; first | assumption | exact rfl | (refine (if_neg (by decide)).trans ?_; first | assumption | exact rfl | (refine (if_neg (by decide)).trans ?_; first | assumption | exact rfl | (refine (if_neg (by decide)).trans ?_; assumption)))))); k_whole)))
local macro_rules | `(tactic| walk_at "getMethod ref") => `(tactic| (k_here; (with_reducible show wpAny _ _ (getMethod (Value.ref _) (Str.ofString "index") _) _ _ _); with_unfolding_all refine getMethod_list_of PySem.F.slot_list_index PySem.F.type_list_index (by is_list) (Heap.NoDictAt.keeps (Fr.keep (by assumption)) (by assumption)) ?_))
section
variable {w : World} {A : Around} {E : Value → Shared → Prop} {s : Shared} {g : Heap} {L : Addr} {m : Str → Option Value} {news : List (Addr × Obj)} {mg mb : Str → Option Value} {mean : ExcName → Option Value} {Q : Flow → Shared → Prop} {lS lR aU : Addr} {vS vR : List Value} {cs : List Nat} {ns : List Int} {oR oU : Obj}
theorem idxOf_absent {ns : List Int} (h : (ns.any fun x => x == 0) = false) : ns.idxOf 0 = ns.length := by
  refine List.idxOf_eq_length fun hm => ?_
  have : (ns.any fun x => x == 0) = true := List.any_eq_true.mpr ⟨0, hm, rfl⟩
  rw [h] at this; cases this
theorem s_first (hh : A.handled = none) (X : (KF w.params).In g) (T : Top vw (looseW vw lsn) mean mg mb g) (F : Fr g L s.heap m) (N : News g L s.heap news)
    (hR : g.IsList lR vR.toArray) (dictR : g.NoDictAt (.ref lR)) (iR : IntsAre vR ns) (hn : ns.length ≤ 8) (hlay : PyData.layable0 (.list (ns.map .int)) = true) (hc : (L + 1, oR) ∈ news) (dR : oR.data = .cell (some (.ref lR)))
    (next : ∀ t h' tk, Fr g L h' (fun z => if z = Str.ofString "first" then some (.int (ns.idxOf 0 : Nat) t) else m z) → News g L h' news → Q .next { s with heap := h', toks := tk }) :
    wpAny (model pw w) A (exec (stT 1) (envTd L)) Q (fun _ _ => False) s := by
  have hfrag : rw_re0099_01 = rw_re0099_01 ∧ KF = KF := by (k_fill; exact ⟨rfl, rfl⟩)
  clear hfrag
  conv in stT _ => whnf
  k_steps
  · exact next _ _ _ (by assumption) (by assumption)
  · rename _ = false => ha
    refine next (s.toks + 1 + 1) _ _ ?_ (by assumption)
    rw [idxOf_absent ha]
    assumption
theorem s_left (hh : A.handled = none) (X : (KF w.params).In g) (T : Top vw (looseW vw lsn) mean mg mb g) (F : Fr g L s.heap m) (N : News g L s.heap news)
    (hS : g.IsList lS vS.toArray) (hz : vS.length ≤ 8) (hm : m (Str.ofString "signs") = some (.ref lS))
    (next : ∀ D n h' tk, Fr g L h' (fun z => if z = Str.ofString "left" then some (.ref D) else m z) → News g L h' ((D, W.listOf vS.toArray n) :: news) → (∀ q ∈ news, q.1 < D) → Q .next { s with heap := h', toks := tk }) :
    wpAny (model pw w) A (exec (stT 4) (envTd L)) Q (fun _ _ => False) s := by
  conv in stT _ => whnf
  k_steps
  exact next _ _ _ _ (by assumption) (by assumption) (by assumption)
end
end Mine
end

section
set_option maxHeartbeats 4000000
open PySem PySem.W PySem.Calls PyProof.Rows PySem.Challenge PyProof.V PySem.Spec
set_option maxRecDepth 100000
namespace Mine
noncomputable abbrev sg (c : Nat) : Str := ⟨#[c]⟩
theorem Signs.strs {vs : List Value} {cs : List Nat} (h : Signs vs cs) : StrsAre vs (cs.map sg) := by
  induction h with
  | nil => exact .nil
  | cons e _ ih => obtain ⟨t, rfl⟩ := e; exact .cons _ _ ih
theorem Signs.carried {vs : List Value} {cs : List Nat} (h : Signs vs cs) : CarriedAll vs ((cs.map sg).map PyData.str) := by
  induction h with
  | nil => exact .nil
  | cons e _ ih => obtain ⟨t, rfl⟩ := e; exact .cons (.str _ t) ih
theorem nats_ints {vs : List Value} {ks : List Nat} (h : NatsAre vs ks) : IntsAre vs (ks.map fun (k : Nat) => (k : Int)) := by
  induction h with
  | nil => exact .nil
  | cons e _ ih => obtain ⟨t, rfl⟩ := e; exact .cons _ _ ih
theorem any_sg (c : Nat) (cs : List Nat) : ((cs.map sg).any (· == sg c)) = decide (c ∈ cs) := by
  induction cs with
  | nil => rfl
  | cons d r ih =>
    rw [List.map_cons, List.any_cons, ih, one_eq]
    by_cases h : d = c
    · subst h; simp
    · have h' : ¬ c = d := fun e => h e.symm
      simp [h, h']
/-- the signs can be laid -/
noncomputable abbrev Ok (cs : List Nat) : Prop := ∀ c ∈ cs, PyData.strOk (sg c) = true
theorem st_canLayAll0 : ∀ cs : List Nat, Ok cs → PyData.canLayAll0 ((cs.map sg).map PyData.str) = true
  | [], _ => rfl
  | c :: r, h => by
    have h1 := h c List.mem_cons_self
    have h2 := st_canLayAll0 r fun d hd => h d (List.mem_cons_of_mem _ hd)
    simp only [List.map_cons, PyData.canLayAll0, PyData.canLay0, h1, h2, Bool.and_self]
theorem st_depthAll : ∀ ns : List Str, PyData.depthAll (ns.map PyData.str) = 0
  | [] => rfl
  | _ :: r => by simp [PyData.depthAll, PyData.depth, st_depthAll r]
theorem st_shaped (cs : List Nat) (h : Ok cs) : SeqAt.shaped (.list ((cs.map sg).map PyData.str)) = true := by
  have := st_canLayAll0 cs h
  simp only [SeqAt.shaped, PyData.canLay0, PyData.depth, this, st_depthAll, Bool.true_and]
  decide
theorem sg_inj {c d : Nat} (h : sg c = sg d) : c = d := by
  have : (#[c] : Array Nat) = #[d] := congrArg Str.cps h
  simpa using this
theorem st_sameAll : ∀ cs ds : List Nat, PySem.Spec.sameAll ((cs.map sg).map PyData.str) ((ds.map sg).map PyData.str) = decide (cs = ds)
  | [], [] => by simp [PySem.Spec.sameAll]
  | [], _ :: _ => by simp [PySem.Spec.sameAll]
  | _ :: _, [] => by simp [PySem.Spec.sameAll]
  | a :: r, b :: t => by
    simp only [List.map_cons, PySem.Spec.sameAll, PySem.Spec.same, st_sameAll r t]
    by_cases h : a = b
    · subst h; by_cases h' : r = t <;> simp [h']
    · have h2 : ¬ sg a = sg b := fun e => h (sg_inj e)
      simp [h, h2]
section
variable {prog : Program} {w : World} {A : Around} {E : Value → Shared → Prop} {s : Shared} {a b : Addr} {xs ys : List Value} {cs ds : List Nat} {Q : Value → Shared → Prop}
theorem in_signs {c : Nat} {t : Tok} (hl : s.heap.IsList a xs.toArray) (hi : Signs xs cs) (h : Q (.bool (decide (c ∈ cs))) s) : wpAny (model prog w) A (compareOp .In (.str (sg c) t) (.ref a)) Q E s :=
  in_list_strs hl hi.strs (by rw [any_sg]; exact h)
theorem notin_signs {c : Nat} {t : Tok} (hl : s.heap.IsList a xs.toArray) (hi : Signs xs cs) (h : Q (.bool (!decide (c ∈ cs))) s) : wpAny (model prog w) A (compareOp .NotIn (.str (sg c) t) (.ref a)) Q E s :=
  notin_list_strs hl hi.strs (by rw [any_sg]; exact h)
theorem eq_signs (ha : s.heap.IsList a xs.toArray) (hb : s.heap.IsList b ys.toArray) (hi : Signs xs cs) (hj : Signs ys ds) (oi : Ok cs) (oj : Ok ds) (hu : A.units + 64 < cLine) (h : Q (.bool (decide (cs = ds))) s) :
    wpAny (model prog w) A (compareOp .Eq (.ref a) (.ref b)) Q E s :=
  eq_dataH_same (reads_newData ha hi.carried) (reads_newData hb hj.carried) (st_shaped _ oi) (st_shaped _ oj) hu (SeqAt.noMix_of_shape (.list .str) rfl _ _ (list_map_has fun _ => rfl) (list_map_has fun _ => rfl)) (by
    rw [show PySem.Spec.same (.list ((cs.map sg).map PyData.str)) (.list ((ds.map sg).map PyData.str)) = decide (cs = ds) by simp only [PySem.Spec.same]; exact st_sameAll cs ds]; exact h)
theorem ne_signs (ha : s.heap.IsList a xs.toArray) (hb : s.heap.IsList b ys.toArray) (hi : Signs xs cs) (hj : Signs ys ds) (oi : Ok cs) (oj : Ok ds) (hu : A.units + 64 < cLine) (h : Q (.bool (!decide (cs = ds))) s) :
    wpAny (model prog w) A (compareOp .NotEq (.ref a) (.ref b)) Q E s :=
  ne_dataH_same (reads_newData ha hi.carried) (reads_newData hb hj.carried) (st_shaped _ oi) (st_shaped _ oj) hu (SeqAt.noMix_of_shape (.list .str) rfl _ _ (list_map_has fun _ => rfl) (list_map_has fun _ => rfl)) (by
    rw [show PySem.Spec.same (.list ((cs.map sg).map PyData.str)) (.list ((ds.map sg).map PyData.str)) = decide (cs = ds) by simp only [PySem.Spec.same]; exact st_sameAll cs ds]; exact h)
theorem ne_nats {ks js : List Nat} (ha : s.heap.IsList a xs.toArray) (hb : s.heap.IsList b ys.toArray) (hi : NatsAre xs ks) (hj : NatsAre ys js) (hu : A.units + 64 < cLine) (h : Q (.bool (!decide (ks = js))) s) :
    wpAny (model prog w) A (compareOp .NotEq (.ref a) (.ref b)) Q E s := by
  refine ke_ne_ints ha hb (nats_ints hi) (nats_ints hj) hu ?_
  rw [show decide ((ks.map fun (k : Nat) => (k : Int)) = js.map fun (k : Nat) => (k : Int)) = decide (ks = js) from ?_]
  · exact h
  · rw [decide_eq_decide]
    exact ⟨fun e => (List.map_inj_right fun x y q => Int.ofNat.inj q).mp e, fun e => e ▸ rfl⟩
theorem eq_nats {ks js : List Nat} (ha : s.heap.IsList a xs.toArray) (hb : s.heap.IsList b ys.toArray) (hi : NatsAre xs ks) (hj : NatsAre ys js) (hu : A.units + 64 < cLine) (h : Q (.bool (decide (ks = js))) s) :
    wpAny (model prog w) A (compareOp .Eq (.ref a) (.ref b)) Q E s := by
  refine ke_eq_ints ha hb (nats_ints hi) (nats_ints hj) hu ?_
  rw [show decide ((ks.map fun (k : Nat) => (k : Int)) = js.map fun (k : Nat) => (k : Int)) = decide (ks = js) from ?_]
  · exact h
  · rw [decide_eq_decide]
    exact ⟨fun e => (List.map_inj_right fun x y q => Int.ofNat.inj q).mp e, fun e => e ▸ rfl⟩
/-- an item by its place -/
theorem item_at {value slice : Expr} {l : Addr} {its : Array Value} {k : Int} {u : Tok} {v : Value}
    (hl : s.heap.IsList l its) (h0 : 0 ≤ k) (hhi : k < 2 ^ 63) (hx : its[k.toNat]? = some v) (h : Q v s)
    (hs : subscripted slice false (.ref l) (.int k u) = operate [.ref l, .int k u] (getItem (.ref l) (.int k u))) :
    wpAny (model prog w) A (subscriptTail value slice (.ref l) (.int k u)) Q E s :=
  tail_any hl.typeIs slot_list_getitem.lookup (wpAny_getItem_list hl h0 hhi hx h) hs
/-- the last item -/
theorem item_last {value slice : Expr} {l : Addr} {its : Array Value} {k : Int} {u : Tok} {v : Value}
    (hl : s.heap.IsList l its) (hk : k = -1) (hz : 0 < its.size) (hx : its[its.size - 1]? = some v) (h : Q v s)
    (hs : subscripted slice false (.ref l) (.int k u) = operate [.ref l, .int k u] (getItem (.ref l) (.int k u))) :
    wpAny (model prog w) A (subscriptTail value slice (.ref l) (.int k u)) Q E s := by
  subst hk
  exact tail_any hl.typeIs slot_list_getitem.lookup (wpAny_getItem_list_neg hl (by decide) (by omega) (by decide) (by rw [show (-1 + (its.size : Int)).toNat = its.size - 1 by omega]; exact hx) h) hs
end
end Mine
end

section
set_option maxHeartbeats 4000000
open PySem PySem.W PySem.Calls PyProof.Rows PySem.Challenge PyProof.V PySem.Spec
set_option maxRecDepth 100000
namespace Mine
noncomputable def ifBody (st : Stmt) : List Stmt := match st with | .If _ b _ _ => b | _ => []
noncomputable def nth (l : List Stmt) (i : Nat) : Stmt := (l[i]?).getD (.Pass default)
local macro_rules | `(tactic| k_mem) => `(tactic| assumption)
local macro_rules | `(tactic| walk_at "eval Name") => `(tactic| (k_here; k_dflt (refine' nameX_L ?F ?v ?_ ?a ?b; (case F => k_asm); (case a => rfl); (case b => rfl); (case v => (try dsimp only); first | assumption | exact rfl | (refine (if_neg (by decide)).trans ?_; first | assumption | exact rfl | (refine (if_neg (by decide)).trans ?_; first | assumption | exact rfl | (refine (if_neg (by decide)).trans ?_; first | assumption | exact rfl)))); k_whole)))
local macro_rules | `(tactic| walk_at "compareOp NotEq ref ref") => `(tactic| (k_here; (with_reducible show wpAny _ _ (compareOp CmpOp.NotEq (Value.ref _) (Value.ref _)) _ _ _); k_dflt (first
  | (refine ne_signs (cs := _) (ds := []) (News.isList (by k_asm) (by k_mem)) (News.isList (by k_asm) (by k_mem)) (by assumption) .nil (by assumption) (fun _ h => nomatch h) (by first | assumption | omega) ?_)
  | (refine ne_nats (ks := _) (js := []) (News.isList (by k_asm) (by k_mem)) (News.isList (by k_asm) (by k_mem)) (by assumption) .nil (by first | assumption | omega) ?_))))
local macro_rules | `(tactic| walk_at "compareOp In str ref") => `(tactic| (k_here; (with_reducible show wpAny _ _ (compareOp CmpOp.In (Value.str _ _) (Value.ref _)) _ _ _); k_dflt (refine in_signs (News.isList (by k_asm) (by k_mem)) (by assumption) ?_)))
theorem rel_snoc {α : Type} {R : α → Value → Prop} : ∀ {ys : List Value} {is : List α} {i : α}, Rel2 R ys (is ++ [i]) → ∃ zs y, ys = zs ++ [y] ∧ Rel2 R zs is ∧ R i y
  | _, [], _, .cons h .nil => ⟨[], _, rfl, .nil, h⟩
  | _, _ :: _, _, .cons h r => by
    obtain ⟨zs, y, e, h1, h2⟩ := rel_snoc r
    exact ⟨_ :: zs, y, by rw [e]; rfl, .cons h h1, h2⟩
theorem rel_nil {α : Type} {R : α → Value → Prop} {ys : List Value} (h : Rel2 R ys []) : ys = [] := by cases h; rfl
/-- a list without its last items that lie in os -/
noncomputable def dropEnd (os cs : List Nat) : List Nat := (cs.reverse.dropWhile fun c => decide (c ∈ os)).reverse
theorem dropEnd_nil (os : List Nat) : dropEnd os [] = [] := rfl
theorem dropEnd_in {os cs : List Nat} {c : Nat} (h : c ∈ os) : dropEnd os (cs ++ [c]) = dropEnd os cs := by
  unfold dropEnd; rw [List.reverse_append, List.reverse_singleton, List.singleton_append, List.dropWhile_cons, if_pos (decide_eq_true h)]
theorem dropEnd_out {os cs : List Nat} {c : Nat} (h : c ∉ os) : dropEnd os (cs ++ [c]) = cs ++ [c] := by
  unfold dropEnd; rw [List.reverse_append, List.reverse_singleton, List.singleton_append, List.dropWhile_cons, if_neg (by simpa using h)]; simp
section
variable {w : World} {A : Around} {E : Value → Shared → Prop} {s : Shared} {g : Heap} {L : Addr} {m : Str → Option Value} {news : List (Addr × Obj)} {mg mb : Str → Option Value} {mean : ExcName → Option Value} {Q : Flow → Shared → Prop} {lS lR aU : Addr} {vS vR : List Value} {cs : List Nat} {ns : List Int} {oR oU : Obj}
theorem s_while (hh : A.handled = none) (hu : A.units + 64 < cLine) (X : (KF w.params).In g) (T : Top vw (looseW vw lsn) mean mg mb g) (F : Fr g L s.heap m) {aO aL : Addr} {vO vL : List Value} {nO nL : Nat} {os : List Nat} (N : News g L s.heap ((aL, W.listOf vL.toArray nL) :: news))
    (hoff : ∀ q ∈ news, q.1 ≠ aL) (hO : (aO, W.listOf vO.toArray nO) ∈ news) (iO : Signs vO os) (iL : Signs vL cs) (hcs : cs.length ≤ 8) (okL : Ok cs)
    (m1 : m (Str.ofString "loose") = some (.ref aO)) (m2 : m (Str.ofString "left") = some (.ref aL))
    (next : ∀ vL' nL' h' tk, Signs vL' (dropEnd os cs) → Fr g L h' m → News g L h' ((aL, W.listOf vL'.toArray nL') :: news) → Q .next { s with heap := h', toks := tk }) :
    wpAny (model pw w) A (exec (nth (ifBody (stT 5)) 2) (envTd L)) Q (fun _ _ => False) s := by
  have hfrag : rw_re0099_01 = rw_re0099_01 ∧ KF = KF := by (k_fill; exact ⟨rfl, rfl⟩)
  clear hfrag
  conv in nth _ _ => whnf
  refine While_inv (fun n m₁ news₁ => ∃ vL' cs' nL', n = cs'.length ∧ m₁ = m ∧ news₁ = (aL, W.listOf vL'.toArray nL') :: news ∧ Signs vL' cs' ∧ dropEnd os cs' = dropEnd os cs ∧ cs'.length ≤ 8 ∧ Ok cs') F N ⟨vL, cs, nL, rfl, rfl, rfl, iL, rfl, hcs, okL⟩ ?_
  rintro n m₁ news₁ h₁ tk₁ F₁ N₁ ⟨vL', cs', nL', rfl, rfl, rfl, iL', e', hcs', okL'⟩
  rcases List.eq_nil_or_concat cs' with rfl | ⟨ci, c, rfl⟩
  · rw [dropEnd_nil] at e'
    k_steps
    exact next _ _ _ _ (e' ▸ iL') (by assumption) (fun p hp => (by assumption : News _ _ _ _) p (.tail _ hp))
  · rw [List.concat_eq_append] at iL' e' hcs' okL' ⊢
    have iL2 := iL'
    obtain ⟨zs, y, rfl, iz, t, rfl⟩ := rel_snoc iL'
    have hz := iz.len
    have hlen : zs.length ≤ 7 := by rw [hz]; simp at hcs'; omega
    k_steps
    · rename decide (ci ++ [c] = []) = true => hd
      simp at hd
    · refine item_last (v := .str (sg c) t) (News.isList (by assumption) (by k_mem)) rfl (by simp) (by simp) ?_ (by with_unfolding_all rfl)
      k_steps
      · rename _ ∈ os => hin
        rename _ ∧ AllLt _ news => hlt
        refine kl_pop (p := zs) (y := .str (sg c) t) (by assumption) (by assumption) (kpa_last _ _) (.tail (Nat.ne_of_gt hlt.1) (.head fun p hp => hoff p hp)) ?_ fun h' F' N' => ?_
        · simp only [List.length_append, List.length_singleton]
          exact Nat.le_trans (Nat.succ_le_succ hlen) (by decide)
        · dsimp only
          refine wpAny_execs_nil ?_
          refine WhileStep.intro (n' := ci.length) F' (fun p hp => N' p (.tail _ hp)) (by simp) ⟨zs, ci, _, rfl, rfl, rfl, iz, ?_, by rw [← hz]; omega, fun d hd => okL' d (List.mem_append_left _ hd)⟩
          rw [← e', dropEnd_in hin]
      · rename ¬ _ ∈ os => hout
        rw [dropEnd_out hout] at e'
        exact next _ _ _ _ (e' ▸ iL2) (by assumption) (fun p hp => (by assumption : News _ _ _ _) p (.tail _ hp))
end
end Mine
end

section
set_option maxHeartbeats 4000000
open PySem PySem.W PySem.Calls PyProof.Rows PySem.Challenge PyProof.V PySem.Spec
set_option maxRecDepth 100000
namespace Mine
local macro_rules | `(tactic| k_mem) => `(tactic| assumption)
local macro_rules | `(tactic| walk_at "eval Name") => `(tactic| (k_here; k_dflt (refine' nameX_L ?F ?v ?_ ?a ?b; (case F => k_asm); (case a => rfl); (case b => rfl); (case v => (try dsimp only); first | assumption | exact rfl | (refine (if_neg (by decide)).trans ?_; first | assumption | exact rfl | (refine (if_neg (by decide)).trans ?_; first | assumption | exact rfl | (refine (if_neg (by decide)).trans ?_; first | assumption | exact rfl)))); k_whole)))
local macro_rules | `(tactic| walk_at "compareOp NotEq ref ref") => `(tactic| (k_here; (with_reducible show wpAny _ _ (compareOp CmpOp.NotEq (Value.ref _) (Value.ref _)) _ _ _); k_dflt (first
  | (refine ne_signs (cs := _) (ds := []) (News.isList (by k_asm) (by k_mem)) (News.isList (by k_asm) (by k_mem)) (by assumption) .nil (by assumption) (fun _ h => nomatch h) (by first | assumption | omega) ?_)
  | (refine ne_nats (ks := _) (js := []) (News.isList (by k_asm) (by k_mem)) (News.isList (by k_asm) (by k_mem)) (by assumption) .nil (by first | assumption | omega) ?_))))
local macro_rules | `(tactic| walk_at "compareOp In str ref") => `(tactic| (k_here; (with_reducible show wpAny _ _ (compareOp CmpOp.In (Value.str _ _) (Value.ref _)) _ _ _); k_dflt (refine in_signs (News.isList (by k_asm) (by k_mem)) (by assumption) ?_)))
/-- what is dropped at the end -/
noncomputable def looseOf (ks : List Nat) (f : Nat) : List Nat := if f < ks.getLastD 0 then [32, 13, 10, 8203, 173] else [32, 13, 10]
section
variable {w : World} {A : Around} {E : Value → Shared → Prop} {s : Shared} {g : Heap} {L : Addr} {m : Str → Option Value} {news : List (Addr × Obj)} {mg mb : Str → Option Value} {mean : ExcName → Option Value} {Q : Flow → Shared → Prop} {lS lR aU : Addr} {vS vR : List Value} {cs : List Nat} {ns : List Int} {oR oU : Obj}
local macro_rules | `(tactic| walk_at "compareOp Eq ref ref") => `(tactic| (k_here; (with_reducible show wpAny _ _ (compareOp CmpOp.Eq (Value.ref _) (Value.ref _)) _ _ _); k_dflt (first
  | (refine eq_signs (cs := _) (ds := []) (News.isList (by k_asm) (by k_mem)) (News.isList (by k_asm) (by k_mem)) (by assumption) .nil (by assumption) (fun _ h => nomatch h) (by first | assumption | omega) ?_)
  | (refine eq_nats (ks := _) (js := []) (News.isList (by k_asm) (by k_mem)) (News.isList (by k_asm) (by k_mem)) (by assumption) .nil (by first | assumption | omega) ?_))))
theorem len_at {prog : Program} {E : Value → Shared → Prop} {Q : Value → Shared → Prop} {l : Addr} {vs : List Value} {n : Nat} (hl : s.heap.IsList l vs.toArray) (e : vs.length = n) (hn : n ≤ 1000) (h : Q (.int (n : Int) (s.toks + 1)) { s with toks := s.toks + 1 + 1 }) :
    wpAny (model prog w) A (call (.builtin "len") [.ref l]) Q E s := by
  have e' : vs.toArray.size = n := by rw [List.size_toArray]; exact e
  exact len_list hl (by rw [e']; omega) (by rw [e']; exact h)
local macro_rules | `(tactic| walk_at "call builtin:len") => `(tactic| (k_here; (with_reducible show wpAny _ _ (call (Value.builtin "len") [Value.ref _]) _ _ _); k_dflt (refine len_at (News.isList (by k_asm) (by k_mem)) (by assumption) (by omega) ?_)))
theorem fold_app (a : Array Nat) : ∀ (k : Nat) (b : Array Nat), ((List.replicate k a).foldl (· ++ ·) b).toList = b.toList ++ (List.replicate k a.toList).flatten
  | 0, b => by simp
  | k + 1, b => by rw [List.replicate_succ, List.foldl_cons, fold_app a k, List.replicate_succ, List.flatten_cons, Array.toList_append, List.append_assoc]
theorem flat_nil : ∀ k : Nat, (List.replicate k ([] : List Nat)).flatten = []
  | 0 => rfl
  | k + 1 => by rw [List.replicate_succ, List.flatten_cons, flat_nil k]; rfl
theorem mul_list (x : Str) (n : Int) : (Txt.mul x n).cps.toList = (List.replicate n.toNat x.cps.toList).flatten := by
  unfold Txt.mul
  by_cases h1 : n < 1
  · rw [if_pos h1, show n.toNat = 0 by omega]; rfl
  · rw [if_neg h1]
    by_cases h2 : (n == 1 || x.length == 0) = true
    · rw [if_pos h2]
      rcases Bool.or_eq_true_iff.mp h2 with h3 | h3
      · have : n = 1 := by simpa using h3
        subst this
        simp
      · have h4 : x.length = 0 := eq_of_beq h3
        have h5 : x.cps.toList = [] := by rw [← List.length_eq_zero_iff, Array.length_toList]; exact h4
        rw [h5, flat_nil]
    · rw [if_neg h2, fold_app]; rfl
theorem s_loose0 (F : Fr g L s.heap m) (X : (KF w.params).In g) (N : News g L s.heap news)
    (next : ∀ D vs h' tk, Signs vs [32, 13, 10] → Fr g L h' (fun z => if z = Str.ofString "loose" then some (.ref D) else m z) → News g L h' ((D, W.listOf vs.toArray 0) :: news) → (∀ q ∈ news, q.1 < D) → Q .next { s with heap := h', toks := tk }) :
    wpAny (model pw w) A (exec (nth (ifBody (stT 5)) 0) (envTd L)) Q (fun _ _ => False) s := by
  have hfrag : rw_re0099_01 = rw_re0099_01 ∧ KF = KF := by (k_fill; exact ⟨rfl, rfl⟩)
  clear hfrag
  conv in nth _ _ => whnf
  k_steps
  exact next _ _ _ _ (.cons ⟨_, rfl⟩ (.cons ⟨_, rfl⟩ (.cons ⟨_, rfl⟩ .nil))) (by assumption) (by assumption) (by assumption)
theorem s_loose1 (F : Fr g L s.heap m) (X : (KF w.params).In g) {aM aO : Addr} {vM vO vU : List Value} {nO nU : Nat} {ki : List Nat} {k f : Nat} {t : Tok} (N : News g L s.heap news)
    (hM : (aM, LCg.lst vM) ∈ news) (iM : NatsAre vM (ki ++ [k])) (hk : k < 8) (hf : f ≤ 8) (hO : (aO, W.listOf vO.toArray nO) ∈ news) (iO : Signs vO [32, 13, 10])
    (hU : (aU, W.listOf vU.toArray nU) ∈ news) (iU : Signs vU [8203, 173]) (hcU : (L + 1 + 1, oU) ∈ news) (dU : oU.data = .cell (some (.ref aU)))
    (m1 : m (Str.ofString "marks") = some (.ref aM)) (m2 : m (Str.ofString "loose") = some (.ref aO)) (m3 : m (Str.ofString "first") = some (.int (f : Nat) t))
    (next : ∀ D n vs h' tk m' news', Signs vs (looseOf (ki ++ [k]) f) → m' (Str.ofString "loose") = some (.ref D) → (∀ y, y ≠ Str.ofString "loose" → m' y = m y) → Fr g L h' m' → News g L h' news' → (D, W.listOf vs.toArray n) ∈ news' → (D = aO ∨ D = s.heap.objs.size) → (∀ q ∈ news, q ∈ news') → Q .next { s with heap := h', toks := tk }) :
    wpAny (model pw w) A (exec (nth (ifBody (stT 5)) 1) (envTd L)) Q (fun _ _ => False) s := by
  conv in nth _ _ => whnf
  obtain ⟨zs, y, rfl, iz, tt, rfl⟩ := rel_snoc iM
  k_steps
  refine item_last (v := .int (k : Int) tt) (News.isList (by assumption) (by k_mem)) rfl (by simp) (by simp) ?_ (by with_unfolding_all rfl)
  have e1 : (ki ++ [k]).getLastD 0 = k := by simp
  have hzO := iO.len
  have hzU := iU.len
  k_steps
  · rename (_ : Int) < _ => hlt
    refine add_lists (hsz := by rw [hzO, hzU]; decide) (by assumption) (by assumption) (News.isList (by assumption) hO) (News.isList (by assumption) hU) (fun h' F' N' => ?_)
    k_steps
    refine next _ _ _ _ _ _ _ ?_ (if_pos rfl) (fun y hy => if_neg hy) (by assumption) (by assumption) (.head _) (.inr rfl) (fun q hq => .tail _ hq)
    · rw [looseOf, e1, if_pos (by omega)]
      exact iO.app iU
  · rename ¬ (_ : Int) < _ => hlt
    refine next _ _ _ _ _ _ _ ?_ m2 (fun y hy => rfl) F N hO (.inl rfl) (fun q hq => hq)
    rw [looseOf, e1, if_neg (by omega)]
    exact iO
theorem s_ret (F : Fr g L s.heap m) (X : (KF w.params).In g) (T : Top vw (looseW vw lsn) mean mg mb g) (hu : A.units + 64 < cLine) {aM aL : Addr} {vM vL : List Value} {nL : Nat} {ks : List Nat} (N : News g L s.heap news)
    (hM : (aM, LCg.lst vM) ∈ news) (iM : NatsAre vM ks) (hks : ks.length ≤ 8) (hk0 : ks ≠ []) (hL : (aL, W.listOf vL.toArray nL) ∈ news) (iL : Signs vL cs) (okL : Ok cs)
    (m1 : m (Str.ofString "marks") = some (.ref aM)) (m2 : m (Str.ofString "left") = some (.ref aL))
    (hret : ∀ r t' h' tk, cs = [] → r.cps.toList = (List.replicate (ks.length - 1) [35, 32]).flatten ++ [35] → Keeps' g h' → Q (.ret (.str r t')) { s with heap := h', toks := tk })
    (next : ∀ h' tk, cs ≠ [] → Fr g L h' m → News g L h' news → Q .next { s with heap := h', toks := tk }) :
    wpAny (model pw w) A (exec (nth (ifBody (stT 5)) 3) (envTd L)) Q (fun _ _ => False) s := by
  conv in nth _ _ => whnf
  have hz := iM.len
  have hk1 : 1 ≤ ks.length := by
    cases ks with
    | nil => exact absurd rfl hk0
    | cons a r => simp
  k_steps
  · rename decide (cs = []) = true => hc
    refine hret _ _ _ _ (of_decide_eq_true hc) ?_ (Fr.keep (by assumption))
    rw [show ∀ a b : Str, (a ++ b).cps.toList = a.cps.toList ++ b.cps.toList from fun a b => by show (a.cps ++ b.cps).toList = _; simp, mul_list, show ((ks.length : Int) - 1).toNat = ks.length - 1 by omega]
    rfl
  · rename decide (cs = []) = false => hc
    exact next _ _ (of_decide_eq_false hc) (by assumption) (fun p hp => (by assumption : News _ _ _ _) p (.tail _ hp))
end
end Mine
end

section
set_option maxHeartbeats 4000000
open PySem PySem.W PySem.Calls PyProof.Rows PySem.Challenge PyProof.V PySem.Spec
set_option maxRecDepth 100000
namespace Mine
local macro_rules | `(tactic| k_mem) => `(tactic| assumption)
local macro_rules | `(tactic| walk_at "eval Name") => `(tactic| (k_here; k_dflt (refine' nameX_L ?F ?v ?_ ?a ?b; (case F => k_asm); (case a => rfl); (case b => rfl); (case v => (try dsimp only); first | assumption | exact rfl | (refine (if_neg (by decide)).trans ?_; first | assumption | exact rfl | (refine (if_neg (by decide)).trans ?_; first | assumption | exact rfl | (refine (if_neg (by decide)).trans ?_; first | assumption | exact rfl)))); k_whole)))
local macro_rules | `(tactic| walk_at "compareOp NotEq ref ref") => `(tactic| (k_here; (with_reducible show wpAny _ _ (compareOp CmpOp.NotEq (Value.ref _) (Value.ref _)) _ _ _); k_dflt (first
  | (refine ne_signs (cs := _) (ds := []) (News.isList (by k_asm) (by k_mem)) (News.isList (by k_asm) (by k_mem)) (by assumption) .nil (by assumption) (fun _ h => nomatch h) (by first | assumption | omega) ?_)
  | (refine ne_nats (ks := _) (js := []) (News.isList (by k_asm) (by k_mem)) (News.isList (by k_asm) (by k_mem)) (by assumption) .nil (by first | assumption | omega) ?_))))
local macro_rules | `(tactic| walk_at "compareOp In str ref") => `(tactic| (k_here; (with_reducible show wpAny _ _ (compareOp CmpOp.In (Value.str _ _) (Value.ref _)) _ _ _); k_dflt (refine in_signs (News.isList (by k_asm) (by k_mem)) (by assumption) ?_)))
theorem dropEnd_sub {os cs : List Nat} {c : Nat} (h : c ∈ dropEnd os cs) : c ∈ cs := by
  unfold dropEnd at h
  have := List.mem_reverse.mp h
  exact List.mem_reverse.mp ((List.dropWhile_suffix _).subset this)
section
variable {w : World} {A : Around} {E : Value → Shared → Prop} {s : Shared} {g : Heap} {L : Addr} {m : Str → Option Value} {news : List (Addr × Obj)} {mg mb : Str → Option Value} {mean : ExcName → Option Value} {Q : Flow → Shared → Prop} {lS lR aU : Addr} {vS vR : List Value} {cs : List Nat} {ns : List Int} {oR oU : Obj}
theorem s_strip (hh : A.handled = none) (hu : A.units + 64 < cLine) (X : (KF w.params).In g) (T : Top vw (looseW vw lsn) mean mg mb g) (F : Fr g L s.heap m) {aM aL : Addr} {vM vL vU : List Value} {nL nU : Nat} {ks : List Nat} {f : Nat} {t : Tok} (N : News g L s.heap ((aL, W.listOf vL.toArray nL) :: news))
    (hoff : ∀ q ∈ news, q.1 ≠ aL) (hM : (aM, LCg.lst vM) ∈ news) (iM : NatsAre vM ks) (hks : ks.length ≤ 8) (hkf : ∀ k ∈ ks, k < 8) (iL : Signs vL cs) (hcs : cs.length ≤ 8) (okL : Ok cs) (hf : f ≤ 8)
    (hU : (aU, W.listOf vU.toArray nU) ∈ news) (iU : Signs vU [8203, 173]) (hcU : (L + 1 + 1, oU) ∈ news) (dU : oU.data = .cell (some (.ref aU)))
    (m1 : m (Str.ofString "marks") = some (.ref aM)) (m2 : m (Str.ofString "left") = some (.ref aL)) (m3 : m (Str.ofString "first") = some (.int (f : Nat) t))
    (hret : ∀ r t' h' tk, ks ≠ [] → dropEnd (looseOf ks f) cs = [] → r.cps.toList = (List.replicate (ks.length - 1) [35, 32]).flatten ++ [35] → Keeps' g h' → Q (.ret (.str r t')) { s with heap := h', toks := tk })
    (next : ∀ vL' nL' h' tk m', Signs vL' (if ks = [] then cs else dropEnd (looseOf ks f) cs) → (ks ≠ [] → dropEnd (looseOf ks f) cs ≠ []) → (∀ y, y ≠ Str.ofString "loose" → m' y = m y) → Fr g L h' m' → News g L h' ((aL, W.listOf vL'.toArray nL') :: news) → Q .next { s with heap := h', toks := tk }) :
    wpAny (model pw w) A (exec (stT 5) (envTd L)) Q (fun _ _ => False) s := by
  have hfrag : rw_re0099_01 = rw_re0099_01 ∧ KF = KF := by (k_fill; exact ⟨rfl, rfl⟩)
  clear hfrag
  conv in stT _ => whnf
  refine wpAny_If ?_
  rcases List.eq_nil_or_concat ks with rfl | ⟨ki, k, rfl⟩
  · k_steps
    exact next _ _ _ _ _ iL (fun h => absurd rfl h) (fun _ _ => rfl) (by assumption) (fun p hp => (by assumption : News _ _ _ _) p (.tail _ hp))
  · rw [List.concat_eq_append] at iM hks hkf hret next
    have tail : ∀ h' tk, Fr g L h' m → News g L h' ((aL, W.listOf vL.toArray nL) :: news) → wpAny (model pw w) A (execs (ifBody (stT 5)) (envTd L)) Q (fun _ _ => False) { s with heap := h', toks := tk } := by
      intro h' tk F N
      show wpAny _ _ (execs [nth (ifBody (stT 5)) 0, nth (ifBody (stT 5)) 1, nth (ifBody (stT 5)) 2, nth (ifBody (stT 5)) 3] _) _ _ _
      refine wpAny_execs_cons (s_loose0 F X N fun aO vO h1 tk1 iO F1 N1 l1 => ?_)
      dsimp only
      refine wpAny_execs_cons (s_loose1 (ki := ki) (k := k) F1 X N1 (.tail _ (.tail _ hM)) iM (hkf k (by simp)) hf (.head _) iO (.tail _ (.tail _ hU)) iU (.tail _ (.tail _ hcU)) dU ((if_neg (by decide)).trans m1) (if_pos rfl) ((if_neg (by decide)).trans m3) fun aO' nO' vO' h2 tk2 m' news2 iO' hl hm' F2 N2 hO' hsub hsup => ?_)
      dsimp only
      have haO : aO ≠ aL := Nat.ne_of_gt (l1 (aL, _) (.head _))
      have hsz : h1.objs.size ≠ aL := by
        have := Heap.lt_size (N1 (aL, _) (.tail _ (.head _))).1
        exact Nat.ne_of_gt this
      have N3 : News g L h2 ((aL, W.listOf vL.toArray nL) :: news2.filter fun q => q.1 != aL) := fun p hp => by
        rcases List.mem_cons.mp hp with rfl | hp
        · exact N2 _ (hsup _ (.tail _ (.head _)))
        · exact N2 _ (List.mem_filter.mp hp).1
      have hO3 : (aO', W.listOf vO'.toArray nO') ∈ news2.filter fun q => q.1 != aL := by
        refine List.mem_filter.mpr ⟨hO', ?_⟩
        rcases hsub with hq | hq
        · rw [hq]; simpa using haO
        · rw [hq]; simpa using hsz
      refine wpAny_execs_cons (s_while hh hu X T F2 N3 (fun q hq => by simpa using (List.mem_filter.mp hq).2) hO3 iO' iL hcs okL hl ((hm' _ (by decide)).trans ((if_neg (by decide)).trans m2)) fun vL' nL' h3 tk3 iL' F3 N4 => ?_)
      dsimp only
      refine wpAny_execs_cons (s_ret (ks := ki ++ [k]) F3 X T hu N4 (.tail _ (List.mem_filter.mpr ⟨hsup _ (.tail _ (.tail _ hM)), by simpa using hoff _ hM⟩)) iM hks (by simp) (.head _) iL' (fun c hc => okL c (dropEnd_sub hc)) ((hm' _ (by decide)).trans ((if_neg (by decide)).trans m1)) ((hm' _ (by decide)).trans ((if_neg (by decide)).trans m2))
        (fun r t' h' tk hz e hk => hret r t' h' tk (by simp) hz e hk) (fun h' tk hne F' N' => wpAny_execs_nil ?_))
      refine next vL' nL' h' tk _ (by rw [if_neg (by simp)]; exact iL') (fun _ => hne) (fun y hy => (hm' y hy).trans (if_neg hy)) F' (fun p hp => ?_)
      rcases List.mem_cons.mp hp with rfl | hp
      · exact N' _ (.head _)
      · exact N' _ (.tail _ (List.mem_filter.mpr ⟨hsup _ (.tail _ (.tail _ hp)), by simpa using hoff _ hp⟩))
    refine wpAny_mono (Q := fun b s₂ => b = true ∧ ∃ h' tk, s₂ = { s with heap := h', toks := tk } ∧ Fr g L h' m ∧ News g L h' ((aL, W.listOf vL.toArray nL) :: news)) ?_ (fun b s₂ h => ?_) (fun _ _ h => h)
    · k_steps
      · simp
      · assumption
      · exact fun p hp => (by assumption : News _ _ _ _) p (.tail _ hp)
    · obtain ⟨rfl, h', tk, rfl, F', N'⟩ := h
      exact tail h' tk F' N'
end
end Mine
end

section
set_option maxHeartbeats 4000000
open PySem PySem.W PySem.Calls PyProof.Rows PySem.Challenge PyProof.V PySem.Spec
set_option maxRecDepth 100000
namespace Mine
local macro_rules | `(tactic| k_mem) => `(tactic| assumption)
local macro_rules | `(tactic| walk_at "eval Name") => `(tactic| (k_here; k_dflt (refine' nameX_L ?F ?v ?_ ?a ?b; (case F => k_asm); (case a => rfl); (case b => rfl); (case v => (try dsimp only); first | assumption | exact rfl | (refine (if_neg (by decide)).trans ?_; first | assumption | exact rfl | (refine (if_neg (by decide)).trans ?_; first | assumption | exact rfl | (refine (if_neg (by decide)).trans ?_; first | assumption | exact rfl)))); k_whole)))
local macro_rules | `(tactic| walk_at "compareOp NotEq ref ref") => `(tactic| (k_here; (with_reducible show wpAny _ _ (compareOp CmpOp.NotEq (Value.ref _) (Value.ref _)) _ _ _); k_dflt (first
  | (refine ne_signs (cs := _) (ds := []) (News.isList (by k_asm) (by k_mem)) (News.isList (by k_asm) (by k_mem)) (by assumption) .nil (by assumption) (fun _ h => nomatch h) (by first | assumption | omega) ?_)
  | (refine ne_nats (ks := _) (js := []) (News.isList (by k_asm) (by k_mem)) (News.isList (by k_asm) (by k_mem)) (by assumption) .nil (by first | assumption | omega) ?_))))
local macro_rules | `(tactic| walk_at "compareOp In str ref") => `(tactic| (k_here; (with_reducible show wpAny _ _ (compareOp CmpOp.In (Value.str _ _) (Value.ref _)) _ _ _); k_dflt (refine in_signs (News.isList (by k_asm) (by k_mem)) (by assumption) ?_)))
local macro_rules | `(tactic| walk_at "compareOp Eq ref ref") => `(tactic| (k_here; (with_reducible show wpAny _ _ (compareOp CmpOp.Eq (Value.ref _) (Value.ref _)) _ _ _); k_dflt (first
  | (refine eq_signs (cs := _) (ds := []) (News.isList (by k_asm) (by k_mem)) (News.isList (by k_asm) (by k_mem)) (by assumption) .nil (by assumption) (fun _ h => nomatch h) (by first | assumption | omega) ?_)
  | (refine eq_nats (ks := _) (js := []) (News.isList (by k_asm) (by k_mem)) (News.isList (by k_asm) (by k_mem)) (by assumption) .nil (by first | assumption | omega) ?_))))
local macro_rules | `(tactic| walk_at "call builtin:len") => `(tactic| (k_here; (with_reducible show wpAny _ _ (call (Value.builtin "len") [Value.ref _]) _ _ _); k_dflt (refine len_at (News.isList (by k_asm) (by k_mem)) (by assumption) (by omega) ?_)))
local macro_rules | `(tactic| walk_at "compareOp NotIn str ref") => `(tactic| (k_here; (with_reducible show wpAny _ _ (compareOp CmpOp.NotIn (Value.str _ _) (Value.ref _)) _ _ _); k_dflt (refine notin_signs (News.isList (by k_asm) (by k_mem)) (by assumption) ?_)))
/-- a test's end -/
structure TEnd (r : Bool) (s : Shared) (g : Heap) (L : Addr) (m : Str → Option Value) (news : List (Addr × Obj)) (b : Bool) (s₂ : Shared) : Prop where
  eq : b = r
  st : ∃ h' tk, s₂ = { s with heap := h', toks := tk } ∧ Fr g L h' m ∧ News g L h' news
noncomputable def unseenIf (f n : Nat) (es : List Nat) : Bool := decide (f < n) && (decide (es = []) || decide (f < es.headD 0))
theorem range_getD {α : Type} (d : α) (cs : List α) : (List.range cs.length).map (fun i => cs.getD i d) = cs := by
  refine List.ext_getElem (by simp) fun i h1 h2 => ?_
  simp [List.getD, h2]
theorem filter_getD (cs : List Nat) (q : Nat → Bool) : ((List.range cs.length).filter fun i => q (cs.getD i 0)).map (fun i => cs.getD i 0) = cs.filter q := by
  have := List.filter_map (f := fun i => cs.getD i 0) (p := q) (l := List.range cs.length)
  rw [range_getD] at this
  rw [this]
  rfl
section
variable {w : World} {A : Around} {E : Value → Shared → Prop} {s : Shared} {g : Heap} {L : Addr} {m : Str → Option Value} {news : List (Addr × Obj)} {mg mb : Str → Option Value} {mean : ExcName → Option Value} {Q : Flow → Shared → Prop} {lS lR aU : Addr} {vS vR : List Value} {cs : List Nat} {ns : List Int} {oR oU : Obj}
theorem s_unseen (hh : A.handled = none) (hu : A.units + 64 < cLine) (X : (KF w.params).In g) (T : Top vw (looseW vw lsn) mean mg mb g) (F : Fr g L s.heap m) {aE aL : Addr} {vE vL vU : List Value} {nL nU : Nat} {es : List Nat} {f : Nat} {t : Tok} (N : News g L s.heap news)
    (hE : (aE, LCg.lst vE) ∈ news) (iE : NatsAre vE es) (hes : es.length ≤ 8) (hef : ∀ k ∈ es, k < 8) (hL : (aL, W.listOf vL.toArray nL) ∈ news) (iL : Signs vL cs) (hcs : cs.length ≤ 8) (okL : Ok cs) (hf : f ≤ 8)
    (hR : g.IsList lR vR.toArray) (iR : IntsAre vR ns) (hn : ns.length ≤ 8) (hcR : (L + 1, oR) ∈ news) (dR : oR.data = .cell (some (.ref lR)))
    (hU : (aU, W.listOf vU.toArray nU) ∈ news) (iU : Signs vU [8203, 173]) (hcU : (L + 1 + 1, oU) ∈ news) (dU : oU.data = .cell (some (.ref aU)))
    (m1 : m (Str.ofString "mends") = some (.ref aE)) (m2 : m (Str.ofString "left") = some (.ref aL)) (m3 : m (Str.ofString "first") = some (.int (f : Nat) t))
    (next : ∀ D vL' nL' h' tk m' news', Signs vL' (if unseenIf f ns.length es = true then cs.filter (fun c => !decide (c ∈ [8203, 173])) else cs) → m' (Str.ofString "left") = some (.ref D) → (∀ y, y ≠ Str.ofString "left" → m' y = m y) → Fr g L h' m' → News g L h' news' → (D, W.listOf vL'.toArray nL') ∈ news' → (∀ q ∈ news, q ∈ news') → Q .next { s with heap := h', toks := tk }) :
    wpAny (model pw w) A (exec (stT 6) (envTd L)) Q (fun _ _ => False) s := by
  have hfrag : rw_re0099_01 = rw_re0099_01 ∧ KF = KF := by (k_fill; exact ⟨rfl, rfl⟩)
  clear hfrag
  conv in stT _ => whnf
  refine wpAny_If ?_
  refine wpAny_mono (Q := TEnd (unseenIf f ns.length es) s g L m news) ?_ (fun b s₂ h => ?_) (fun _ _ h => h)
  · by_cases hlt : f < ns.length
    · cases es with
      | nil =>
        k_steps
        exact ⟨by simp [unseenIf, hlt], _, _, rfl, by assumption, fun p hp => (by assumption : News _ _ _ _) p (.tail _ hp)⟩
      | cons e0 er =>
        have iE2 := iE
        obtain ⟨t0, vr, rfl, ir⟩ : ∃ t0 vr, vE = .int (e0 : Int) t0 :: vr ∧ NatsAre vr er := by
          cases iE with | cons a b => obtain ⟨t0, rfl⟩ := a; exact ⟨t0, _, rfl, b⟩
        k_steps
        · rename decide (e0 :: er = []) = true => hd
          simp at hd
        · refine item_at (v := .int (e0 : Int) t0) (News.isList (by assumption) (by k_mem)) (by decide) (by decide) rfl ?_ (by with_unfolding_all rfl)
          k_steps
          · rename (_ : Int) < _ => hq
            exact ⟨by simp [unseenIf, hlt]; omega, _, _, rfl, by assumption, fun p hp => (by assumption : News _ _ _ _) p (.tail _ hp)⟩
          · rename ¬ (_ : Int) < _ => hq
            exact ⟨by simp [unseenIf, hlt]; omega, _, _, rfl, by assumption, fun p hp => (by assumption : News _ _ _ _) p (.tail _ hp)⟩
    · k_steps
      exact ⟨by simp [unseenIf, hlt], _, _, rfl, F, N⟩
  · obtain ⟨rfl, h', tk, rfl, F', N'⟩ := h
    by_cases hc : unseenIf f ns.length es = true
    · rw [if_pos hc] at next ⊢
      refine wpAny_execs_cons ?_
      with_unfolding_all refine LCt.Assign_ListComp_T (F₀ := F') (by rfl) (by with_unfolding_all rfl) (by with_unfolding_all rfl) (by decide) (by rfl) (by decide) (by rfl) (by rfl) (by rfl) ?_
      k_steps
      have hz := iL.len
      refine LCt.CompSrcT.ledger hh (by assumption) (by assumption) hL (by rw [List.size_toArray, hz]; exact Nat.le_trans hcs (by decide)) fun g' => ?_
      refine rest_T (fun i => !decide (cs.getD i 0 ∈ [8203, 173])) (fun i y => ∃ t, y = .str (sg (cs.getD i 0)) t) (fun i v I oI C oC D m₂ ys h tk E' hi hv hC hx F N off ne => ?_) (fun ys hy D h tk F N o1 => ?_)
      · obtain ⟨c, hcc, tc, rfl⟩ := iL.get i (by simpa using hv)
        have hg : cs.getD i 0 = c := by simp [List.getD, hcc]
        rw [hg]
        k_steps
        all_goals first
          | exact LCg.CompEnd.intro F N news (fun p hp => hp) off (.inr ⟨_, hL, rfl, _, rfl⟩) ⟨rfl, _, rfl⟩
          | exact LCg.CompEnd.intro F N news (fun p hp => hp) off (.inr ⟨_, hL, rfl, _, rfl⟩) rfl
      · refine wpAny_execs_nil (next D ys ys.length h tk _ _ ?_ (if_pos rfl) (fun y hy => if_neg hy) F N (.head _) fun q hq => .tail _ hq)
        have e := hy.map (f := fun i => cs.getD i 0) (R' := fun c y => ∃ t, y = .str ⟨#[c]⟩ t) fun i y h => h
        have e2 := filter_getD cs fun c => !decide (c ∈ [8203, 173])
        skip
        rw [List.size_toArray, hz, e2] at e
        exact e
    · rw [if_neg hc] at next ⊢
      refine wpAny_execs_nil (next aL vL nL h' tk m news iL m2 (fun _ _ => rfl) F' N' hL fun q hq => hq)
end
end Mine
end

section
set_option maxHeartbeats 4000000
open PySem PySem.W PySem.Calls PyProof.Rows PySem.Challenge PyProof.V PySem.Spec
set_option maxRecDepth 100000
namespace Mine
local macro_rules | `(tactic| k_mem) => `(tactic| assumption)
local macro_rules | `(tactic| walk_at "eval Name") => `(tactic| (k_here; k_dflt (refine' nameX_L ?F ?v ?_ ?a ?b; (case F => k_asm); (case a => rfl); (case b => rfl); (case v => (try dsimp only); first | assumption | exact rfl | (refine (if_neg (by decide)).trans ?_; first | assumption | exact rfl | (refine (if_neg (by decide)).trans ?_; first | assumption | exact rfl | (refine (if_neg (by decide)).trans ?_; first | assumption | exact rfl)))); k_whole)))
local macro_rules | `(tactic| walk_at "compareOp NotEq ref ref") => `(tactic| (k_here; (with_reducible show wpAny _ _ (compareOp CmpOp.NotEq (Value.ref _) (Value.ref _)) _ _ _); k_dflt (first
  | (refine ne_signs (cs := _) (ds := []) (News.isList (by k_asm) (by k_mem)) (News.isList (by k_asm) (by k_mem)) (by assumption) .nil (by assumption) (fun _ h => nomatch h) (by first | assumption | omega) ?_)
  | (refine ne_nats (ks := _) (js := []) (News.isList (by k_asm) (by k_mem)) (News.isList (by k_asm) (by k_mem)) (by assumption) .nil (by first | assumption | omega) ?_))))
local macro_rules | `(tactic| walk_at "compareOp In str ref") => `(tactic| (k_here; (with_reducible show wpAny _ _ (compareOp CmpOp.In (Value.str _ _) (Value.ref _)) _ _ _); k_dflt (refine in_signs (News.isList (by k_asm) (by k_mem)) (by assumption) ?_)))
local macro_rules | `(tactic| walk_at "compareOp Eq ref ref") => `(tactic| (k_here; (with_reducible show wpAny _ _ (compareOp CmpOp.Eq (Value.ref _) (Value.ref _)) _ _ _); k_dflt (first
  | (refine eq_signs (cs := _) (ds := []) (News.isList (by k_asm) (by k_mem)) (News.isList (by k_asm) (by k_mem)) (by assumption) .nil (by assumption) (fun _ h => nomatch h) (by first | assumption | omega) ?_)
  | (refine eq_nats (ks := _) (js := []) (News.isList (by k_asm) (by k_mem)) (News.isList (by k_asm) (by k_mem)) (by assumption) .nil (by first | assumption | omega) ?_))))
local macro_rules | `(tactic| walk_at "call builtin:len") => `(tactic| (k_here; (with_reducible show wpAny _ _ (call (Value.builtin "len") [Value.ref _]) _ _ _); k_dflt (refine len_at (News.isList (by k_asm) (by k_mem)) (by assumption) (by omega) ?_)))
local macro_rules | `(tactic| walk_at "compareOp NotIn str ref") => `(tactic| (k_here; (with_reducible show wpAny _ _ (compareOp CmpOp.NotIn (Value.str _ _) (Value.ref _)) _ _ _); k_dflt (refine notin_signs (News.isList (by k_asm) (by k_mem)) (by assumption) ?_)))
local macro_rules | `(tactic| walk_at "subscriptTail Name Name ref int") => `(tactic| (k_here; (with_reducible show wpAny _ _ (subscriptTail _ _ (Value.ref _) (Value.int _ _)) _ _ _); k_dflt (refine item_at (News.isList (by k_asm) (by k_mem)) (by omega) (by omega) (by assumption) ?_ (by with_unfolding_all rfl))))
local macro_rules | `(tactic| walk_at "subscriptTail Name BinOp ref int") => `(tactic| (k_here; (with_reducible show wpAny _ _ (subscriptTail _ _ (Value.ref _) (Value.int _ _)) _ _ _); k_dflt (refine item_at (News.isList (by k_asm) (by k_mem)) (by omega) (by omega) (by assumption) ?_ (by with_unfolding_all rfl))))
/-- the rows' objects, the last first -/
inductive RowsR : List Value → List (Addr × Obj) → List (List Nat) → Prop
  | nil : RowsR [] [] []
  | cons {a : Addr} {v : List Value} {n : Nat} {cs : List Nat} {vs : List Value} {os : List (Addr × Obj)} {rs : List (List Nat)} : Signs v cs → RowsR vs os rs → RowsR (.ref a :: vs) ((a, W.listOf v.toArray n) :: os) (cs :: rs)
theorem RowsR.len {vs : List Value} {os : List (Addr × Obj)} {rs : List (List Nat)} (h : RowsR vs os rs) : vs.length = rs.length := by
  induction h with
  | nil => rfl
  | cons _ _ ih => simp [ih]
/-- a list's values are texts -/
noncomputable abbrev Txts (vs : List Value) (es : List (List Nat)) : Prop := Rel2 (fun e y => ∃ x t, y = .str x t ∧ x.cps.toList = e) vs es
/-- a sign more: the rows, the last first, and the ends, the last first -/
noncomputable def stepR (prev c : Nat) (st : List (List Nat) × List (List Nat)) : List (List Nat) × List (List Nat) :=
  if c = 10 ∧ prev = 13 then (st.1, [13, 10] :: st.2.tail)
  else if c = 10 ∨ c = 13 then ([] :: st.1, [c] :: st.2)
  else ((st.1.headD [] ++ [c]) :: st.1.tail, st.2)
noncomputable def splitR : Nat → List Nat → List (List Nat) × List (List Nat) → List (List Nat) × List (List Nat)
  | _, [], st => st
  | prev, c :: l, st => splitR c l (stepR prev c st)
theorem ofs_nl : Str.ofString "\n" = sg 10 := by decide +kernel
theorem ofs_cr : Str.ofString "\r" = sg 13 := by decide +kernel
section
variable {w : World} {A : Around} {E : Value → Shared → Prop} {s : Shared} {g : Heap} {L : Addr} {m : Str → Option Value} {news rest : List (Addr × Obj)} {mg mb : Str → Option Value} {mean : ExcName → Option Value} {Q : Flow → Shared → Prop} {lS lR aU : Addr} {vS vR : List Value} {cs : List Nat} {ns : List Int} {oR oU : Obj}
noncomputable def forBody (st : Stmt) : List Stmt := match st with | .For _ _ b _ _ => b | _ => []
noncomputable def ifTest (st : Stmt) : Expr := match st with | .If t _ _ _ => t | _ => default
noncomputable def ifElse (st : Stmt) : List Stmt := match st with | .If _ _ e _ => e | _ => []
noncomputable def f9 : Stmt := nth (forBody (stT 9)) 0
noncomputable def f9e : Stmt := nth (ifElse f9) 0
/-- the first test of the loop over the signs -/
theorem t_pair (F : Fr g L s.heap m) (X : (KF w.params).In g) {aL : Addr} {vL : List Value} {nL i c p : Nat} {tk : Tok} (N : News g L s.heap news) (hL : (aL, W.listOf vL.toArray nL) ∈ news) (hi : i ≤ 100)
    (m1 : m (Str.ofString "left") = some (.ref aL)) (m2 : m (Str.ofString "k") = some (.int (i : Int) tk)) {tc tp : Tok} (hc : vL.toArray[(i : Int).toNat]? = some (.str (sg c) tc)) (hp : 0 < i → vL.toArray[((i : Int) - 1).toNat]? = some (.str (sg p) tp)) (h0 : i = 0 → p = 0) :
    wpAny (model pw w) A (isTrue (ifTest f9) (envTd L) (eval (ifTest f9) (envTd L))) (TEnd (decide (c = 10 ∧ p = 13)) s g L m news) (fun _ _ => False) s := by
  have hfrag : rw_re0099_01 = rw_re0099_01 ∧ KF = KF := by (k_fill; exact ⟨rfl, rfl⟩)
  clear hfrag
  conv in ifTest _ => whnf
  conv in ifTest _ => whnf
  by_cases hi0 : i = 0
  · have hp0 := h0 hi0
    clear h0 hp
    k_steps
    all_goals (refine ⟨?_, _, _, rfl, F, N⟩; simp only [ofs_nl, ofs_cr, one_eq, decide_eq_true_eq, decide_eq_false_iff_not] at *; simp_all)
  · have hp := hp (by omega)
    clear h0
    k_steps
    all_goals (refine ⟨?_, _, _, rfl, F, N⟩; simp only [ofs_nl, ofs_cr, one_eq, decide_eq_true_eq, decide_eq_false_iff_not] at *; simp_all)
/-- the second -/
theorem t_end (F : Fr g L s.heap m) (X : (KF w.params).In g) {aL : Addr} {vL : List Value} {nL i c : Nat} {tk : Tok} (N : News g L s.heap news) (hL : (aL, W.listOf vL.toArray nL) ∈ news) (hi : i ≤ 100)
    (m1 : m (Str.ofString "left") = some (.ref aL)) (m2 : m (Str.ofString "k") = some (.int (i : Int) tk)) {tc : Tok} (hc : vL.toArray[(i : Int).toNat]? = some (.str (sg c) tc)) :
    wpAny (model pw w) A (isTrue (ifTest f9e) (envTd L) (eval (ifTest f9e) (envTd L))) (TEnd (decide (c = 10 ∨ c = 13)) s g L m news) (fun _ _ => False) s := by
  conv in ifTest _ => whnf
  conv in ifTest _ => whnf
  k_steps
  all_goals (refine ⟨?_, _, _, rfl, F, N⟩; simp only [ofs_nl, ofs_cr, one_eq, decide_eq_true_eq, decide_eq_false_iff_not] at *; simp_all)
theorem upd_mid {d : Addr} {o o' : Obj} {post : List (Addr × Obj)} : ∀ {pre : List (Addr × Obj)}, (∀ q ∈ pre, q.1 ≠ d) → (∀ q ∈ post, q.1 ≠ d) → Upd d o o' (pre ++ (d, o) :: post) (pre ++ (d, o') :: post)
  | [], _, h => .head h
  | p :: pre, h1, h2 => .tail (h1 p (.head _)) (upd_mid (fun q hq => h1 q (.tail _ hq)) h2)
theorem ki_last (v : Value) : ∀ (zs : List Value) (y : Value), ki_setL (zs ++ [y]) zs.length v = some (zs ++ [v])
  | [], y => rfl
  | z :: zs, y => by
    show ki_setL (z :: (zs ++ [y])) (zs.length + 1) v = _
    simp only [ki_setL, ki_last v zs y, Option.map_some]
    rfl
/-- an end made both signs -/
theorem b_pair (F : Fr g L s.heap m) (X : (KF w.params).In g) {aN : Addr} {vN : List Value} {nN : Nat} {er : List (List Nat)} {e0 : List Nat} {pre post : List (Addr × Obj)} (N : News g L s.heap (pre ++ (aN, W.listOf vN.toArray nN) :: post))
    (ho1 : ∀ q ∈ pre, q.1 ≠ aN) (ho2 : ∀ q ∈ post, q.1 ≠ aN) (iN : Txts vN (e0 :: er).reverse) (hz : er.length ≤ 100) (m1 : m (Str.ofString "ends") = some (.ref aN))
    (next : ∀ vN' h' tk, Txts vN' ([13, 10] :: er).reverse → Fr g L h' m → News g L h' (pre ++ (aN, W.listOf vN'.toArray nN) :: post) → Q .next { s with heap := h', toks := tk }) :
    wpAny (model pw w) A (exec (nth (ifBody f9) 0) (envTd L)) Q (fun _ _ => False) s := by
  conv in nth _ _ => whnf
  rw [List.reverse_cons] at iN
  obtain ⟨zs, y, rfl, iz, _⟩ := rel_snoc iN
  k_steps
  have hzl : zs.length ≤ 100 := by rw [iz.len]; simpa using hz
  refine ki_setNeg (j := zs.length) (q := zs ++ [.str (Str.ofString "\r\n") s.toks]) F N (by decide) (by decide) ?_ (ki_last _ zs y) (upd_mid ho1 ho2) fun h' F' N' => ?_
  · rw [PySem.seqIndex_neg (by decide) (by simp; omega)]
    simp
    omega
  · refine next _ h' _ ?_ F' N'
    rw [List.reverse_cons]
    exact iz.snoc ⟨_, _, rfl, by decide +kernel⟩
/-- an end more -/
theorem b_end (F : Fr g L s.heap m) (X : (KF w.params).In g) {aN aL : Addr} {vN vL : List Value} {nN nL i c : Nat} {tk : Tok} {er : List (List Nat)} {pre post : List (Addr × Obj)} (N : News g L s.heap (pre ++ (aN, W.listOf vN.toArray nN) :: post))
    (ho1 : ∀ q ∈ pre, q.1 ≠ aN) (ho2 : ∀ q ∈ post, q.1 ≠ aN) (iN : Txts vN er.reverse) (hz : er.length ≤ 100) (m1 : m (Str.ofString "ends") = some (.ref aN))
    (hL : (aL, W.listOf vL.toArray nL) ∈ post) (hi : i ≤ 100) (m2 : m (Str.ofString "left") = some (.ref aL)) (m3 : m (Str.ofString "k") = some (.int (i : Int) tk)) {tc : Tok} (hc : vL.toArray[(i : Int).toNat]? = some (.str (sg c) tc))
    (next : ∀ vN' nN' h' tk, Txts vN' ([c] :: er).reverse → Fr g L h' m → News g L h' (pre ++ (aN, W.listOf vN'.toArray nN') :: post) → Q .next { s with heap := h', toks := tk }) :
    wpAny (model pw w) A (exec (nth (ifBody f9e) 0) (envTd L)) Q (fun _ _ => False) s := by
  conv in nth _ _ => whnf
  have hm1 : (aN, W.listOf vN.toArray nN) ∈ pre ++ (aN, W.listOf vN.toArray nN) :: post := List.mem_append_right _ (.head _)
  have hm2 : (aL, W.listOf vL.toArray nL) ∈ pre ++ (aN, W.listOf vN.toArray nN) :: post := List.mem_append_right _ (.tail _ hL)
  have hzl : vN.length ≤ 100 := by rw [iN.len]; simpa using hz
  k_steps
  refine append_K F N (upd_mid ho1 ho2) (fun h' F' N' => ?_) (by rw [List.size_toArray]; exact Nat.le_trans hzl (by decide))
  rw [List.push_toArray] at N'
  refine next _ _ h' _ ?_ F' N'
  rw [List.reverse_cons]
  exact iN.snoc ⟨_, _, rfl, rfl⟩
/-- a row more -/
theorem b_rows (F : Fr g L s.heap m) (X : (KF w.params).In g) {aW : Addr} {vW : List Value} {nW : Nat} {post : List (Addr × Obj)} {pre : List (Addr × Obj)} (N : News g L s.heap (pre ++ (aW, W.listOf vW.toArray nW) :: post))
    (ho1 : ∀ q ∈ pre, q.1 ≠ aW) (ho2 : ∀ q ∈ post, q.1 ≠ aW) (hz : vW.length ≤ 100) (m1 : m (Str.ofString "rows") = some (.ref aW))
    (next : ∀ D nW' h' tk, Fr g L h' m → News g L h' ((D, W.listOf #[] 0) :: (pre ++ (aW, W.listOf (vW ++ [Value.ref D]).toArray nW') :: post)) → (∀ q ∈ pre ++ (aW, W.listOf vW.toArray nW) :: post, q.1 < D) → Q .next { s with heap := h', toks := tk }) :
    wpAny (model pw w) A (exec (nth (ifBody f9e) 1) (envTd L)) Q (fun _ _ => False) s := by
  conv in nth _ _ => whnf
  have hm1 : (aW, W.listOf vW.toArray nW) ∈ pre ++ (aW, W.listOf vW.toArray nW) :: post := List.mem_append_right _ (.head _)
  k_steps
  rename ∀ p ∈ _, _ < _ => hlt
  refine append_K (by assumption) (by assumption) (upd_mid (pre := (_, _) :: pre) (fun q hq => ?_) ho2) (fun h' F' N' => ?_) (by rw [List.size_toArray]; exact Nat.le_trans hz (by decide))
  · rcases List.mem_cons.mp hq with rfl | hq
    · exact Nat.ne_of_gt (hlt _ hm1)
    · exact ho1 q hq
  · rw [List.push_toArray] at N'
    exact next _ _ h' _ F' N' hlt
/-- a sign more in the last row -/
theorem b_row (F : Fr g L s.heap m) (X : (KF w.params).In g) {aW a aL : Addr} {vW v vL : List Value} {nW n nL i c : Nat} {tk : Tok} {post : List (Addr × Obj)} {pre : List (Addr × Obj)} (N : News g L s.heap (pre ++ (a, W.listOf v.toArray n) :: post))
    (ho1 : ∀ q ∈ pre, q.1 ≠ a) (ho2 : ∀ q ∈ post, q.1 ≠ a) (hz : v.length ≤ 100) (hzw : vW.length ≤ 100) (hW : (aW, W.listOf (vW ++ [Value.ref a]).toArray nW) ∈ pre) (m1 : m (Str.ofString "rows") = some (.ref aW))
    (hL : (aL, W.listOf vL.toArray nL) ∈ post) (hi : i ≤ 100) (m2 : m (Str.ofString "left") = some (.ref aL)) (m3 : m (Str.ofString "k") = some (.int (i : Int) tk)) {tc : Tok} (hc : vL.toArray[(i : Int).toNat]? = some (.str (sg c) tc))
    (next : ∀ n' h' tk, Fr g L h' m → News g L h' (pre ++ (a, W.listOf (v ++ [Value.str (sg c) tc]).toArray n') :: post) → Q .next { s with heap := h', toks := tk }) :
    wpAny (model pw w) A (exec (nth (ifElse f9e) 0) (envTd L)) Q (fun _ _ => False) s := by
  conv in nth _ _ => whnf
  have hm1 : (a, W.listOf v.toArray n) ∈ pre ++ (a, W.listOf v.toArray n) :: post := List.mem_append_right _ (.head _)
  have hm2 : (aL, W.listOf vL.toArray nL) ∈ pre ++ (a, W.listOf v.toArray n) :: post := List.mem_append_right _ (.tail _ hL)
  have hm3 : (aW, W.listOf (vW ++ [Value.ref a]).toArray nW) ∈ pre ++ (a, W.listOf v.toArray n) :: post := List.mem_append_left _ hW
  k_steps
  refine item_last (v := .ref a) (News.isList N hm3) rfl (by simp) (by simp) ?_ (by with_unfolding_all rfl)
  k_steps
  refine append_K F N (upd_mid ho1 ho2) (fun h' F' N' => ?_) (by rw [List.size_toArray]; exact Nat.le_trans hz (by decide))
  rw [List.push_toArray] at N'
  exact next _ h' _ F' N'
end
end Mine
end

section
set_option maxHeartbeats 4000000
open PySem PySem.W PySem.Calls PyProof.Rows PySem.Challenge PyProof.V PySem.Spec
set_option maxRecDepth 100000
namespace Mine
section
variable {w : World} {A : Around} {E : Value → Shared → Prop} {s : Shared} {g : Heap} {L : Addr} {m : Str → Option Value} {news rest : List (Addr × Obj)} {mg mb : Str → Option Value} {mean : ExcName → Option Value} {Q : Flow → Shared → Prop} {lS lR aU : Addr} {vS vR : List Value} {cs : List Nat} {ns : List Int} {oR oU : Obj}
theorem f9_eq : ∃ pos, f9 = .If (ifTest f9) [nth (ifBody f9) 0] [f9e] pos := ⟨_, rfl⟩
theorem f9e_eq : ∃ pos, f9e = .If (ifTest f9e) [nth (ifBody f9e) 0, nth (ifBody f9e) 1] [nth (ifElse f9e) 0] pos := ⟨_, rfl⟩
theorem b_turn (F : Fr g L s.heap m) (X : (KF w.params).In g) {I aW aN aL : Addr} {oI : Obj} {vs vN vL : List Value} {os : List (Addr × Obj)} {rs es : List (List Nat)} {nW nN nL i c p : Nat} {tk : Tok}
    (N : News g L s.heap ((I, oI) :: (aW, W.listOf vs.reverse.toArray nW) :: (aN, W.listOf vN.toArray nN) :: (os ++ rest)))
    (hnd : (I :: aW :: aN :: os.map (·.1)).Nodup) (hre : ∀ q ∈ rest, q.1 ∉ I :: aW :: aN :: os.map (·.1)) (iR : RowsR vs os rs) (iN : Txts vN es.reverse) (hr0 : rs ≠ []) (hrz : rs.length ≤ 100) (hez : es.length ≤ 100) (hrr : ∀ r ∈ rs, r.length ≤ 100)
    (m0 : m (Str.ofString "rows") = some (.ref aW)) (m4 : m (Str.ofString "ends") = some (.ref aN))
    (hL : (aL, W.listOf vL.toArray nL) ∈ rest) (hi : i ≤ 100)
    (m1 : m (Str.ofString "left") = some (.ref aL)) (m2 : m (Str.ofString "k") = some (.int (i : Int) tk)) {tc tp : Tok} (hc : vL.toArray[(i : Int).toNat]? = some (.str (sg c) tc)) (hp : 0 < i → vL.toArray[((i : Int) - 1).toNat]? = some (.str (sg p) tp)) (h0 : i = 0 → p = 0) (hpe : p = 13 → es ≠ [])
    (next : ∀ vs' os' vN' nW' nN' h' tk, RowsR vs' os' (stepR p c (rs, es)).1 → Txts vN' (stepR p c (rs, es)).2.reverse → Fr g L h' m → News g L h' ((I, oI) :: (aW, W.listOf vs'.reverse.toArray nW') :: (aN, W.listOf vN'.toArray nN') :: (os' ++ rest)) →
      (I :: aW :: aN :: os'.map (·.1)).Nodup → (∀ q ∈ rest, q.1 ∉ I :: aW :: aN :: os'.map (·.1)) → Q .next { s with heap := h', toks := tk }) :
    wpAny (model pw w) A (execs (forBody (stT 9)) (envTd L)) Q (fun _ _ => False) s := by
  show wpAny _ _ (execs [f9] _) _ _ _
  refine wpAny_execs_cons ?_
  obtain ⟨pos, e9⟩ := f9_eq
  obtain ⟨pos2, e9e⟩ := f9e_eq
  rw [e9]
  have d1 := List.nodup_cons.mp hnd
  have d2 := List.nodup_cons.mp d1.2
  have d3 := List.nodup_cons.mp d2.2
  have hIW : I ≠ aW := fun e => d1.1 (by rw [e]; simp)
  have hIN : I ≠ aN := fun e => d1.1 (by rw [e]; simp)
  have hWN : aW ≠ aN := fun e => d2.1 (by rw [e]; simp)
  have hosW : ∀ q ∈ os, q.1 ≠ aW := fun q hq e => d2.1 (by rw [← e]; exact List.mem_cons_of_mem _ (List.mem_map_of_mem hq))
  have hosN : ∀ q ∈ os, q.1 ≠ aN := fun q hq e => d3.1 (by rw [← e]; exact List.mem_map_of_mem hq)
  have hosI : ∀ q ∈ os, q.1 ≠ I := fun q hq e => d1.1 (by rw [← e]; exact List.mem_cons_of_mem _ (List.mem_cons_of_mem _ (List.mem_map_of_mem hq)))
  have hreW : ∀ q ∈ rest, q.1 ≠ aW := fun q hq e => hre q hq (by rw [e]; simp)
  have hreN : ∀ q ∈ rest, q.1 ≠ aN := fun q hq e => hre q hq (by rw [e]; simp)
  refine wpAny_If ?_
  refine wpAny_mono (t_pair F X N (.tail _ (.tail _ (.tail _ (List.mem_append_right _ hL)))) hi m1 m2 hc hp h0) (fun b s₂ h => ?_) (fun _ _ h => h)
  obtain ⟨rfl, h', tk', rfl, F', N'⟩ := h
  by_cases hc1 : c = 10 ∧ p = 13
  · rw [if_pos (decide_eq_true hc1)]
    have hs : stepR p c (rs, es) = (rs, [13, 10] :: es.tail) := by unfold stepR; rw [if_pos hc1]
    rw [hs] at next
    cases es with
    | nil => exact absurd rfl (hpe hc1.2)
    | cons e0 er =>
      refine wpAny_execs_cons (b_pair (pre := [(I, oI), (aW, W.listOf vs.reverse.toArray nW)]) F' X N' (by simp [hIN, hWN]) (fun q hq => (List.mem_append.mp hq).elim (hosN q) (hreN q)) iN (by simp at hez; omega) m4 fun vN' h2 tk2 iN' F2 N2 => ?_)
      refine wpAny_execs_nil (wpAny_execs_nil ?_)
      exact next vs os vN' nW nN h2 tk2 iR iN' F2 N2 hnd hre
  · rw [if_neg (by rw [decide_eq_false hc1]; exact Bool.false_ne_true)]
    refine wpAny_execs_cons ?_
    rw [e9e]
    refine wpAny_If ?_
    refine wpAny_mono (t_end F' X N' (.tail _ (.tail _ (.tail _ (List.mem_append_right _ hL)))) hi m1 m2 hc) (fun b s₂ h => ?_) (fun _ _ h => h)
    obtain ⟨rfl, h2, tk2, rfl, F2, N2⟩ := h
    by_cases hc2 : c = 10 ∨ c = 13
    · rw [if_pos (decide_eq_true hc2)]
      have hs : stepR p c (rs, es) = ([] :: rs, [c] :: es) := by unfold stepR; rw [if_neg hc1, if_pos hc2]
      rw [hs] at next
      refine wpAny_execs_cons (b_end (pre := [(I, oI), (aW, W.listOf vs.reverse.toArray nW)]) F2 X N2 (by simp [hIN, hWN]) (fun q hq => (List.mem_append.mp hq).elim (hosN q) (hreN q)) iN hez m4 (List.mem_append_right _ hL) hi m1 m2 hc fun vN' nN' h3 tk3 iN' F3 N3 => ?_)
      refine wpAny_execs_cons (b_rows (pre := [(I, oI)]) F3 X N3 (by simp [hIW]) (fun q hq => ?_) (by rw [List.length_reverse, iR.len]; exact hrz) m0 fun D nW' h4 tk4 F4 N4 hD => ?_)
      · rcases List.mem_cons.mp hq with rfl | hq
        · exact fun e => hWN e.symm
        · exact (List.mem_append.mp hq).elim (hosW q) (hreW q)
      · have hDI : I < D := hD (I, oI) (.head _)
        have hDW : aW < D := hD (aW, _) (.tail _ (.head _))
        have hDN : aN < D := hD (aN, _) (.tail _ (.tail _ (.head _)))
        have hDo : ∀ q ∈ os, q.1 < D := fun q hq => hD q (.tail _ (.tail _ (.tail _ (List.mem_append_left _ hq))))
        have hDr : ∀ q ∈ rest, q.1 < D := fun q hq => hD q (.tail _ (.tail _ (.tail _ (List.mem_append_right _ hq))))
        have hDm : D ∉ os.map (·.1) := fun hm => by
          obtain ⟨q, hq, e⟩ := List.mem_map.mp hm
          exact absurd (hDo q hq) (by rw [e]; exact Nat.lt_irrefl _)
        refine wpAny_execs_nil (wpAny_execs_nil (wpAny_execs_nil ?_))
        refine next (.ref D :: vs) ((D, W.listOf [].toArray 0) :: os) vN' nW' nN' h4 tk4 (.cons .nil iR) iN' F4 (fun q hq => ?_) ?_ (fun q hq hm => ?_)
        · rw [List.reverse_cons] at hq
          have N5 : News g L h4 ((D, W.listOf [].toArray 0) :: (I, oI) :: (aW, W.listOf (vs.reverse ++ [Value.ref D]).toArray nW') :: (aN, W.listOf vN'.toArray nN') :: (os ++ rest)) := N4
          refine N5 q ?_
          simp only [List.cons_append, List.nil_append, List.mem_cons, List.mem_append] at hq ⊢
          rcases hq with h | h | h | h | h | h
          · exact .inr (.inl h)
          · exact .inr (.inr (.inl h))
          · exact .inr (.inr (.inr (.inl h)))
          · exact .inl h
          · exact .inr (.inr (.inr (.inr (.inl h))))
          · exact .inr (.inr (.inr (.inr (.inr h))))
        · simp only [List.map_cons, List.nodup_cons, List.mem_cons, not_or]
          exact ⟨⟨hIW, hIN, Nat.ne_of_lt hDI, fun hm => d1.1 (by simp [hm])⟩, ⟨hWN, Nat.ne_of_lt hDW, fun hm => d2.1 (by simp [hm])⟩, ⟨Nat.ne_of_lt hDN, d3.1⟩, hDm, d3.2⟩
        · simp only [List.map_cons, List.mem_cons] at hm
          rcases hm with h | h | h | h | h
          · exact hre q hq (by rw [h]; simp)
          · exact hre q hq (by rw [h]; simp)
          · exact hre q hq (by rw [h]; simp)
          · exact absurd (hDr q hq) (by rw [h]; exact Nat.lt_irrefl _)
          · exact hre q hq (by simp [h])
    · rw [if_neg (by rw [decide_eq_false hc2]; exact Bool.false_ne_true)]
      have hs : stepR p c (rs, es) = ((rs.headD [] ++ [c]) :: rs.tail, es) := by unfold stepR; rw [if_neg hc1, if_neg hc2]
      rw [hs] at next
      cases iR with
      | nil => exact absurd rfl hr0
      | @cons a v n r0 vs' os' rs' iv iR' =>
        have hz0 := hrr r0 (.head _)
        have hz1 : vs'.length ≤ 100 := by
          have := iR'.len
          simp at hrz
          omega
        rw [List.reverse_cons] at N2
        have dd := List.nodup_cons.mp d3.2
        refine wpAny_execs_cons (b_row (pre := [(I, oI), (aW, W.listOf (vs'.reverse ++ [Value.ref a]).toArray nW), (aN, W.listOf vN.toArray nN)]) (post := os' ++ rest) (v := v) (n := n) F2 X N2 ?_ (fun q hq => ?_) (by rw [iv.len]; exact hz0) (by rw [List.length_reverse]; exact hz1) (.tail _ (.head _)) m0 (List.mem_append_right _ hL) hi m1 m2 hc fun n' h3 tk3 F3 N3 => ?_)
        · intro q hq
          have h1 := hosI (a, _) (.head _)
          have h2 := hosW (a, _) (.head _)
          have h3 := hosN (a, _) (.head _)
          simp only [List.mem_cons, List.not_mem_nil, or_false] at hq
          rcases hq with rfl | rfl | rfl
          · exact fun e => h1 e.symm
          · exact fun e => h2 e.symm
          · exact fun e => h3 e.symm
        · rcases List.mem_append.mp hq with h | h
          · exact fun e => dd.1 (by have hm := List.mem_map_of_mem (f := fun q : Addr × Obj => q.1) h; rw [e] at hm; exact hm)
          · exact fun e => hre q h (by rw [e]; simp)
        · refine wpAny_execs_nil (wpAny_execs_nil (wpAny_execs_nil ?_))
          refine next (.ref a :: vs') ((a, W.listOf (v ++ [Value.str (sg c) tc]).toArray n') :: os') vN nW nN h3 tk3 (.cons (iv.snoc ⟨tc, rfl⟩) iR') iN F3 (by rw [List.reverse_cons]; exact N3) hnd hre
end
end Mine
end

section
set_option maxHeartbeats 4000000
open PySem PySem.W PySem.Calls PyProof.Rows PySem.Challenge PyProof.V PySem.Spec
set_option maxRecDepth 100000
namespace Mine
local macro_rules | `(tactic| k_mem) => `(tactic| assumption)
local macro_rules | `(tactic| walk_at "eval Name") => `(tactic| (k_here; k_dflt (refine' nameX_L ?F ?v ?_ ?a ?b; (case F => k_asm); (case a => rfl); (case b => rfl); (case v => (try dsimp only); first | assumption | exact rfl | (refine (if_neg (by decide)).trans ?_; first | assumption | exact rfl | (refine (if_neg (by decide)).trans ?_; first | assumption | exact rfl | (refine (if_neg (by decide)).trans ?_; first | assumption | exact rfl)))); k_whole)))
local macro_rules | `(tactic| walk_at "call builtin:len") => `(tactic| (k_here; (with_reducible show wpAny _ _ (call (Value.builtin "len") [Value.ref _]) _ _ _); k_dflt (refine len_at (News.isList (by k_asm) (by k_mem)) (by assumption) (by omega) ?_)))
section
variable {w : World} {A : Around} {E : Value → Shared → Prop} {s : Shared} {g : Heap} {L : Addr} {m : Str → Option Value} {news rest : List (Addr × Obj)} {mg mb : Str → Option Value} {mean : ExcName → Option Value} {Q : Flow → Shared → Prop} {lS lR aU : Addr} {vS vR : List Value} {cs : List Nat} {ns : List Int} {oR oU : Obj}
theorem s_rows (F : Fr g L s.heap m) (X : (KF w.params).In g) (N : News g L s.heap news)
    (next : ∀ r0 aW h' tk, Fr g L h' (fun z => if z = Str.ofString "rows" then some (.ref aW) else m z) → News g L h' ((aW, W.listOf #[.ref r0] 0) :: (r0, W.listOf #[] 0) :: news) → r0 < aW → (∀ q ∈ news, q.1 < r0) → Q .next { s with heap := h', toks := tk }) :
    wpAny (model pw w) A (exec (stT 7) (envTd L)) Q (fun _ _ => False) s := by
  have hfrag : rw_re0099_01 = rw_re0099_01 ∧ KF = KF := by (k_fill; exact ⟨rfl, rfl⟩)
  clear hfrag
  conv in stT _ => whnf
  k_steps
  rename _ ∧ AllLt _ _ => hl2
  exact next _ _ _ _ (by assumption) (by assumption) hl2.1 (by assumption)
theorem s_ends (F : Fr g L s.heap m) (X : (KF w.params).In g) (N : News g L s.heap news)
    (next : ∀ aN h' tk, Fr g L h' (fun z => if z = Str.ofString "ends" then some (.ref aN) else m z) → News g L h' ((aN, W.listOf #[] 0) :: news) → (∀ q ∈ news, q.1 < aN) → Q .next { s with heap := h', toks := tk }) :
    wpAny (model pw w) A (exec (stT 8) (envTd L)) Q (fun _ _ => False) s := by
  conv in stT _ => whnf
  k_steps
  exact next _ _ _ (by assumption) (by assumption) (by assumption)
theorem stepR_pos {p c : Nat} {st : List (List Nat) × List (List Nat)} (h : st.1 ≠ []) : (stepR p c st).1 ≠ [] := by
  unfold stepR
  split
  · exact h
  · split
    · simp
    · simp
theorem stepR_len {p c n : Nat} {st : List (List Nat) × List (List Nat)} (h0 : st.1 ≠ []) (h1 : st.1.length ≤ n + 1) (h2 : st.2.length ≤ n) (h3 : ∀ r ∈ st.1, r.length ≤ n) :
    (stepR p c st).1.length ≤ n + 1 + 1 ∧ (stepR p c st).2.length ≤ n + 1 ∧ ∀ r ∈ (stepR p c st).1, r.length ≤ n + 1 := by
  obtain ⟨rs, es⟩ := st
  dsimp only at h0 h1 h2 h3
  unfold stepR
  split
  · exact ⟨by dsimp only; omega, by simp; omega, fun r hr => Nat.le_succ_of_le (h3 r hr)⟩
  · split
    · refine ⟨by simp; omega, by simp; omega, fun r hr => ?_⟩
      rcases List.mem_cons.mp hr with rfl | hr
      · simp
      · exact Nat.le_succ_of_le (h3 r hr)
    · cases rs with
      | nil => exact absurd rfl h0
      | cons r0 rt =>
        refine ⟨by simp at h1 ⊢; omega, by dsimp only; omega, fun r hr => ?_⟩
        rcases List.mem_cons.mp hr with rfl | hr
        · have := h3 r0 (.head _)
          simp; omega
        · exact Nat.le_succ_of_le (h3 r (List.mem_cons_of_mem _ hr))
theorem stepR_end {p : Nat} {st : List (List Nat) × List (List Nat)} : (stepR p 13 st).2 ≠ [] := by
  unfold stepR
  split
  · simp
  · simp
noncomputable def prevOf (cs : List Nat) (i : Nat) : Nat := if i = 0 then 0 else cs.getD (i - 1) 0
theorem s_split (hh : A.handled = none) (F : Fr g L s.heap m) (X : (KF w.params).In g) (T : Top vw (looseW vw lsn) mean mg mb g) {aW aN aL r0 : Addr} {vL : List Value} {nW nN n0 nL : Nat}
    (N : News g L s.heap ((aW, W.listOf #[.ref r0] nW) :: (aN, W.listOf #[] nN) :: ((r0, W.listOf #[] n0) :: rest)))
    (hnd : [aW, aN, r0].Nodup) (hre : ∀ q ∈ rest, q.1 ∉ [aW, aN, r0])
    (m0 : m (Str.ofString "rows") = some (.ref aW)) (m4 : m (Str.ofString "ends") = some (.ref aN)) (hL : (aL, W.listOf vL.toArray nL) ∈ rest) (iL : Signs vL cs) (hcs : cs.length ≤ 8) (m1 : m (Str.ofString "left") = some (.ref aL))
    (next : ∀ vs os vN nW' nN' h' tk m', RowsR vs os (splitR 0 cs ([[]], [])).1 → Txts vN (splitR 0 cs ([[]], [])).2.reverse → (∀ y, y ≠ Str.ofString "k" → m' y = m y) → Fr g L h' m' → News g L h' ((aW, W.listOf vs.reverse.toArray nW') :: (aN, W.listOf vN.toArray nN') :: (os ++ rest)) → Q .next { s with heap := h', toks := tk }) :
    wpAny (model pw w) A (exec (stT 9) (envTd L)) Q (fun _ _ => False) s := by
  conv in stT _ => whnf
  have hlen := iL.len
  have hb : cs.length ≤ 900 := Nat.le_trans hcs (by decide)
  have hcs' := Hid'.mk hcs
  clear hcs
  with_unfolding_all refine For_invVF F (by exact rfl) (by exact rfl) ?_
  k_steps
  rename IsRange _ _ _ _ _ _ _ _ => hr
  let J : Nat → (Str → Option Value) → List (Addr × Obj) → Prop := fun i m₁ news₁ => ∃ vs os vN nW' nN' st, st.1 ≠ [] ∧ st.1.length ≤ i + 1 ∧ st.2.length ≤ i ∧ (∀ r ∈ st.1, r.length ≤ i) ∧ (prevOf cs i = 13 → st.2 ≠ []) ∧ splitR (prevOf cs i) (cs.drop i) st = splitR 0 cs ([[]], []) ∧ RowsR vs os st.1 ∧ Txts vN st.2.reverse ∧ (∀ y, y ≠ Str.ofString "k" → m₁ y = m y) ∧
    news₁ = (aW, W.listOf vs.reverse.toArray nW') :: (aN, W.listOf vN.toArray nN') :: (os ++ rest) ∧ (aW :: aN :: os.map (·.1)).Nodup ∧ ∀ q ∈ rest, q.1 ∉ aW :: aN :: os.map (·.1)
  refine iter_range (n := cs.length) J hh hr (by exact small_one (by decide) (by decide) (by omega) (by omega)) (by rw [rangeSize_nat]; simp) (by assumption) (by assumption) ?_ ?_ ?_
  · exact ⟨[.ref r0], [(r0, W.listOf [].toArray n0)], [], nW, nN, ([[]], []), by simp, by simp, by simp, by simp, fun h => by simp [prevOf] at h, by simp [prevOf], .cons .nil .nil, .nil, fun _ _ => rfl, rfl, hnd, hre⟩
  · rintro i t m₁ news₁ h tk I oI hi ⟨vs, os, vN, nW', nN', ⟨rs, es⟩, h0, h1, h2, h3, h13, hfin, iR, iN, hm, rfl, hnd', hre'⟩ hoff F₁ N₁
    dsimp only at h0 h1 h2 h3 h13 iR iN
    obtain ⟨v, hv, tc, rfl⟩ := iL.at i (List.getElem?_eq_getElem hi)
    have hci : cs.getD i 0 = cs[i] := by simp [List.getD, hi]
    have hprev : ∃ tp, 0 < i → vL.toArray[((i : Int) - 1).toNat]? = some (.str (sg (prevOf cs i)) tp) := by
      by_cases hi0 : 0 < i
      · obtain ⟨v, hv, tp, rfl⟩ := iL.at (i - 1) (List.getElem?_eq_getElem (show i - 1 < cs.length by omega))
        refine ⟨tp, fun _ => ?_⟩
        have e : prevOf cs i = cs[i - 1] := by unfold prevOf; rw [if_neg (by omega)]; simp [List.getD, show i - 1 < cs.length by omega]
        rw [e, show ((i : Int) - 1).toNat = i - 1 by omega]
        simpa using hv
      · exact ⟨0, fun h => absurd h hi0⟩
    obtain ⟨tp, hp⟩ := hprev
    have hcs8 := hcs'.e
    refine b_turn (m := fun y => if y = Str.ofString "k" then some (.int (i : Int) t) else m₁ y) (c := cs[i]) (p := prevOf cs i) (tc := tc) (tp := tp) F₁ X N₁ ?_ ?_ iR iN h0 (by omega) (by omega) (fun r hr => by have := h3 r hr; omega) ?_ ?_ hL (by omega) ?_ (if_pos rfl) (by simpa using hv) hp (fun h => by simp [prevOf, h]) h13 ?_
    · refine List.nodup_cons.mpr ⟨fun hm => ?_, hnd'⟩
      simp only [List.mem_cons, List.mem_map] at hm
      rcases hm with e | e | ⟨q, hq, e⟩
      · exact hoff (aW, _) (.head _) e.symm
      · exact hoff (aN, _) (.tail _ (.head _)) e.symm
      · exact hoff q (.tail _ (.tail _ (List.mem_append_left _ hq))) e
    · intro q hq hm
      rcases List.mem_cons.mp hm with e | hm
      · exact hoff q (.tail _ (.tail _ (List.mem_append_right _ hq))) e
      · exact hre' q hq hm
    · exact (if_neg (by decide)).trans ((hm _ (by decide)).trans m0)
    · exact (if_neg (by decide)).trans ((hm _ (by decide)).trans m4)
    · exact (if_neg (by decide)).trans ((hm _ (by decide)).trans m1)
    · intro vs' os' vN' nW'' nN'' h' tk' iR' iN' F' N' hnd2 hre2
      have hl := stepR_len (p := prevOf cs i) (c := cs[i]) (n := i) (st := (rs, es)) h0 h1 h2 h3
      refine ⟨h', tk', _, _, rfl, F', N', fun q hq e => ?_, vs', os', vN', nW'', nN'', stepR (prevOf cs i) cs[i] (rs, es), stepR_pos h0, hl.1, hl.2.1, hl.2.2, fun h => ?_, ?_, iR', iN', fun y hy => (if_neg hy).trans (hm y hy), rfl, (List.nodup_cons.mp hnd2).2, fun q hq h => hre2 q hq (List.mem_cons_of_mem _ h)⟩
      · have d1 := (List.nodup_cons.mp hnd2).1
        simp only [List.mem_cons, List.mem_append] at hq
        rcases hq with rfl | rfl | hq | hq
        · exact d1 (by rw [← e]; simp)
        · exact d1 (by rw [← e]; simp)
        · exact d1 (List.mem_cons_of_mem _ (List.mem_cons_of_mem _ (List.mem_map.mpr ⟨q, hq, e⟩)))
        · exact hre2 q hq (by rw [e]; simp)
      · have e : prevOf cs (i + 1) = cs[i] := by unfold prevOf; rw [if_neg (by omega)]; exact hci
        rw [e] at h
        rw [h]
        exact stepR_end
      · have e : prevOf cs (i + 1) = cs[i] := by unfold prevOf; rw [if_neg (by omega)]; exact hci
        rw [e, ← hfin, List.drop_eq_getElem_cons hi]
        rfl
  · rintro m₁ news₁ h tk ⟨vs, os, vN, nW', nN', ⟨rs, es⟩, h0, h1, h2, h3, h13, hfin, iR, iN, hm, rfl, hnd', hre'⟩ F₁ N₁
    have hd : cs.drop cs.length = [] := by simp
    rw [hd] at hfin
    have hfin' : (rs, es) = splitR 0 cs ([[]], []) := hfin
    refine next vs os vN nW' nN' h tk m₁ ?_ ?_ hm F₁ N₁
    · rw [← hfin']; exact iR
    · rw [← hfin']; exact iN
end
end Mine
end

section
set_option maxHeartbeats 4000000
open PySem PySem.W PySem.Calls PyProof.Rows PySem.Challenge PyProof.V PySem.Spec
set_option maxRecDepth 100000
namespace Mine
local macro_rules | `(tactic| k_mem) => `(tactic| assumption)
local macro_rules | `(tactic| walk_at "eval Name") => `(tactic| (k_here; k_dflt (refine' nameX_L ?F ?v ?_ ?a ?b; (case F => k_asm); (case a => rfl); (case b => rfl); (case v => (try dsimp only); first | assumption | exact rfl | (refine (if_neg (by decide)).trans ?_; first | assumption | exact rfl | (refine (if_neg (by decide)).trans ?_; first | assumption | exact rfl | (refine (if_neg (by decide)).trans ?_; first | assumption | exact rfl)))); k_whole)))
local macro_rules | `(tactic| walk_at "compareOp NotEq ref ref") => `(tactic| (k_here; (with_reducible show wpAny _ _ (compareOp CmpOp.NotEq (Value.ref _) (Value.ref _)) _ _ _); k_dflt (first
  | (refine ne_signs (cs := _) (ds := []) (News.isList (by k_asm) (by k_mem)) (News.isList (by k_asm) (by k_mem)) (by assumption) .nil (by assumption) (fun _ h => nomatch h) (by first | assumption | omega) ?_)
  | (refine ne_nats (ks := _) (js := []) (News.isList (by k_asm) (by k_mem)) (News.isList (by k_asm) (by k_mem)) (by assumption) .nil (by first | assumption | omega) ?_))))
local macro_rules | `(tactic| walk_at "compareOp In str ref") => `(tactic| (k_here; (with_reducible show wpAny _ _ (compareOp CmpOp.In (Value.str _ _) (Value.ref _)) _ _ _); k_dflt (refine in_signs (News.isList (by k_asm) (by k_mem)) (by assumption) ?_)))
local macro_rules | `(tactic| walk_at "compareOp Eq ref ref") => `(tactic| (k_here; (with_reducible show wpAny _ _ (compareOp CmpOp.Eq (Value.ref _) (Value.ref _)) _ _ _); k_dflt (first
  | (refine eq_signs (cs := _) (ds := []) (News.isList (by k_asm) (by k_mem)) (News.isList (by k_asm) (by k_mem)) (by assumption) .nil (by assumption) (fun _ h => nomatch h) (by first | assumption | omega) ?_)
  | (refine eq_nats (ks := _) (js := []) (News.isList (by k_asm) (by k_mem)) (News.isList (by k_asm) (by k_mem)) (by assumption) .nil (by first | assumption | omega) ?_))))
local macro_rules | `(tactic| walk_at "call builtin:len") => `(tactic| (k_here; (with_reducible show wpAny _ _ (call (Value.builtin "len") [Value.ref _]) _ _ _); k_dflt (refine len_at (News.isList (by k_asm) (by k_mem)) (by assumption) (by omega) ?_)))
local macro_rules | `(tactic| walk_at "compareOp NotIn str ref") => `(tactic| (k_here; (with_reducible show wpAny _ _ (compareOp CmpOp.NotIn (Value.str _ _) (Value.ref _)) _ _ _); k_dflt (refine notin_signs (News.isList (by k_asm) (by k_mem)) (by assumption) ?_)))
local macro_rules | `(tactic| walk_at "subscriptTail Name Name ref int") => `(tactic| (k_here; (with_reducible show wpAny _ _ (subscriptTail _ _ (Value.ref _) (Value.int _ _)) _ _ _); k_dflt (refine item_at (News.isList (by k_asm) (by k_mem)) (by omega) (by omega) (by assumption) ?_ (by with_unfolding_all rfl))))
local macro_rules | `(tactic| walk_at "subscriptTail Name BinOp ref int") => `(tactic| (k_here; (with_reducible show wpAny _ _ (subscriptTail _ _ (Value.ref _) (Value.int _ _)) _ _ _); k_dflt (refine item_at (News.isList (by k_asm) (by k_mem)) (by omega) (by omega) (by assumption) ?_ (by with_unfolding_all rfl))))
noncomputable def f11 (i : Nat) : Stmt := nth (forBody (stT 11)) i
theorem ofs_dot : Str.ofString "." = sg 46 := by decide +kernel
/-- is a dot set at the row's head? -/
noncomputable def headOf (f i : Nat) (row : List Nat) : List Nat := if f < i then (row.filter fun c => !decide (c ∈ [8203, 173])).take 1 else row.take 1
noncomputable def dotB (ns : List Int) (f : Nat) (ks : List Nat) (j i : Nat) (row : List Nat) : Bool :=
  decide (ns.getD i 0 = 1) && decide (headOf f i row = [46]) && (decide (0 < j) || decide (ks = []) || decide (i < ks.headD 0))
theorem off1_mem {D : Addr} : ∀ {l : List (Addr × Obj)}, LCg.Off1 D l → ∀ q ∈ l, q.1 ≠ D
  | [], _, _, h => nomatch h
  | _ :: _, x, q, h => by
    rcases List.mem_cons.mp h with rfl | h
    · exact x.1
    · exact off1_mem x.2 q h
theorem pick_upto (vs : List Value) (k : Nat) : slicePick vs.toArray none (some (k : Int)) none = (vs.take k).toArray := by
  have e : sliceBounds none (some (k : Int)) none vs.toArray.size = (((0 : Nat) : Int), ((min k vs.toArray.size : Nat) : Int), 1) := by
    simp only [sliceBounds, Option.getD_none, show (1 : Int) > 0 by decide, if_true, if_neg (show ¬ ((k : Int) < 0) by omega)]
    congr 1
    congr 1
    omega
  rw [kmk_pick_nat _ e]
  show ((vs.drop 0).take (min k vs.toArray.size - 0)).toArray = _
  rw [List.drop_zero, Nat.sub_zero, List.size_toArray]
  congr 1
  by_cases h : k ≤ vs.length
  · rw [Nat.min_eq_left h]
  · rw [Nat.min_eq_right (by omega), List.take_length, List.take_of_length_le (by omega)]
theorem Rel2.take {α : Type} {R : α → Value → Prop} : ∀ {ys : List Value} {is : List α} (k : Nat), Rel2 R ys is → Rel2 R (ys.take k) (is.take k)
  | _, _, 0, _ => by simp only [List.take_zero]; exact .nil
  | _, _, k + 1, .nil => .nil
  | _, _, k + 1, .cons a r => .cons a (r.take k)
section
variable {w : World} {A : Around} {E : Value → Shared → Prop} {s : Shared} {g : Heap} {L : Addr} {m : Str → Option Value} {news rest : List (Addr × Obj)} {mg mb : Str → Option Value} {mean : ExcName → Option Value} {Q : Flow → Shared → Prop} {lS lR aU : Addr} {vS vR : List Value} {cs : List Nat} {ns : List Int} {oR oU : Obj}
theorem s_seen (hh : A.handled = none) (F : Fr g L s.heap m) (X : (KF w.params).In g) {aW a : Addr} {vW v vU : List Value} {nW n nU j : Nat} {t : Tok} {row : List Nat} (N : News g L s.heap news)
    (hW : (aW, W.listOf vW.toArray nW) ∈ news) (hj : vW.toArray[(j : Int).toNat]? = some (.ref a)) (hj8 : j ≤ 100) (ha : (a, W.listOf v.toArray n) ∈ news) (iv : Signs v row) (hz : row.length ≤ 900)
    (hU : (aU, W.listOf vU.toArray nU) ∈ news) (iU : Signs vU [8203, 173]) (hcU : (L + 1 + 1, oU) ∈ news) (dU : oU.data = .cell (some (.ref aU)))
    (m0 : m (Str.ofString "rows") = some (.ref aW)) (m1 : m (Str.ofString "j") = some (.int (j : Int) t))
    (next : ∀ D vs h' tk, Signs vs (row.filter fun c => !decide (c ∈ [8203, 173])) → Fr g L h' (fun z => if z = Str.ofString "seen" then some (.ref D) else m z) → News g L h' ((D, LCg.lst vs) :: news) → (∀ q ∈ news, q.1 ≠ D) → Q .next { s with heap := h', toks := tk }) :
    wpAny (model pw w) A (exec (f11 0) (envTd L)) Q (fun _ _ => False) s := by
  have hfrag : rw_re0099_01 = rw_re0099_01 ∧ KF = KF := by (k_fill; exact ⟨rfl, rfl⟩)
  clear hfrag
  with_unfolding_all refine LCt.Assign_ListComp_T (F₀ := F) (by rfl) (by with_unfolding_all rfl) (by with_unfolding_all rfl) (by decide) (by rfl) (by decide) (by rfl) (by rfl) (by rfl) ?_
  k_steps
  have hzv := iv.len
  refine LCt.CompSrcT.ledger hh F N ha (by rw [List.size_toArray, hzv]; exact Nat.le_trans hz (by decide)) fun g' => ?_
  refine rest_T (fun i => !decide (row.getD i 0 ∈ [8203, 173])) (fun i y => ∃ t, y = .str (sg (row.getD i 0)) t) (fun i v I oI C oC D m₂ ys h tk E' hi hv hC hx F N off ne => ?_) (fun ys hy D h tk F N o1 => ?_)
  · obtain ⟨c, hcc, tc, rfl⟩ := iv.get i (by simpa using hv)
    have hg : row.getD i 0 = c := by simp [List.getD, hcc]
    rw [hg]
    k_steps
    all_goals first
      | exact LCg.CompEnd.intro F N news (fun p hp => hp) off (.inr ⟨_, ha, rfl, _, rfl⟩) ⟨rfl, _, rfl⟩
      | exact LCg.CompEnd.intro F N news (fun p hp => hp) off (.inr ⟨_, ha, rfl, _, rfl⟩) rfl
  · have e := hy.map (f := fun i => row.getD i 0) (R' := fun c y => ∃ t, y = .str ⟨#[c]⟩ t) fun i y h => h
    have e2 := filter_getD row fun c => !decide (c ∈ [8203, 173])
    rw [List.size_toArray, hzv, e2] at e
    exact next D ys h tk e F N (off1_mem o1)
/-- the head of the row -/
theorem s_head (F : Fr g L s.heap m) (X : (KF w.params).In g) {aW a aD : Addr} {vW v vD : List Value} {nW n nD j i f : Nat} {t ti tf : Tok} {row : List Nat} (N : News g L s.heap news)
    (hW : (aW, W.listOf vW.toArray nW) ∈ news) (hj : vW.toArray[(j : Int).toNat]? = some (.ref a)) (hj8 : j ≤ 100) (ha : (a, W.listOf v.toArray n) ∈ news) (iv : Signs v row) (hz : row.length ≤ 900)
    (hD : (aD, W.listOf vD.toArray nD) ∈ news) (iD : Signs vD (row.filter fun c => !decide (c ∈ [8203, 173])))
    (m0 : m (Str.ofString "rows") = some (.ref aW)) (m1 : m (Str.ofString "j") = some (.int (j : Int) t)) (m2 : m (Str.ofString "i") = some (.int (i : Int) ti)) (m3 : m (Str.ofString "first") = some (.int (f : Int) tf))
    (m4 : m (Str.ofString "seen") = some (.ref aD))
    (next : ∀ H vs h' tk, Signs vs (headOf f i row) → Fr g L h' (fun z => if z = Str.ofString "head" then some (.ref H) else m z) → News g L h' ((H, W.listOf vs.toArray 0) :: news) → (∀ q ∈ news, q.1 ≠ H) → Q .next { s with heap := h', toks := tk }) :
    wpAny (model pw w) A (exec (nth (forBody (f11 1)) 0) (envTd L)) Q (fun _ _ => False) s := by
  conv in nth _ _ => whnf
  have hzv := iv.len
  have hzD := iD.len
  have hzD2 : (row.filter fun c => !decide (c ∈ [8203, 173])).length ≤ 900 := Nat.le_trans (List.length_filter_le _ _) hz
  have hoff : ∀ q ∈ news, q.1 ≠ s.heap.objs.size + 1 := fun q hq e => by
    have := Heap.lt_size (N q hq).1
    rw [e] at this
    exact Nat.lt_irrefl _ (Nat.lt_of_succ_lt this)
  k_steps
  · rename (_ : Int) < _ => hlt
    refine slice_list (hsz := by rw [List.size_toArray, hzD]; exact Nat.le_trans hzD2 (by decide)) F N (News.isList N hD) .none (.int _ _) (fun h' F' N' => ?_) (by with_unfolding_all rfl) (by intro _; with_unfolding_all rfl)
    have e := pick_upto vD 1
    rw [show ((1 : Nat) : Int) = 1 from rfl] at e
    rw [e] at N'
    k_steps
    exact next _ (vD.take 1) _ _ (by rw [headOf, if_pos (by omega)]; exact iD.take 1) (by assumption) (by assumption) hoff
  · rename ¬ (_ : Int) < _ => hlt
    refine slice_list (hsz := by rw [List.size_toArray, hzv]; exact Nat.le_trans hz (by decide)) F N (News.isList N ha) .none (.int _ _) (fun h' F' N' => ?_) (by with_unfolding_all rfl) (by intro _; with_unfolding_all rfl)
    have e := pick_upto v 1
    rw [show ((1 : Nat) : Int) = 1 from rfl] at e
    rw [e] at N'
    k_steps
    exact next _ (v.take 1) _ _ (by rw [headOf, if_neg (by omega)]; exact iv.take 1) (by assumption) (by assumption) hoff
/-- the test for a dot -/
theorem t_dot (hu : A.units + 64 < cLine) (F : Fr g L s.heap m) (X : (KF w.params).In g) {aM aH : Addr} {vM vH : List Value} {nH j i f : Nat} {t ti : Tok} {row ks : List Nat} (N : News g L s.heap news)
    (hM : (aM, LCg.lst vM) ∈ news) (iM : NatsAre vM ks) (hH : (aH, W.listOf vH.toArray nH) ∈ news) (iH : Signs vH (headOf f i row)) (okr : Ok row)
    (hR : g.IsList lR vR.toArray) (iR : IntsAre vR ns) (hn : ns.length ≤ 900) (hlay : PyData.layable0 (.list (ns.map .int)) = true) (hcR : (L + 1, oR) ∈ news) (dR : oR.data = .cell (some (.ref lR))) (hi : i < ns.length) (hj8 : j ≤ 100)
    (m1 : m (Str.ofString "j") = some (.int (j : Int) t)) (m2 : m (Str.ofString "i") = some (.int (i : Int) ti)) (m5 : m (Str.ofString "marks") = some (.ref aM)) (m6 : m (Str.ofString "head") = some (.ref aH)) :
    wpAny (model pw w) A (isTrue (ifTest (nth (forBody (f11 1)) 1)) (envTd L) (eval (ifTest (nth (forBody (f11 1)) 1)) (envTd L))) (TEnd (dotB ns f ks j i row) s g L m news) (fun _ _ => False) s := by
  conv in ifTest _ => whnf
  conv in ifTest _ => whnf
  have okh : Ok (headOf f i row) := by
    intro c hc
    unfold headOf at hc
    split at hc
    · exact okr c ((List.mem_filter.mp (List.mem_of_mem_take hc)).1)
    · exact okr c (List.mem_of_mem_take hc)
  have ok46 : Ok [46] := by intro c hc; rw [List.mem_singleton.mp hc]; decide +kernel
  have fin : ∀ (b : Bool) (h' : Heap) (tk : Nat) (l : List (Addr × Obj)), (∀ q ∈ news, q ∈ l) → Fr g L h' m → News g L h' l → b = dotB ns f ks j i row → TEnd (dotB ns f ks j i row) s g L m news b { s with heap := h', toks := tk } :=
    fun b h' tk l hs F' N' e => ⟨e, _, _, rfl, F', fun q hq => N' q (hs q hq)⟩
  cases ks with
  | nil =>
    k_steps
    · rename ns.getD _ 0 = 1 => h1
      rw [Int.toNat_natCast] at h1
      refine eq_signs (cs := headOf f i row) (ds := [46]) (News.isList (by assumption) (by k_mem)) (News.isList (by assumption) (by k_mem)) iH (.cons ⟨_, by rw [ofs_dot]⟩ .nil) okh ok46 hu ?_
      k_steps
      · rename headOf _ _ _ = [46] => h2
        rename (0 : Int) < _ => h3
        exact fin _ _ _ _ (fun q hq => .tail _ hq) (by assumption) (by assumption) (by simp only [dotB, h1, h2, show 0 < j by omega, decide_true, Bool.true_and, Bool.true_or])
      · rename headOf _ _ _ = [46] => h2
        exact fin _ _ _ _ (fun q hq => .tail _ (.tail _ hq)) (by assumption) (by assumption) (by simp only [dotB, h1, h2, decide_true, Bool.true_and, Bool.true_or, Bool.or_true])
      · rename ¬ headOf _ _ _ = [46] => h2
        exact fin _ _ _ _ (fun q hq => .tail _ hq) (by assumption) (by assumption) (by simp only [dotB, h2, decide_false, Bool.and_false, Bool.false_and])
    · rename ns.getD _ 0 ≠ 1 => h1
      rw [Int.toNat_natCast] at h1
      exact fin _ _ _ _ (fun q hq => hq) F N (by simp only [dotB, h1, decide_false, Bool.false_and])
  | cons k0 kr =>
    have iM2 := iM
    obtain ⟨t0, vr, rfl, ir⟩ : ∃ t0 vr, vM = .int (k0 : Int) t0 :: vr ∧ NatsAre vr kr := by
      cases iM with | cons a b => obtain ⟨t0, rfl⟩ := a; exact ⟨t0, _, rfl, b⟩
    k_steps
    · rename ns.getD _ 0 = 1 => h1
      rw [Int.toNat_natCast] at h1
      refine eq_signs (cs := headOf f i row) (ds := [46]) (News.isList (by assumption) (by k_mem)) (News.isList (by assumption) (by k_mem)) iH (.cons ⟨_, by rw [ofs_dot]⟩ .nil) okh ok46 hu ?_
      k_steps
      · rename headOf _ _ _ = [46] => h2
        rename (0 : Int) < _ => h3
        exact fin _ _ _ _ (fun q hq => .tail _ hq) (by assumption) (by assumption) (by simp only [dotB, h1, h2, show 0 < j by omega, decide_true, Bool.true_and, Bool.true_or])
      · rename decide (k0 :: kr = []) = true => hd
        simp at hd
      · rename headOf _ _ _ = [46] => h2
        rename ¬ (0 : Int) < _ => h3
        have h3' : ¬ 0 < j := by omega
        have h5 : ¬ (k0 :: kr = []) := by simp
        refine item_at (v := .int (k0 : Int) t0) (News.isList (by assumption) (by k_mem)) (by decide) (by decide) rfl ?_ (by with_unfolding_all rfl)
        k_steps
        · rename (_ : Int) < _ => h4
          have h4' : i < k0 := by omega
          exact fin _ _ _ _ (fun q hq => .tail _ (.tail _ hq)) (by assumption) (by assumption) (by simp only [dotB, h1, h2, h3', h5, List.headD_cons, h4', decide_true, decide_false, Bool.true_and, Bool.false_or])
        · rename ¬ (_ : Int) < (k0 : Int) => h4
          have h4' : ¬ i < k0 := by omega
          exact fin _ _ _ _ (fun q hq => .tail _ (.tail _ hq)) (by assumption) (by assumption) (by simp only [dotB, h1, h2, h3', h5, List.headD_cons, h4', decide_true, decide_false, Bool.true_and, Bool.false_or])
      · rename ¬ headOf _ _ _ = [46] => h2
        exact fin _ _ _ _ (fun q hq => .tail _ hq) (by assumption) (by assumption) (by simp only [dotB, h2, decide_false, Bool.and_false, Bool.false_and])
    · rename ns.getD _ 0 ≠ 1 => h1
      rw [Int.toNat_natCast] at h1
      exact fin _ _ _ _ (fun q hq => hq) F N (by simp only [dotB, h1, decide_false, Bool.false_and])
end
noncomputable def dotsOf (ns : List Int) (f : Nat) (ks : List Nat) (j : Nat) (row : List Nat) (es : List Nat) : List Nat := (es.filter fun i => dotB ns f ks j i row).map fun _ => 46
theorem str_app (a b : Str) : (a ++ b).cps.toList = a.cps.toList ++ b.cps.toList := by
  show (a.cps ++ b.cps).toList = _
  simp
theorem str_len (a : Str) : a.length = a.cps.toList.length := Array.length_toList.symm
section
variable {w : World} {A : Around} {E : Value → Shared → Prop} {s : Shared} {g : Heap} {L : Addr} {m : Str → Option Value} {news rest : List (Addr × Obj)} {mg mb : Str → Option Value} {mean : ExcName → Option Value} {Q : Flow → Shared → Prop} {lS lR aU : Addr} {vS vR : List Value} {cs : List Nat} {ns : List Int} {oR oU : Obj}
theorem s_dot (hu : A.units + 64 < cLine) (F : Fr g L s.heap m) (X : (KF w.params).In g) {aM aH : Addr} {vM vH : List Value} {nH j i f : Nat} {t ti tx : Tok} {row ks : List Nat} {x : Str} (N : News g L s.heap news)
    (hM : (aM, LCg.lst vM) ∈ news) (iM : NatsAre vM ks) (hH : (aH, W.listOf vH.toArray nH) ∈ news) (iH : Signs vH (headOf f i row)) (okr : Ok row)
    (hR : g.IsList lR vR.toArray) (iR : IntsAre vR ns) (hn : ns.length ≤ 900) (hlay : PyData.layable0 (.list (ns.map .int)) = true) (hcR : (L + 1, oR) ∈ news) (dR : oR.data = .cell (some (.ref lR))) (hi : i < ns.length) (hj8 : j ≤ 100)
    (m1 : m (Str.ofString "j") = some (.int (j : Int) t)) (m2 : m (Str.ofString "i") = some (.int (i : Int) ti)) (m5 : m (Str.ofString "marks") = some (.ref aM)) (m6 : m (Str.ofString "head") = some (.ref aH)) (m7 : m (Str.ofString "text") = some (.str x tx)) (hx : x.length ≤ 1000)
    (next : ∀ x' t' h' tk m', x'.cps.toList = x.cps.toList ++ (if dotB ns f ks j i row = true then [46] else []) → m' (Str.ofString "text") = some (.str x' t') → (∀ y, y ≠ Str.ofString "text" → m' y = m y) → Fr g L h' m' → News g L h' news → Q .next { s with heap := h', toks := tk }) :
    wpAny (model pw w) A (exec (nth (forBody (f11 1)) 1) (envTd L)) Q (fun _ _ => False) s := by
  have hfrag : rw_re0099_01 = rw_re0099_01 ∧ KF = KF := by (k_fill; exact ⟨rfl, rfl⟩)
  clear hfrag
  have ht := t_dot hu F X N hM iM hH iH okr hR iR hn hlay hcR dR hi hj8 m1 m2 m5 m6
  conv at ht in ifTest _ => whnf
  conv at ht in ifTest _ => whnf
  conv in nth _ _ => whnf
  refine wpAny_If ?_
  refine wpAny_mono ht (fun b s₂ h => ?_) (fun _ _ h => h)
  obtain ⟨rfl, h', tk', rfl, F', N'⟩ := h
  by_cases hd : dotB ns f ks j i row = true
  · rw [if_pos hd] at next ⊢
    k_steps
    exact next (x ++ Str.ofString ".") _ _ _ _ (by rw [str_app, ofs_dot]) (if_pos rfl) (fun y hy => if_neg hy) (by assumption) (by assumption)
  · rw [if_neg hd] at next ⊢
    exact wpAny_execs_nil (next x tx h' tk' m (by simp) m7 (fun _ _ => rfl) F' N')
theorem s_dots (hh : A.handled = none) (hu : A.units + 64 < cLine) (F : Fr g L s.heap m) (X : (KF w.params).In g) {aW a aM aD aE : Addr} {vW v vM vD vE : List Value} {nW n j f : Nat} {t tf tx : Tok} {row ks es : List Nat} {x : Str} (N : News g L s.heap news)
    (hW : (aW, W.listOf vW.toArray nW) ∈ news) (hj : vW.toArray[(j : Int).toNat]? = some (.ref a)) (hj8 : j ≤ 100) (ha : (a, W.listOf v.toArray n) ∈ news) (iv : Signs v row) (hz : row.length ≤ 900) (okr : Ok row)
    (hM : (aM, LCg.lst vM) ∈ news) (iM : NatsAre vM ks) (hD : (aD, LCg.lst vD) ∈ news) (iD : Signs vD (row.filter fun c => !decide (c ∈ [8203, 173]))) (hE : (aE, LCg.lst vE) ∈ news) (iE : NatsAre vE es) (hes : ∀ i ∈ es, i < ns.length) (hez : es.length ≤ 100)
    (hR : g.IsList lR vR.toArray) (iR : IntsAre vR ns) (hn : ns.length ≤ 900) (hlay : PyData.layable0 (.list (ns.map .int)) = true) (hcR : (L + 1, oR) ∈ news) (dR : oR.data = .cell (some (.ref lR)))
    (m0 : m (Str.ofString "rows") = some (.ref aW)) (m1 : m (Str.ofString "j") = some (.int (j : Int) t)) (m3 : m (Str.ofString "first") = some (.int (f : Int) tf))
    (m4 : m (Str.ofString "seen") = some (.ref aD)) (m5 : m (Str.ofString "marks") = some (.ref aM)) (m8 : m (Str.ofString "mends") = some (.ref aE)) (m7 : m (Str.ofString "text") = some (.str x tx)) (hx : x.length ≤ 800)
    (next : ∀ x' t' h' tk m', x'.cps.toList = x.cps.toList ++ dotsOf ns f ks j row es → m' (Str.ofString "text") = some (.str x' t') → (∀ y, y ≠ Str.ofString "text" → y ≠ Str.ofString "i" → y ≠ Str.ofString "head" → m' y = m y) → Fr g L h' m' → News g L h' news → Q .next { s with heap := h', toks := tk }) :
    wpAny (model pw w) A (exec (f11 1) (envTd L)) Q (fun _ _ => False) s := by
  with_unfolding_all refine For_invVF F (by exact rfl) (by exact rfl) ?_
  k_steps
  let J : Nat → (Str → Option Value) → List (Addr × Obj) → Prop := fun k m₁ news₁ => ∃ x' t', m₁ (Str.ofString "text") = some (.str x' t') ∧ x'.cps.toList = x.cps.toList ++ dotsOf ns f ks j row (es.take k) ∧ (∀ y, y ≠ Str.ofString "text" → y ≠ Str.ofString "i" → y ≠ Str.ofString "head" → m₁ y = m y) ∧ ∀ q ∈ news, q ∈ news₁
  refine iter_made (its := vE.toArray) J hh rfl ⟨_, rfl⟩ F N ⟨x, tx, m7, by simp [dotsOf], fun _ _ _ _ => rfl, fun q hq => hq⟩ (fun i m₁ nx hJ => by obtain ⟨_, _, _, _, _, h⟩ := hJ; exact h _ hE) ?_ ?_
  · rintro k v m₁ news₁ h tk I oI hk hv ⟨x', t', h7, hxe, hm, hs⟩ hoff F₁ N₁
    obtain ⟨i, hik, ti, rfl⟩ := iE.get k (by simpa using hv)
    have hk' : k < es.length := by rw [← iE.len]; simpa using hk
    have hmi : i ∈ es := List.mem_of_getElem? hik
    have hlen : x'.length ≤ 1000 := by
      rw [str_len, hxe, List.length_append, ← str_len]
      have h1 : (dotsOf ns f ks j row (es.take k)).length ≤ (es.take k).length := by
        unfold dotsOf; rw [List.length_map]; exact List.length_filter_le _ _
      have h2 : (es.take k).length ≤ k := by rw [List.length_take]; omega
      omega
    show wpAny _ _ (execs [nth (forBody (f11 1)) 0, nth (forBody (f11 1)) 1] _) _ _ _
    refine wpAny_execs_cons (s_head (f := f) (i := i) (ti := ti) F₁ X N₁ (.tail _ (hs _ hW)) hj hj8 (.tail _ (hs _ ha)) iv hz (.tail _ (hs _ hD)) iD ((if_neg (by decide)).trans ((hm _ (by decide) (by decide) (by decide)).trans m0)) ((if_neg (by decide)).trans ((hm _ (by decide) (by decide) (by decide)).trans m1)) (if_pos rfl) ((if_neg (by decide)).trans ((hm _ (by decide) (by decide) (by decide)).trans m3)) ((if_neg (by decide)).trans ((hm _ (by decide) (by decide) (by decide)).trans m4)) fun H vs h2 tk2 iH F2 N2 hH => ?_)
    dsimp only
    refine wpAny_execs_cons (s_dot (f := f) (i := i) (ti := ti) (row := row) (ks := ks) (x := x') hu F2 X N2 (.tail _ (.tail _ (hs _ hM))) iM (.head _) iH okr hR iR hn hlay (.tail _ (.tail _ (hs _ hcR))) dR (hes i hmi) hj8
      ((if_neg (by decide)).trans ((if_neg (by decide)).trans ((hm _ (by decide) (by decide) (by decide)).trans m1))) ((if_neg (by decide)).trans (if_pos rfl)) ((if_neg (by decide)).trans ((if_neg (by decide)).trans ((hm _ (by decide) (by decide) (by decide)).trans m5))) (if_pos rfl) ((if_neg (by decide)).trans ((if_neg (by decide)).trans h7)) hlen fun x2 t2 h3 tk3 m3' hx2 h72 hm3 F3 N3 => ?_)
    refine wpAny_execs_nil ⟨h3, tk3, m3', news₁, rfl, F3, fun q hq => N3 q (.tail _ hq), hoff, x2, t2, h72, ?_, fun y h1 h2 h3 => (hm3 y h1).trans ((if_neg h3).trans ((if_neg h2).trans (hm y h1 h2 h3))), hs⟩
    rw [hx2, hxe, List.append_assoc]
    congr 1
    rw [List.take_add_one, hik]
    unfold dotsOf
    rw [List.filter_append, List.map_append]
    congr 1
    by_cases hd : dotB ns f ks j i row = true
    · simp [hd]
    · simp [hd]
  · rintro m₁ news₁ h tk ⟨x', t', h7, hxe, hm, hs⟩ F₁ N₁
    have e : es.take vE.toArray.size = es := by rw [List.size_toArray, iE.len, List.take_length]
    rw [e] at hxe
    exact next x' t' h tk m₁ hxe h7 hm F₁ (fun q hq => N₁ q (hs q hq))
end
theorem lfold_len {r : Str} {c : Nat} (h : r.cps.toList = lfold c) : r.length ≤ 3 := by
  rw [str_len, h]
  unfold lfold
  repeat' split
  all_goals simp
noncomputable def foldRow (b : Bool) (row : List Nat) : List Nat := if b = true then (row.map lfold).flatten else row
theorem foldRow_snoc (b : Bool) (row : List Nat) (c : Nat) : foldRow b (row ++ [c]) = foldRow b row ++ (if b = true then lfold c else [c]) := by
  unfold foldRow
  cases b <;> simp
theorem lfold_len2 (c : Nat) : (lfold c).length ≤ 3 := by
  unfold lfold
  repeat' split
  all_goals simp
theorem foldRow_len (b : Bool) : ∀ row : List Nat, (foldRow b row).length ≤ 3 * row.length
  | [] => by cases b <;> simp [foldRow]
  | c :: r => by
    have h1 := foldRow_len b r
    have h2 := lfold_len2 c
    unfold foldRow at h1 ⊢
    cases b
    · simp; omega
    · simp at h1 ⊢; omega
section
variable {w : World} {A : Around} {E : Value → Shared → Prop} {s : Shared} {g : Heap} {L : Addr} {m : Str → Option Value} {news rest : List (Addr × Obj)} {mg mb : Str → Option Value} {mean : ExcName → Option Value} {Q : Flow → Shared → Prop} {lS lR aU : Addr} {vS vR : List Value} {cs : List Nat} {ns : List Int} {oR oU : Obj}
/-- a sign more in the text -/
theorem s_sign (hroom : A.depth < 900) (F : Fr g L s.heap m) (X : (KF w.params).In g) (T : Top vw (looseW vw lsn) mean mg mb g) {f c : Nat} {tf tx tc : Tok} {x : Str} (N : News g L s.heap news)
    (hR : g.IsList lR vR.toArray) (iR : IntsAre vR ns) (hn : ns.length ≤ 900) (hlay : PyData.layable0 (.list (ns.map .int)) = true) (hcR : (L + 1, oR) ∈ news) (dR : oR.data = .cell (some (.ref lR)))
    (m3 : m (Str.ofString "first") = some (.int (f : Int) tf)) (m7 : m (Str.ofString "text") = some (.str x tx)) (m2 : m (Str.ofString "sign") = some (.str (sg c) tc)) (hx : x.length ≤ 1000)
    (next : ∀ x' t' h' tk m', x'.cps.toList = x.cps.toList ++ (if decide (f < ns.length) = true then lfold c else [c]) → m' (Str.ofString "text") = some (.str x' t') → (∀ y, y ≠ Str.ofString "text" → m' y = m y) → Fr g L h' m' → News g L h' news → Q .next { s with heap := h', toks := tk }) :
    wpAny (model pw w) A (exec (nth (forBody (f11 2)) 0) (envTd L)) Q (fun _ _ => False) s := by
  have hfrag : rw_re0099_01 = rw_re0099_01 ∧ KF = KF := by (k_fill; exact ⟨rfl, rfl⟩)
  clear hfrag
  conv in nth _ _ => whnf
  by_cases hf : f < ns.length
  · rw [if_pos (decide_eq_true hf)] at next
    k_steps
    refine c_folded (Frag.In.keeps X F.keep) (Top.keeps T F.keep) hroom fun r t' h' tk' hk hr => ?_
    have F2 := Fr.keeps F hk
    have N2 := News.grown N hk
    have hr3 := lfold_len hr
    clear F N
    k_steps
    exact next (x ++ r) _ _ _ _ (by rw [str_app, hr]) (if_pos rfl) (fun y hy => if_neg hy) (by assumption) (by assumption)
  · rw [if_neg (by rw [decide_eq_false hf]; exact Bool.false_ne_true)] at next
    k_steps
    exact next (x ++ sg c) _ _ _ _ (by rw [str_app]) (if_pos rfl) (fun y hy => if_neg hy) (by assumption) (by assumption)
theorem s_folds (hh : A.handled = none) (hroom : A.depth < 900) (F : Fr g L s.heap m) (X : (KF w.params).In g) (T : Top vw (looseW vw lsn) mean mg mb g) {aW a : Addr} {vW v : List Value} {nW n j f : Nat} {t tf tx : Tok} {row : List Nat} {x : Str} (N : News g L s.heap news)
    (hW : (aW, W.listOf vW.toArray nW) ∈ news) (hj : vW.toArray[(j : Int).toNat]? = some (.ref a)) (hj8 : j ≤ 100) (ha : (a, W.listOf v.toArray n) ∈ news) (iv : Signs v row) (hz : row.length ≤ 20)
    (hR : g.IsList lR vR.toArray) (iR : IntsAre vR ns) (hn : ns.length ≤ 900) (hlay : PyData.layable0 (.list (ns.map .int)) = true) (hcR : (L + 1, oR) ∈ news) (dR : oR.data = .cell (some (.ref lR)))
    (m0 : m (Str.ofString "rows") = some (.ref aW)) (m1 : m (Str.ofString "j") = some (.int (j : Int) t)) (m3 : m (Str.ofString "first") = some (.int (f : Int) tf)) (m7 : m (Str.ofString "text") = some (.str x tx)) (hx : x.length ≤ 900)
    (next : ∀ x' t' h' tk m', x'.cps.toList = x.cps.toList ++ foldRow (decide (f < ns.length)) row → m' (Str.ofString "text") = some (.str x' t') → (∀ y, y ≠ Str.ofString "text" → y ≠ Str.ofString "sign" → m' y = m y) → Fr g L h' m' → News g L h' news → Q .next { s with heap := h', toks := tk }) :
    wpAny (model pw w) A (exec (f11 2) (envTd L)) Q (fun _ _ => False) s := by
  with_unfolding_all refine For_invVF F (by exact rfl) (by exact rfl) ?_
  k_steps
  let J : Nat → (Str → Option Value) → List (Addr × Obj) → Prop := fun k m₁ news₁ => ∃ x' t', m₁ (Str.ofString "text") = some (.str x' t') ∧ x'.cps.toList = x.cps.toList ++ foldRow (decide (f < ns.length)) (row.take k) ∧ (∀ y, y ≠ Str.ofString "text" → y ≠ Str.ofString "sign" → m₁ y = m y) ∧ ∀ q ∈ news, q ∈ news₁
  refine iter_made (its := v.toArray) J hh rfl ⟨_, rfl⟩ F N ⟨x, tx, m7, by simp [foldRow], fun _ _ _ => rfl, fun q hq => hq⟩ (fun i m₁ nx hJ => by obtain ⟨_, _, _, _, _, h⟩ := hJ; exact h _ ha) ?_ ?_
  · rintro k vv m₁ news₁ h tk I oI hk hv ⟨x', t', h7, hxe, hm, hs⟩ hoff F₁ N₁
    obtain ⟨c, hck, tc, rfl⟩ := iv.get k (by simpa using hv)
    have hk' : k < row.length := by rw [← iv.len]; simpa using hk
    have hlen : x'.length ≤ 1000 := by
      rw [str_len, hxe, List.length_append, ← str_len]
      have h1 := foldRow_len (decide (f < ns.length)) (row.take k)
      have h2 : (row.take k).length ≤ k := by rw [List.length_take]; omega
      omega
    show wpAny _ _ (execs [nth (forBody (f11 2)) 0] _) _ _ _
    refine wpAny_execs_cons (s_sign (f := f) (c := c) (tc := tc) (x := x') hroom F₁ X T N₁ hR iR hn hlay (.tail _ (hs _ hcR)) dR ((if_neg (by decide)).trans ((hm _ (by decide) (by decide)).trans m3)) ((if_neg (by decide)).trans h7) (if_pos rfl) hlen fun x2 t2 h3 tk3 m3' hx2 h72 hm3 F3 N3 => ?_)
    refine wpAny_execs_nil ⟨h3, tk3, m3', news₁, rfl, F3, N3, hoff, x2, t2, h72, ?_, fun y h1 h2 => (hm3 y h1).trans ((if_neg h2).trans (hm y h1 h2)), hs⟩
    rw [hx2, hxe, List.append_assoc, List.take_add_one, hck]
    congr 1
    exact (foldRow_snoc _ _ _).symm
  · rintro m₁ news₁ h tk ⟨x', t', h7, hxe, hm, hs⟩ F₁ N₁
    have e : row.take v.toArray.size = row := by rw [List.size_toArray, iv.len, List.take_length]
    rw [e] at hxe
    exact next x' t' h tk m₁ hxe h7 hm F₁ (fun q hq => N₁ q (hs q hq))
/-- the row's end -/
noncomputable def endOf (es : List (List Nat)) (b : Bool) (j : Nat) : List Nat := if j < es.length then (if b = true then [13, 10] else es.getD j []) else []
theorem s_endt (hu : A.units + 64 < cLine) (F : Fr g L s.heap m) (X : (KF w.params).In g) (T : Top vw (looseW vw lsn) mean mg mb g) {aN aE : Addr} {vN vE : List Value} {nN j : Nat} {t tx : Tok} {x : Str} {es : List (List Nat)} {ms : List Nat} (N : News g L s.heap news)
    (hN : (aN, W.listOf vN.toArray nN) ∈ news) (iN : Txts vN es) (hz : es.length ≤ 900) (hE : (aE, LCg.lst vE) ∈ news) (iE : NatsAre vE ms) (hj8 : j ≤ 100) (hel : ∀ e ∈ es, e.length ≤ 2)
    (m0 : m (Str.ofString "ends") = some (.ref aN)) (m1 : m (Str.ofString "j") = some (.int (j : Int) t)) (m8 : m (Str.ofString "mends") = some (.ref aE)) (m7 : m (Str.ofString "text") = some (.str x tx)) (hx : x.length ≤ 1000)
    (next : ∀ x' t' h' tk m', x'.cps.toList = x.cps.toList ++ endOf es (!decide (ms = [])) j → m' (Str.ofString "text") = some (.str x' t') → (∀ y, y ≠ Str.ofString "text" → m' y = m y) → Fr g L h' m' → News g L h' news → Q .next { s with heap := h', toks := tk }) :
    wpAny (model pw w) A (exec (f11 3) (envTd L)) Q (fun _ _ => False) s := by
  conv in f11 _ => whnf
  have hzN := iN.len
  by_cases hj : j < es.length
  · obtain ⟨y, hy, x2, t2, rfl, hx2⟩ := iN.at j (List.getElem?_eq_getElem hj)
    have hy' : vN.toArray[(j : Int).toNat]? = some (.str x2 t2) := by simpa using hy
    have hl2 : x2.length ≤ 2 := by rw [str_len, hx2]; exact hel _ (List.getElem_mem hj)
    have hge : es.getD j [] = es[j] := by simp [List.getD, hj]
    unfold endOf at next
    rw [if_pos hj, hge] at next
    k_steps
    · rename decide (ms = []) = true => hm
      exact next (x ++ x2) _ _ _ _ (by rw [str_app, hx2, hm]; simp) (if_pos rfl) (fun y hy => if_neg hy) (by assumption) (fun p hp => (by assumption : News _ _ _ _) p (.tail _ hp))
    · rename decide (ms = []) = false => hm
      exact next (x ++ Str.ofString "\r\n") _ _ _ _ (by rw [str_app, hm, ofs_crlf]; simp) (if_pos rfl) (fun y hy => if_neg hy) (by assumption) (fun p hp => (by assumption : News _ _ _ _) p (.tail _ hp))
  · unfold endOf at next
    rw [if_neg hj] at next
    k_steps
    exact next x tx _ _ m (by simp) m7 (fun _ _ => rfl) F N
end
theorem getD_at {α : Type} {l : List α} {d : α} {i : Nat} (h : i < l.length) : l.getD i d = l[i] := by
  rw [List.getD_eq_getElem?_getD, List.getElem?_eq_getElem h]; rfl
theorem RowsR.at {vs : List Value} {os : List (Addr × Obj)} {rs : List (List Nat)} (h : RowsR vs os rs) : ∀ (k : Nat) {r : List Nat}, rs[k]? = some r → ∃ a v n, vs[k]? = some (.ref a) ∧ (a, W.listOf v.toArray n) ∈ os ∧ Signs v r := by
  induction h with
  | nil => intro k r e; simp at e
  | @cons a v n cs vs os rs iv _ ih =>
    intro k r e
    cases k with
    | zero => simp at e; subst e; exact ⟨a, v, n, by simp, .head _, iv⟩
    | succ k => simp at e; obtain ⟨a', v', n', h1, h2, h3⟩ := ih k e; exact ⟨a', v', n', by simpa using h1, .tail _ h2, h3⟩
theorem RowsR.rev {vs : List Value} {os : List (Addr × Obj)} {rs : List (List Nat)} (h : RowsR vs os rs) {j : Nat} (hj : j < rs.length) : ∃ a v n, vs.reverse[j]? = some (.ref a) ∧ (a, W.listOf v.toArray n) ∈ os ∧ Signs v (rs.reverse.getD j []) := by
  have e : rs[rs.length - 1 - j]? = some (rs.reverse.getD j []) := by
    have : rs.reverse[j]? = rs[rs.length - 1 - j]? := List.getElem?_reverse hj
    rw [← this]
    have h2 : j < rs.reverse.length := by simpa using hj
    rw [getD_at h2, List.getElem?_eq_getElem h2]
  obtain ⟨a, v, n, h1, h2, h3⟩ := h.at _ e
  refine ⟨a, v, n, ?_, h2, h3⟩
  rw [List.getElem?_reverse (by rw [h.len]; exact hj), h.len]
  exact h1
noncomputable def rowText (ns : List Int) (f : Nat) (ks ms : List Nat) (es : List (List Nat)) (j : Nat) (row : List Nat) : List Nat :=
  dotsOf ns f ks j row ms ++ foldRow (decide (f < ns.length)) row ++ endOf es (!decide (ms = [])) j
noncomputable def rowsText (ns : List Int) (f : Nat) (ks ms : List Nat) (es : List (List Nat)) (R : List (List Nat)) (n : Nat) : List Nat :=
  ((List.range n).map fun j => rowText ns f ks ms es j (R.getD j [])).flatten
theorem rowsText_succ (ns : List Int) (f : Nat) (ks ms : List Nat) (es : List (List Nat)) (R : List (List Nat)) (n : Nat) :
    rowsText ns f ks ms es R (n + 1) = rowsText ns f ks ms es R n ++ rowText ns f ks ms es n (R.getD n []) := by
  unfold rowsText
  rw [List.range_succ]
  simp
section
variable {w : World} {A : Around} {E : Value → Shared → Prop} {s : Shared} {g : Heap} {L : Addr} {m : Str → Option Value} {news rest : List (Addr × Obj)} {mg mb : Str → Option Value} {mean : ExcName → Option Value} {Q : Flow → Shared → Prop} {lS lR aU : Addr} {vS vR : List Value} {cs : List Nat} {ns : List Int} {oR oU : Obj}
theorem s_text (hh : A.handled = none) (hu : A.units + 64 < cLine) (hroom : A.depth < 900) (F : Fr g L s.heap m) (X : (KF w.params).In g) (T : Top vw (looseW vw lsn) mean mg mb g) {aW aN aM aE : Addr} {vs vN vM vE vU : List Value} {os : List (Addr × Obj)} {nW nN nU f : Nat} {tf tx : Tok} {x : Str} {rs es : List (List Nat)} {ks ms : List Nat} (N : News g L s.heap news)
    (hW : (aW, W.listOf vs.reverse.toArray nW) ∈ news) (iR0 : RowsR vs os rs) (hos : ∀ q ∈ os, q ∈ news) (hrz : rs.length ≤ 9) (hrr : ∀ r ∈ rs, r.length ≤ 8) (okr : ∀ r ∈ rs, Ok r)
    (hN : (aN, W.listOf vN.toArray nN) ∈ news) (iN : Txts vN es) (hez : es.length ≤ 9) (hel : ∀ e ∈ es, e.length ≤ 2)
    (hM : (aM, LCg.lst vM) ∈ news) (iM : NatsAre vM ks) (hE : (aE, LCg.lst vE) ∈ news) (iE : NatsAre vE ms) (hes : ∀ i ∈ ms, i < ns.length) (hmz : ms.length ≤ 8)
    (hU : (aU, W.listOf vU.toArray nU) ∈ news) (iU : Signs vU [8203, 173]) (hcU : (L + 1 + 1, oU) ∈ news) (dU : oU.data = .cell (some (.ref aU)))
    (hR : g.IsList lR vR.toArray) (iR : IntsAre vR ns) (hn : ns.length ≤ 900) (hlay : PyData.layable0 (.list (ns.map .int)) = true) (hcR : (L + 1, oR) ∈ news) (dR : oR.data = .cell (some (.ref lR)))
    (m0 : m (Str.ofString "rows") = some (.ref aW)) (m4 : m (Str.ofString "ends") = some (.ref aN)) (m3 : m (Str.ofString "first") = some (.int (f : Int) tf)) (m5 : m (Str.ofString "marks") = some (.ref aM)) (m8 : m (Str.ofString "mends") = some (.ref aE)) (m7 : m (Str.ofString "text") = some (.str x tx)) (hx : x.length ≤ 20)
    (next : ∀ x' t' h' tk m', x'.cps.toList = x.cps.toList ++ rowsText ns f ks ms es rs.reverse rs.length → m' (Str.ofString "text") = some (.str x' t') → Fr g L h' m' → News g L h' news → Q .next { s with heap := h', toks := tk }) :
    wpAny (model pw w) A (exec (stT 11) (envTd L)) Q (fun _ _ => False) s := by
  have hfrag : rw_re0099_01 = rw_re0099_01 ∧ KF = KF := by (k_fill; exact ⟨rfl, rfl⟩)
  clear hfrag
  conv in stT _ => whnf
  have hlen : vs.reverse.length = rs.length := by rw [List.length_reverse, iR0.len]
  have hb : rs.length ≤ 900 := Nat.le_trans hrz (by decide)
  have hrz' := Hid'.mk hrz
  clear hrz
  with_unfolding_all refine For_invVF F (by exact rfl) (by exact rfl) ?_
  k_steps
  rename IsRange _ _ _ _ _ _ _ _ => hr
  let J : Nat → (Str → Option Value) → List (Addr × Obj) → Prop := fun j m₁ news₁ => ∃ x' t', m₁ (Str.ofString "text") = some (.str x' t') ∧ x'.cps.toList = x.cps.toList ++ rowsText ns f ks ms es rs.reverse j ∧ x'.length ≤ 20 + 40 * j ∧
    (∀ y, y ≠ Str.ofString "text" → y ≠ Str.ofString "sign" → y ≠ Str.ofString "i" → y ≠ Str.ofString "head" → y ≠ Str.ofString "seen" → y ≠ Str.ofString "j" → m₁ y = m y) ∧ ∀ q ∈ news, q ∈ news₁
  refine iter_range (n := rs.length) J hh hr (by exact small_one (by decide) (by decide) (by omega) (by omega)) (by rw [rangeSize_nat]; simp) (by assumption) (by assumption) ?_ ?_ ?_
  · exact ⟨x, tx, m7, by simp [rowsText], by omega, fun _ _ _ _ _ _ _ => rfl, fun q hq => hq⟩
  · rintro j t m₁ news₁ h tk I oI hj ⟨x', t', h7, hxe, hxl, hm, hs⟩ hoff F₁ N₁
    have hr9 := hrz'.e
    obtain ⟨a, v, n, hva, hao, iv⟩ := iR0.rev hj
    have hrow : rs.reverse.getD j [] ∈ rs := by
      have h2 : j < rs.reverse.length := by simpa using hj
      have : rs.reverse.getD j [] = rs.reverse[j] := getD_at h2
      rw [this]
      exact List.mem_reverse.mp (List.getElem_mem h2)
    generalize hrw : rs.reverse.getD j [] = row at *
    have hr8 := hrr row hrow
    have okrow := okr row hrow
    have hj' : vs.reverse.toArray[(j : Int).toNat]? = some (.ref a) := by simpa using hva
    have sN : ∀ q ∈ news, q ∈ (I, oI) :: news₁ := fun q hq => .tail _ (hs q hq)
    have mm : ∀ y, y ≠ Str.ofString "text" → y ≠ Str.ofString "sign" → y ≠ Str.ofString "i" → y ≠ Str.ofString "head" → y ≠ Str.ofString "seen" → y ≠ Str.ofString "j" → (fun y => if y = Str.ofString "j" then some (Value.int (j : Int) t) else m₁ y) y = m y := fun y h1 h2 h3 h4 h5 h6 => (if_neg h6).trans (hm y h1 h2 h3 h4 h5 h6)
    show wpAny _ _ (execs [f11 0, f11 1, f11 2, f11 3] _) _ _ _
    refine wpAny_execs_cons (s_seen (j := j) (t := t) hh F₁ X N₁ (sN _ hW) hj' (by omega) (sN _ (hos _ hao)) iv (by omega) (sN _ hU) iU (sN _ hcU) dU ((mm _ (by decide) (by decide) (by decide) (by decide) (by decide) (by decide)).trans m0) (if_pos rfl) fun D vD h2 tk2 iD F2 N2 hD => ?_)
    dsimp only
    have sN2 : ∀ q ∈ news, q ∈ (D, LCg.lst vD) :: (I, oI) :: news₁ := fun q hq => .tail _ (sN q hq)
    refine wpAny_execs_cons (s_dots (f := f) (j := j) (t := t) (row := row) (ks := ks) (es := ms) (x := x') hh hu F2 X N2 (sN2 _ hW) hj' (by omega) (sN2 _ (hos _ hao)) iv (by omega) okrow (sN2 _ hM) iM (.head _) iD (sN2 _ hE) iE hes (by omega) hR iR hn hlay (sN2 _ hcR) dR
      ((if_neg (by decide)).trans ((mm _ (by decide) (by decide) (by decide) (by decide) (by decide) (by decide)).trans m0)) ((if_neg (by decide)).trans (if_pos rfl)) ((if_neg (by decide)).trans ((mm _ (by decide) (by decide) (by decide) (by decide) (by decide) (by decide)).trans m3)) (if_pos rfl)
      ((if_neg (by decide)).trans ((mm _ (by decide) (by decide) (by decide) (by decide) (by decide) (by decide)).trans m5)) ((if_neg (by decide)).trans ((mm _ (by decide) (by decide) (by decide) (by decide) (by decide) (by decide)).trans m8)) ((if_neg (by decide)).trans ((if_neg (by decide)).trans h7)) (by omega) fun x2 t2 h3 tk3 m3' hx2 h72 hm3 F3 N3 => ?_)
    dsimp only
    have hl2 : x2.length ≤ x'.length + 8 := by
      rw [str_len, hx2, List.length_append, ← str_len]
      have h1 : (dotsOf ns f ks j row ms).length ≤ ms.length := by unfold dotsOf; rw [List.length_map]; exact List.length_filter_le _ _
      omega
    have mm3 : ∀ y, y ≠ Str.ofString "text" → y ≠ Str.ofString "sign" → y ≠ Str.ofString "i" → y ≠ Str.ofString "head" → y ≠ Str.ofString "seen" → y ≠ Str.ofString "j" → m3' y = m y := fun y h1 h2 h3 h4 h5 h6 => (hm3 y h1 h3 h4).trans ((if_neg h5).trans (mm y h1 h2 h3 h4 h5 h6))
    have mj3 : m3' (Str.ofString "j") = some (.int (j : Int) t) := (hm3 _ (by decide) (by decide) (by decide)).trans ((if_neg (by decide)).trans (if_pos rfl))
    refine wpAny_execs_cons (s_folds (f := f) (j := j) (t := t) (row := row) (x := x2) hh hroom F3 X T N3 (sN2 _ hW) hj' (by omega) (sN2 _ (hos _ hao)) iv (by omega) hR iR hn hlay (sN2 _ hcR) dR
      ((mm3 _ (by decide) (by decide) (by decide) (by decide) (by decide) (by decide)).trans m0) mj3 ((mm3 _ (by decide) (by decide) (by decide) (by decide) (by decide) (by decide)).trans m3) h72 (by omega) fun x3 t3 h4 tk4 m4' hx3 h73 hm4 F4 N4 => ?_)
    dsimp only
    have hl3 : x3.length ≤ x2.length + 24 := by
      rw [str_len, hx3, List.length_append, ← str_len]
      have h1 := foldRow_len (decide (f < ns.length)) row
      omega
    have mm4 : ∀ y, y ≠ Str.ofString "text" → y ≠ Str.ofString "sign" → y ≠ Str.ofString "i" → y ≠ Str.ofString "head" → y ≠ Str.ofString "seen" → y ≠ Str.ofString "j" → m4' y = m y := fun y h1 h2 h3 h4 h5 h6 => (hm4 y h1 h2).trans (mm3 y h1 h2 h3 h4 h5 h6)
    refine wpAny_execs_cons (s_endt (j := j) (t := t) (x := x3) (es := es) (ms := ms) hu F4 X T N4 (sN2 _ hN) iN (by omega) (sN2 _ hE) iE (by omega) hel
      ((mm4 _ (by decide) (by decide) (by decide) (by decide) (by decide) (by decide)).trans m4) ((hm4 _ (by decide) (by decide)).trans mj3) ((mm4 _ (by decide) (by decide) (by decide) (by decide) (by decide) (by decide)).trans m8) h73 (by omega) fun x4 t4 h5 tk5 m5' hx4 h74 hm5 F5 N5 => ?_)
    refine wpAny_execs_nil ⟨h5, tk5, m5', news₁, rfl, F5, fun q hq => N5 q (.tail _ hq), hoff, x4, t4, h74, ?_, ?_, fun y h1 h2 h3 h4 h5 h6 => (hm5 y h1).trans (mm4 y h1 h2 h3 h4 h5 h6), hs⟩
    · rw [hx4, hx3, hx2, hxe, rowsText_succ, hrw]
      unfold rowText
      simp only [List.append_assoc]
    · rw [str_len, hx4, List.length_append, ← str_len]
      have h1 : (endOf es (!decide (ms = [])) j).length ≤ 2 := by
        unfold endOf
        split
        · split
          · simp
          · rename_i h1 _
            have : es.getD j [] = es[j] := getD_at h1
            rw [this]
            exact hel _ (List.getElem_mem h1)
        · simp
      omega
  · rintro m₁ news₁ h tk ⟨x', t', h7, hxe, hxl, hm, hs⟩ F₁ N₁
    exact next x' t' h tk m₁ hxe h7 F₁ (fun q hq => N₁ q (hs q hq))
theorem s_hash (F : Fr g L s.heap m) (X : (KF w.params).In g) (T : Top vw (looseW vw lsn) mean mg mb g) {aM : Addr} {vM : List Value} {ks : List Nat} (N : News g L s.heap news) (hM : (aM, LCg.lst vM) ∈ news) (iM : NatsAre vM ks) (hks : ks.length ≤ 8) (m5 : m (Str.ofString "marks") = some (.ref aM))
    (next : ∀ x t' h' tk, x.cps.toList = (List.replicate ks.length [35, 32]).flatten → Fr g L h' (fun z => if z = Str.ofString "text" then some (.str x t') else m z) → News g L h' news → Q .next { s with heap := h', toks := tk }) :
    wpAny (model pw w) A (exec (stT 10) (envTd L)) Q (fun _ _ => False) s := by
  conv in stT _ => whnf
  have hz := iM.len
  k_steps
  exact next (Txt.mul (Str.ofString "# ") (ks.length : Int)) _ _ _ (by rw [mul_list]; rfl) (by assumption) (by assumption)
end
/-- the told text -/
noncomputable def told (cs : List Nat) (ns : List Int) : List Nat :=
  let f := ns.idxOf 0
  let ks := idxs ns (· == 2)
  let ms := idxs ns (fun d => d == 1 || d == 3)
  let c1 := if ks = [] then cs else dropEnd (looseOf ks f) cs
  if ks ≠ [] ∧ c1 = [] then (List.replicate (ks.length - 1) [35, 32]).flatten ++ [35]
  else
    let c2 := if unseenIf f ns.length ms = true then c1.filter (fun c => !decide (c ∈ [8203, 173])) else c1
    let st := splitR 0 c2 ([[]], [])
    (List.replicate ks.length [35, 32]).flatten ++ rowsText ns f ks ms st.2.reverse st.1.reverse st.1.length
theorem idxs_lt {ns : List Int} {p : Int → Bool} {i : Nat} (h : i ∈ idxs ns p) : i < ns.length := List.mem_range.mp (List.mem_filter.mp h).1
theorem idxs_len {ns : List Int} {p : Int → Bool} : (idxs ns p).length ≤ ns.length := by
  have := List.length_filter_le (fun i => p (ns.getD i 0)) (List.range ns.length)
  rw [List.length_range] at this
  exact this
structure Good (n : Nat) (st : List (List Nat) × List (List Nat)) : Prop where
  pos : st.1 ≠ []
  len1 : st.1.length ≤ n + 1
  len2 : st.2.length ≤ n
  row : ∀ r ∈ st.1, r.length ≤ n
  ok : ∀ r ∈ st.1, Ok r
  ends : ∀ e ∈ st.2, e.length ≤ 2
theorem Good.step {n p c : Nat} {st : List (List Nat) × List (List Nat)} (h : Good n st) (hc : PyData.strOk (sg c) = true) : Good (n + 1) (stepR p c st) := by
  have hl := stepR_len (p := p) (c := c) h.pos h.len1 h.len2 h.row
  refine ⟨stepR_pos h.pos, hl.1, hl.2.1, hl.2.2, ?_, ?_⟩
  · obtain ⟨rs, es⟩ := st
    have h0 := h.pos
    have h1 := h.ok
    dsimp only at h0 h1
    unfold stepR
    split
    · exact h1
    · split
      · intro r hr
        rcases List.mem_cons.mp hr with rfl | hr
        · intro d hd; cases hd
        · exact h1 r hr
      · cases rs with
        | nil => exact absurd rfl h0
        | cons r0 rt =>
          intro r hr
          rcases List.mem_cons.mp hr with rfl | hr
          · intro d hd
            rcases List.mem_append.mp hd with hd | hd
            · exact h1 r0 (.head _) d hd
            · rw [List.mem_singleton.mp hd]; exact hc
          · exact h1 r (List.mem_cons_of_mem _ hr)
  · obtain ⟨rs, es⟩ := st
    have h1 := h.ends
    dsimp only at h1
    unfold stepR
    split
    · intro e he
      rcases List.mem_cons.mp he with rfl | he
      · simp
      · exact h1 e (List.mem_of_mem_tail he)
    · split
      · intro e he
        rcases List.mem_cons.mp he with rfl | he
        · simp
        · exact h1 e he
      · exact h1
theorem Good.split : ∀ (l : List Nat) {n p : Nat} {st : List (List Nat) × List (List Nat)}, Good n st → Ok l → Good (n + l.length) (splitR p l st)
  | [], _, _, _, h, _ => h
  | c :: l, n, p, st, h, hl => by
    have := Good.split l (p := c) (h.step (p := p) (hl c (.head _))) fun d hd => hl d (.tail _ hd)
    rw [show n + 1 + l.length = n + (c :: l).length by rw [List.length_cons]; omega] at this
    exact this
theorem good0 : Good 0 ([[]], []) := ⟨by simp, by simp, by simp, by simp, (fun r hr => by rw [List.mem_singleton.mp hr]; intro d hd; cases hd), by simp⟩
theorem ofs_zw2 : Str.ofString "\u200b" = sg 8203 := by decide +kernel
theorem ofs_shy2 : Str.ofString "\u00ad" = sg 173 := by decide +kernel
theorem s_unseen0 {w : World} {A : Around} {s : Shared} {g : Heap} {L : Addr} {m : Str → Option Value} {Q : Flow → Shared → Prop} {o1 oR : Obj} {x : Option Value} (F : Fr g L s.heap m) (X : (KF w.params).In g) (N : News g L s.heap [(L + 1 + 1, o1), (L + 1, oR)]) (d1 : o1.data = .cell x)
    (next : ∀ aU oU vU h' tk, oU.data = .cell (some (.ref aU)) → Signs vU [8203, 173] → Fr g L h' m → News g L h' [(aU, W.listOf vU.toArray 0), (L + 1 + 1, oU), (L + 1, oR)] → Q .next { s with heap := h', toks := tk }) :
    wpAny (model pw w) A (exec (stT 0) (envTd L)) Q (fun _ _ => False) s := by
  have hfrag : rw_re0099_01 = rw_re0099_01 ∧ KF = KF := by (k_fill; exact ⟨rfl, rfl⟩)
  clear hfrag
  conv in stT _ => whnf
  k_steps
  refine next _ _ [.str (Str.ofString "\u200b") s.toks, .str (Str.ofString "\u00ad") (s.toks + 1)] _ _ (by assumption) (.cons ⟨_, by rw [ofs_zw2]⟩ (.cons ⟨_, by rw [ofs_shy2]⟩ .nil)) (by assumption) (by assumption)
theorem c_told {w : World} {A : Around} {E : Value → Shared → Prop} {s : Shared} {mg mb : Str → Option Value} {mean : ExcName → Option Value} {Q : Value → Shared → Prop} {lS lR : Addr} {vS vR : List Value} {nS nR : Nat} {cs : List Nat} {ns : List Int}
    (X : (KF w.params).In s.heap) (T : Top vw (looseW vw lsn) mean mg mb s.heap) (hh : A.handled = none) (hu : A.units + 80 < cLine) (hroom : A.depth < 890)
    (hS : s.heap.get? lS = some (W.listOf vS.toArray nS)) (iS : Signs vS cs) (hcs : cs.length ≤ 8) (okS : Ok cs)
    (hR : s.heap.get? lR = some (W.listOf vR.toArray nR)) (iR : IntsAre vR ns) (hn : ns.length ≤ 8) (hlay : PyData.layable0 (.list (ns.map .int)) = true)
    (h : ∀ r t' h' tk, Keeps' s.heap h' → r.cps.toList = told cs ns → Q (.str r t') { s with heap := h', toks := tk }) :
    wpAny (model pw w) A (call (.ref 138) [.ref lS, .ref lR]) Q E s := by
  have hfrag : rw_re0099_01 = rw_re0099_01 ∧ KF = KF := by (k_fill; exact ⟨rfl, rfl⟩)
  clear hfrag
  refine enterC (binds := [(Str.ofString "signs", .ref lS), (Str.ofString "run", .ref lR)]) X T (by exact rfl) (by k_is) (Nat.lt_of_lt_of_le hroom (by decide)) (BindsTo.of_eq rfl) (by exact rfl) (by decide +kernel) ?_ rfl rfl rfl
  intro L h1 tk1 cells F1 N1 Y
  k_cells Y
  rename _ = Data.cell _ => dR
  rename Obj => oR
  have lS' : s.heap.IsList lS vS.toArray := ⟨_, hS, rfl, _, rfl⟩
  have lR' : s.heap.IsList lR vR.toArray := ⟨_, hR, rfl, _, rfl⟩
  have dictR : s.heap.NoDictAt (.ref lR) := ⟨_, hR, rfl⟩
  have hu' : (A.deeper (envTd L)).units + 64 < cLine := by rw [Around.deeper_units]; omega
  have hh' : (A.deeper (envTd L)).handled = none := hh
  have hr' : (A.deeper (envTd L)).depth < 900 := by show A.depth + 1 < 900; omega
  show wpAny _ (A.deeper (envTd L)) (execs [stT 0, stT 1, stT 2, stT 3, stT 4, stT 5, stT 6, stT 7, stT 8, stT 9, stT 10, stT 11, stT 12] (envTd L)) _ _ _
  refine wpAny_execs_cons (s_unseen0 F1 X N1 (by assumption) fun aU oU vU h2 tk2 dU iU F2 N2 => ?_)
  dsimp only
  have dR' : oR.data = .cell (some (.ref lR)) := dR
  refine wpAny_execs_cons (s_first hh' X T F2 N2 lR' dictR iR hn hlay (.tail _ (.tail _ (.head _))) dR' fun t3 h3 tk3 F3 N3 => ?_)
  dsimp only
  refine wpAny_execs_cons (s_marks hh' X T F3 N3 lR' iR hn (.tail _ (.tail _ (.head _))) dR' fun aM vM h4 tk4 iM F4 N4 o4 => ?_)
  dsimp only
  refine wpAny_execs_cons (s_mends hh' X T F4 N4 lR' iR hn (.tail _ (.tail _ (.tail _ (.head _)))) dR' fun aE vE h5 tk5 iE F5 N5 o5 => ?_)
  dsimp only
  refine wpAny_execs_cons (s_left hh' X T F5 N5 lS' (by rw [iS.len]; exact hcs) (by exact rfl) fun aL nL h6 tk6 F6 N6 o6 => ?_)
  dsimp only
  have hks : (idxs ns (· == 2)).length ≤ 8 := Nat.le_trans idxs_len hn
  have hms : (idxs ns fun d => d == 1 || d == 3).length ≤ 8 := Nat.le_trans idxs_len hn
  have hkl : ∀ k ∈ idxs ns (· == 2), k < 8 := fun k hk => Nat.lt_of_lt_of_le (idxs_lt hk) hn
  have hml : ∀ k ∈ idxs ns (fun d => d == 1 || d == 3), k < ns.length := fun k hk => idxs_lt hk
  have hf8 : ns.idxOf 0 ≤ 8 := Nat.le_trans List.idxOf_le_length hn
  refine wpAny_execs_cons (s_strip (ks := idxs ns (· == 2)) (f := ns.idxOf 0) (t := t3) hh' hu' X T F6 N6 (fun q hq => Nat.ne_of_lt (o6 q hq)) (.tail _ (.head _)) iM hks hkl iS hcs okS hf8 (.tail _ (.tail _ (.head _))) iU (.tail _ (.tail _ (.tail _ (.head _)))) dU (by exact rfl) (by exact rfl) (by exact rfl) ?hret fun vL7 nL7 h7 tk7 m7 iL7 hne7 hm7 F7 N7 => ?_)
  case hret =>
    intro r t' h' tk hk hd hr hkp
    dsimp only
    refine h r t' h' tk hkp ?_
    have hk1 : (if idxs ns (· == 2) = [] then cs else dropEnd (looseOf (idxs ns (· == 2)) (ns.idxOf 0)) cs) = [] := by rw [if_neg hk]; exact hd
    rw [hr]
    unfold told
    dsimp only
    rw [if_pos ⟨hk, hk1⟩]
  dsimp only
  generalize hc1 : (if idxs ns (· == 2) = [] then cs else dropEnd (looseOf (idxs ns (· == 2)) (ns.idxOf 0)) cs) = c1 at iL7
  have ok1 : Ok c1 := fun c hc => by
    rw [← hc1] at hc
    split at hc
    · exact okS c hc
    · exact okS c (dropEnd_sub hc)
  have hz1 : c1.length ≤ 8 := by
    rw [← hc1]
    split
    · exact hcs
    · refine Nat.le_trans ?_ hcs
      unfold dropEnd
      rw [List.length_reverse]
      refine Nat.le_trans (List.dropWhile_suffix _).length_le ?_
      rw [List.length_reverse]
      exact Nat.le_refl _
  refine wpAny_execs_cons (s_unseen (es := idxs ns (fun d => d == 1 || d == 3)) (f := ns.idxOf 0) (t := t3) hh' hu' X T F7 N7 (.tail _ (.head _)) iE hms (fun k hk => Nat.lt_of_lt_of_le (hml k hk) hn) (.head _) iL7 hz1 ok1 hf8 lR' iR hn (.tail _ (.tail _ (.tail _ (.tail _ (.tail _ (.head _)))))) dR' (.tail _ (.tail _ (.tail _ (.head _)))) iU (.tail _ (.tail _ (.tail _ (.tail _ (.head _))))) dU
    ((hm7 _ (by decide)).trans (by exact rfl)) ((hm7 _ (by decide)).trans (by exact rfl)) ((hm7 _ (by decide)).trans (by exact rfl)) fun aL8 vL8 nL8 h8 tk8 m8 news8 iL8 hl8 hm8 F8 N8 hL8 hs8 => ?_)
  dsimp only
  generalize hc2 : (if unseenIf (ns.idxOf 0) ns.length (idxs ns fun d => d == 1 || d == 3) = true then c1.filter (fun c => !decide (c ∈ [8203, 173])) else c1) = c2 at iL8
  have ok2 : Ok c2 := fun c hc => by
    rw [← hc2] at hc
    split at hc
    · exact ok1 c (List.mem_filter.mp hc).1
    · exact ok1 c hc
  have hz2 : c2.length ≤ 8 := by
    rw [← hc2]
    split
    · exact Nat.le_trans (List.length_filter_le _ _) hz1
    · exact hz1
  refine wpAny_execs_cons (s_rows F8 X N8 fun r0 aW h9 tk9 F9 N9 hrW hr0 => ?_)
  dsimp only
  refine wpAny_execs_cons (s_ends F9 X N9 fun aN h10 tk10 F10 N10 hN10 => ?_)
  dsimp only
  have hWN : aW < aN := hN10 (aW, _) (.head _)
  have hrN : r0 < aN := hN10 (r0, _) (.tail _ (.head _))
  have m10 : ∀ y, y ≠ Str.ofString "ends" → y ≠ Str.ofString "rows" → y ≠ Str.ofString "left" → y ≠ Str.ofString "loose" → (fun z => if z = Str.ofString "ends" then some (Value.ref aN) else (fun z => if z = Str.ofString "rows" then some (Value.ref aW) else m8 z) z) y = (fun z => if z = Str.ofString "left" then some (Value.ref aL) else (fun z => if z = Str.ofString "mends" then some (Value.ref aE) else (fun z => if z = Str.ofString "marks" then some (Value.ref aM) else (fun z => if z = Str.ofString "first" then some (Value.int (ns.idxOf 0 : Nat) t3) else (bindL (envOfC (Str.ofString "_law_told") (fnScope 16) L 138 (Value.ref 137)).kindOf [(Str.ofString "signs", Value.ref lS), (Str.ofString "run", Value.ref lR)] fun _ => none) z) z) z) z) y :=
    fun y e1 e2 e3 e4 => (if_neg e1).trans ((if_neg e2).trans ((hm8 y e3).trans (hm7 y e4)))
  refine wpAny_execs_cons (s_split (cs := c2) (aL := aL8) (r0 := r0) (n0 := 0) (nW := 0) (nN := 0) hh' F10 X T (rest := news8) (fun q hq => ?_) ?_ ?_ ((if_neg (by decide)).trans (if_pos rfl)) (if_pos rfl) hL8 iL8 hz2 ((if_neg (by decide)).trans ((if_neg (by decide)).trans hl8)) fun vs os vN nW' nN' h11 tk11 m11 iR11 iN11 hm11 F11 N11 => ?_)
  · refine N10 q ?_
    simp only [List.mem_cons] at hq ⊢
    rcases hq with h | h | h | h
    · exact .inr (.inl h)
    · exact .inl h
    · exact .inr (.inr (.inl h))
    · exact .inr (.inr (.inr h))
  · simp only [List.nodup_cons, List.mem_cons, List.not_mem_nil, or_false, not_or, not_false_eq_true, List.nodup_nil, and_true]
    exact ⟨⟨Nat.ne_of_lt hWN, Nat.ne_of_gt hrW⟩, Nat.ne_of_gt hrN⟩
  · intro q hq hm
    have h1 := hr0 q hq
    simp only [List.mem_cons, List.not_mem_nil, or_false] at hm
    rcases hm with e | e | e
    · exact absurd (Nat.lt_trans h1 hrW) (by rw [e]; exact Nat.lt_irrefl _)
    · exact absurd (Nat.lt_trans h1 hrN) (by rw [e]; exact Nat.lt_irrefl _)
    · exact absurd h1 (by rw [e]; exact Nat.lt_irrefl _)
  dsimp only
  have hgood := Good.split c2 (p := 0) good0 ok2
  have hsub : ∀ q ∈ [(aE, LCg.lst vE), (aM, LCg.lst vM), (aU, W.listOf vU.toArray 0), (L + 1 + 1, oU), (L + 1, oR)], q ∈ (aW, W.listOf vs.reverse.toArray nW') :: (aN, W.listOf vN.toArray nN') :: (os ++ news8) := fun q hq => .tail _ (.tail _ (List.mem_append_right _ (hs8 q (.tail _ hq))))
  refine wpAny_execs_cons (s_hash (ks := idxs ns (· == 2)) F11 X T N11 (hsub _ (.tail _ (.head _))) iM hks ((hm11 _ (by decide)).trans ((m10 _ (by decide) (by decide) (by decide) (by decide)).trans (by exact rfl))) fun x12 t12 h12 tk12 hx12 F12 N12 => ?_)
  dsimp only
  have hx20 : x12.length ≤ 20 := by
    rw [str_len, hx12]
    have : ∀ k : Nat, (List.replicate k [35, 32]).flatten.length = 2 * k := fun k => by
      induction k with
      | zero => rfl
      | succ k ih => rw [List.replicate_succ, List.flatten_cons, List.length_append, ih]; simp; omega
    rw [this]
    omega
  have mm : ∀ y, y ≠ Str.ofString "text" → y ≠ Str.ofString "k" → (fun z => if z = Str.ofString "text" then some (Value.str x12 t12) else m11 z) y = (fun z => if z = Str.ofString "ends" then some (Value.ref aN) else (fun z => if z = Str.ofString "rows" then some (Value.ref aW) else m8 z) z) y :=
    fun y e1 e2 => (if_neg e1).trans (hm11 y e2)
  refine wpAny_execs_cons (s_text (f := ns.idxOf 0) (ks := idxs ns (· == 2)) (ms := idxs ns fun d => d == 1 || d == 3) (x := x12) hh' hu' hr' F12 X T N12 (.head _) iR11 (fun q hq => .tail _ (.tail _ (List.mem_append_left _ hq))) ?_ ?_ hgood.ok (.tail _ (.head _)) iN11 ?_ (fun e he => hgood.ends e (List.mem_reverse.mp he))
    (hsub _ (.tail _ (.head _))) iM (hsub _ (.head _)) iE hml hms (hsub _ (.tail _ (.tail _ (.head _)))) iU (hsub _ (.tail _ (.tail _ (.tail _ (.head _))))) dU lR' iR (Nat.le_trans hn (by decide)) hlay (hsub _ (.tail _ (.tail _ (.tail _ (.tail _ (.head _)))))) dR'
    ((mm _ (by decide) (by decide)).trans ((if_neg (by decide)).trans (if_pos rfl))) ((mm _ (by decide) (by decide)).trans (if_pos rfl)) ((mm _ (by decide) (by decide)).trans ((m10 _ (by decide) (by decide) (by decide) (by decide)).trans (by exact rfl))) ((mm _ (by decide) (by decide)).trans ((m10 _ (by decide) (by decide) (by decide) (by decide)).trans (by exact rfl))) ((mm _ (by decide) (by decide)).trans ((m10 _ (by decide) (by decide) (by decide) (by decide)).trans (by exact rfl))) (if_pos rfl) hx20 fun x13 t13 h13 tk13 m13 hx13 h713 F13 N13 => ?_)
  · have := hgood.len1; omega
  · intro r hr; have := hgood.row r hr; omega
  · rw [List.length_reverse]; have := hgood.len2; omega
  dsimp only
  refine wpAny_execs_cons ?_
  conv in stT 12 => whnf
  k_steps
  refine h _ _ _ _ (Fr.keep F13) ?_
  rw [hx13, hx12]
  unfold told
  dsimp only
  rw [hc1, hc2]
  rw [if_neg]
  rintro ⟨hk, he⟩
  have hc1' := hc1
  rw [if_neg hk] at hc1'
  exact hne7 hk (hc1'.trans he)
noncomputable abbrev envL (fa cd L : Addr) : Env := envOfC (Str.ofString "law") (fnScope 17) L fa (.ref cd)
noncomputable def stLx (i : Nat) : Stmt := ((fnBody 17)[i]?).getD (.Pass default)
/-- a statement of the law, sealed -/
@[irreducible] noncomputable def stL (i : Nat) : Stmt := stLx i
theorem stL_eq (i : Nat) : stL i = stLx i := by with_unfolding_all rfl
noncomputable def kindsL : List Nat := [46, 13, 10, 32, 8203, 13255, 223, 75, 890, 173, 35]
theorem ofs_sp : Str.ofString " " = sg 32 := by decide +kernel
theorem ofs_co2 : Str.ofString "\u33c7" = sg 13255 := by decide +kernel
theorem ofs_ss2 : Str.ofString "\u00df" = sg 223 := by decide +kernel
theorem ofs_io2 : Str.ofString "\u037a" = sg 890 := by decide +kernel
theorem ofs_K2 : Str.ofString "K" = sg 75 := by decide +kernel
theorem ofs_ha : Str.ofString "#" = sg 35 := by decide +kernel
theorem fmod_in (x n : Int) (h : 0 < n) : 0 ≤ x.fmod n ∧ x.fmod n < n := by
  rw [Int.fmod_eq_emod_of_nonneg x (Int.le_of_lt h)]
  exact ⟨Int.emod_nonneg _ (by omega), Int.emod_lt_of_pos _ h⟩
theorem sg_flat : ∀ cs : List Nat, (cs.map ((fun x : Str => x.cps.toList) ∘ sg)).flatten = cs
  | [] => rfl
  | c :: r => by rw [List.map_cons, List.flatten_cons, sg_flat r]; rfl
section
variable {w : World} {A : Around} {E : Value → Shared → Prop} {s : Shared} {g : Heap} {L fa cd : Addr} {m : Str → Option Value} {news rest : List (Addr × Obj)} {mg mb : Str → Option Value} {mean : ExcName → Option Value} {Q : Flow → Shared → Prop}
theorem l_kinds {o1 : Obj} {x : Option Value} (F : Fr g L s.heap m) (X : (KF w.params).In g) (N : News g L s.heap [(L + 1, o1)]) (d1 : o1.data = .cell x)
    (next : ∀ aK oK vK h' tk, oK.data = .cell (some (.ref aK)) → Signs vK kindsL → Fr g L h' m → News g L h' [(aK, W.listOf vK.toArray 0), (L + 1, oK)] → Q .next { s with heap := h', toks := tk }) :
    wpAny (model pw w) A (exec (stL 0) (envL fa cd L)) Q (fun _ _ => False) s := by
  have hfrag : rw_re0099_01 = rw_re0099_01 ∧ KF = KF := by (k_fill; exact ⟨rfl, rfl⟩)
  clear hfrag
  rw [stL_eq]
  conv in stLx _ => whnf
  k_steps
  rename News _ _ _ _ => N'
  refine next _ _ _ _ _ (by assumption) ?k (by assumption) N'
  case k => exact .cons ⟨_, by rw [ofs_dot]⟩ (.cons ⟨_, by rw [ofs_cr]⟩ (.cons ⟨_, by rw [ofs_nl]⟩ (.cons ⟨_, by rw [ofs_sp]⟩ (.cons ⟨_, by rw [ofs_zw2]⟩ (.cons ⟨_, by rw [ofs_co2]⟩ (.cons ⟨_, by rw [ofs_ss2]⟩ (.cons ⟨_, by rw [ofs_K2]⟩ (.cons ⟨_, by rw [ofs_io2]⟩ (.cons ⟨_, by rw [ofs_shy2]⟩ (.cons ⟨_, by rw [ofs_ha]⟩ .nil))))))))))
theorem l_signs (hh : A.handled = none) (F : Fr g L s.heap m) (X : (KF w.params).In g) (T : Top vw (looseW vw lsn) mean mg mb g) {aK l : Addr} {vK vs : List Value} {nK : Nat} {oK : Obj} {xs : List Int} (N : News g L s.heap news)
    (hK : (aK, W.listOf vK.toArray nK) ∈ news) (iK : Signs vK kindsL) (hcK : (L + 1, oK) ∈ news) (dK : oK.data = .cell (some (.ref aK))) (hl : g.IsList l vs.toArray) (iv : IntsAre vs xs) (hz : xs.length ≤ 900) (m0 : m (Str.ofString "script") = some (.ref l))
    (next : ∀ D ys h' tk, Signs ys ((xs.take 8).map fun x => kindsL.getD (x.fmod 11).toNat 0) → Fr g L h' (fun z => if z = Str.ofString "signs" then some (.ref D) else m z) → News g L h' ((D, LCg.lst ys) :: news) → Q .next { s with heap := h', toks := tk }) :
    wpAny (model pw w) A (exec (stL 1) (envL fa cd L)) Q (fun _ _ => False) s := by
  have hzv := iv.length
  with_unfolding_all refine LCg.Assign_ListComp_U (F₀ := F) (by rfl) (by with_unfolding_all rfl) (by with_unfolding_all rfl) (by decide) (by rfl) (by decide) (by rfl) (by rfl) (by rfl) ?_
  k_steps
  rename IntsAre _ (List.take 8 xs) => iW
  have hzw := iW.length
  have hmin : (xs.take 8).length ≤ 8 := by rw [List.length_take]; omega
  refine LCg.CompSrc.ledger hh (by assumption) (by assumption) (List.Mem.head _) (by rw [List.size_toArray, hzw]; exact Nat.le_trans hmin (by decide)) fun g' => ?_
  refine rest_U (fun i y => ∃ t, y = .str (sg (kindsL.getD (((xs.take 8).getD i 0).fmod 11).toNat 0)) t) (fun i v I oI C oC D m₂ ys h tk E' hi hv hC hx F N off ne => ?_) (fun ys hy D h tk F N o1 => ?_)
  · obtain ⟨x, tx, rfl, hxx⟩ := IntsAre.at iW i v (by simpa using hv)
    have hg : (xs.take 8).getD i 0 = x := by simp [List.getD, hxx]
    rw [hg]
    k_steps
    obtain ⟨h1, h2⟩ := fmod_in x 11 (by decide)
    have hlt : (x.fmod 11).toNat < kindsL.length := by
      show (x.fmod 11).toNat < 11
      omega
    obtain ⟨y, hy, ty, rfl⟩ := iK.at _ (List.getElem?_eq_getElem hlt)
    rw [getD_at hlt]
    refine item_at (v := .str (sg (kindsL[(x.fmod 11).toNat])) ty) (News.isList N (.tail _ (.tail _ (.tail _ (.tail _ hK))))) h1 (by omega) (by simpa using hy) ?_ (by with_unfolding_all rfl)
    k_steps
    exact LCg.CompEnd.intro F N _ (fun p hp => hp) off (.inr ⟨_, .head _, rfl, _, rfl⟩) ⟨rfl, _, rfl⟩
  · have e := hy.map (f := fun i => kindsL.getD (((xs.take 8).getD i 0).fmod 11).toNat 0) (R' := fun c y => ∃ t, y = .str ⟨#[c]⟩ t) fun i y h => h
    rw [List.size_toArray, hzw, show ((List.range (xs.take 8).length).map fun i => kindsL.getD (((xs.take 8).getD i 0).fmod 11).toNat 0) = (xs.take 8).map fun x => kindsL.getD (x.fmod 11).toNat 0 from ?_] at e
    · refine next D ys h tk e F fun q hq => ?_
      rcases List.mem_cons.mp hq with rfl | hq
      · exact N _ (.head _)
      · exact N _ (.tail _ (.tail _ hq))
    · have := congrArg (List.map fun x : Int => kindsL.getD (x.fmod 11).toNat 0) (range_getD 0 (xs.take 8))
      rw [List.map_map] at this
      exact this
theorem l_run (hh : A.handled = none) (F : Fr g L s.heap m) (X : (KF w.params).In g) (T : Top vw (looseW vw lsn) mean mg mb g) {l : Addr} {vs : List Value} {xs : List Int} (N : News g L s.heap news)
    (hl : g.IsList l vs.toArray) (iv : IntsAre vs xs) (hz : xs.length ≤ 900) (m0 : m (Str.ofString "script") = some (.ref l))
    (next : ∀ D ys h' tk, IntsAre ys (((xs.take 4).map fun x => (x.fdiv 11).fmod 4) ++ [1, 2, 0, 2]) → Fr g L h' (fun z => if z = Str.ofString "run" then some (.ref D) else m z) → News g L h' ((D, W.listOf ys.toArray 0) :: news) → Q .next { s with heap := h', toks := tk }) :
    wpAny (model pw w) A (exec (stL 2) (envL fa cd L)) Q (fun _ _ => False) s := by
  rw [stL_eq]
  conv in stLx _ => whnf
  have hzv := iv.length
  walk1
  walk1
  refine LCg.ListComp_U (F₀ := F) (by with_unfolding_all rfl) (by decide) (by rfl) (by decide) (by rfl) ?_
  k_steps
  rename IntsAre _ (List.take 4 xs) => iW
  have hzw := iW.length
  have hmin : (xs.take 4).length ≤ 4 := by rw [List.length_take]; omega
  refine LCg.CompSrc.ledger hh (by assumption) (by assumption) (List.Mem.head _) (by rw [List.size_toArray, hzw]; exact Nat.le_trans hmin (by decide)) fun g' => ?_
  refine rest_U (fun i y => ∃ t, y = .int ((((xs.take 4).getD i 0).fdiv 11).fmod 4) t) (fun i v I oI C oC D m₂ ys h tk E' hi hv hC hx F N off ne => ?_) (fun ys hy D h tk F N o1 => ?_)
  · obtain ⟨x, tx, rfl, hxx⟩ := IntsAre.at iW i v (by simpa using hv)
    have hg : (xs.take 4).getD i 0 = x := by simp [List.getD, hxx]
    rw [hg]
    k_steps
    exact LCg.CompEnd.intro F N _ (fun p hp => hp) off (.inr ⟨_, .head _, rfl, _, rfl⟩) ⟨rfl, _, rfl⟩
  · have e := hy.map (f := fun i => (((xs.take 4).getD i 0).fdiv 11).fmod 4) (R' := fun (c : Int) y => ∃ t, y = .int c t) fun i y h => h
    rw [List.size_toArray, hzw, show ((List.range (xs.take 4).length).map fun i => (((xs.take 4).getD i 0).fdiv 11).fmod 4) = (xs.take 4).map fun x => (x.fdiv 11).fmod 4 from ?_] at e
    · have e2 := e.ints
      have hlen := e2.length
      have hz4 : ys.length ≤ 4 := by rw [hlen, List.length_map]; exact hmin
      k_steps
      rename IntsAre _ (_ ++ _) => iA
      rename News _ _ _ _ => N'
      refine next _ _ _ _ iA (by assumption) fun q hq => ?_
      rcases List.mem_cons.mp hq with rfl | hq
      · exact N' _ (.head _)
      · exact N' _ (.tail _ (.tail _ (.tail _ (.tail _ hq))))
    · have := congrArg (List.map fun x : Int => (x.fdiv 11).fmod 4) (range_getD 0 (xs.take 4))
      rw [List.map_map] at this
      exact this
theorem l_text (F : Fr g L s.heap m) (X : (KF w.params).In g) (T : Top vw (looseW vw lsn) mean mg mb g) {aS : Addr} {vS : List Value} {cs : List Nat} (N : News g L s.heap news)
    (hS : (aS, LCg.lst vS) ∈ news) (iS : Signs vS cs) (hcs : cs.length ≤ 8) (m0 : m (Str.ofString "signs") = some (.ref aS))
    (next : ∀ x t h' tk, x.cps.toList = cs → Fr g L h' (fun z => if z = Str.ofString "text" then some (.str x t) else m z) → News g L h' news → Q .next { s with heap := h', toks := tk }) :
    wpAny (model pw w) A (exec (stL 3) (envL fa cd L)) Q (fun _ _ => False) s := by
  rw [stL_eq]
  conv in stLx _ => whnf
  k_steps
  refine PySem.W.KT.join_B (g := id) 3 (News.isList (by assumption) hS) (l := cs.map sg) iS.carried ?_ ?_ (by decide) fun t' k => ?_
  · intro a ha
    obtain ⟨c, _, rfl⟩ := List.mem_map.mp ha
    show 1 ≤ 3
    decide
  · rw [List.length_map]; exact Nat.le_trans hcs (by decide)
  · k_steps
    refine next _ _ _ _ ?_ (by assumption) (by assumption)
    rw [show Str.ofString "" = Str.mk #[] from by decide +kernel, glued_empty, List.map_id, List.map_map]
    exact sg_flat cs
end
section
variable {prog : Program} {w : World} {A : Around} {E : Value → Shared → Prop} {s : Shared} {h₀ : Heap} {L : Addr} {m : Str → Option Value} {env : Env}
theorem ListComp_S {ct elt iter : Expr} {x : Str} {px : Pos} {scope : Scope} {cl : List (Str × Addr)} {pos : Pos} {Q : Value → Shared → Prop}
    (hclos : closureFor scope env = pure cl) (hcell : ∀ y ∈ scope.names, y.2 ≠ .cell) (hkind : scope.kind = .function)
    (hnames : ∀ y ∈ scope.names, y.2 = .local → scope.names.lookup y.1 = some .local) (hx : scope.names.lookup x = some .local)
    (h : wpAny (model prog w) A (eval iter env) (fun xv s₁ => ∃ z t news, xv = .str z t ∧ A.handled = none ∧ Fr h₀ L s₁.heap m ∧ News h₀ L s₁.heap news ∧ z.cps.size ≤ sizeLine ∧
      ∀ g, LCt.CompRestT prog w A h₀ L m env ct elt x scope cl { s₁ with heap := g } (fun _ => True) (SignAt z) (LCg.FinE h₀ L m { s₁ with heap := g } Q) z.cps.size 0 [] news) E s)
    (hs : ∀ x, foldedSetIterable iter env x = pure x := by intro _; rfl) :
    wpAny (model prog w) A (eval (.ListComp elt [⟨.Name x px, iter, [ct], 0⟩] scope pos) env) Q E s := by
  rw [eval_ListComp]
  refine wpAny_comprehension_free (use := none) rfl hs hclos hkind hnames (wpAny_mono h (fun xv s₁ h₁ => ?_) fun _ _ e => e)
  obtain ⟨z, t, news, rfl, hh, F, N, hsz, R⟩ := h₁
  cases ha : z.cps.all (· < 128)
  · refine wpAny_pyIter_wide ha ?_
    refine LCt.block_T (Walks.strWide hh _ z t) hsz (fun i h st => by obtain ⟨o, e, _⟩ := st; exact ⟨o, e⟩) (fun i h h' o nw st e e' _ _ _ => by obtain ⟨o', q, r⟩ := st; rw [e] at q; cases q; exact ⟨o, e', r⟩) hcell hkind hx ⟨_, Heap.get?_push_size _ rfl, rfl, rfl⟩ (fun b hb => ?_)
      (F.keeps fun _ _ e => Heap.get?_push_of_some _ e) (N.grown fun _ _ e => Heap.get?_push_of_some _ e) (Nat.ne_of_lt F.ns.lt) (next_is_new F) (fun p hp => Nat.ne_of_lt (Heap.lt_size (N p hp).1)) trivial (R _) ?_
    · rw [List.mem_singleton.mp hb, Heap.size_push]; exact Nat.lt_succ_self _
    · intro D C h tk m' ys news' F' N' o1 hn hC₀ hD₀ hCL hDL hCD offC f
      refine ⟨m', hn, fun h'' hs'' => f D h'' tk (F'.change hs'' hCL hC₀) (fun p hp => ?_) o1⟩
      refine ⟨hs''.extBut _ _ ?_ (N' p hp).1, (N' p hp).2⟩
      rcases List.mem_cons.mp hp with rfl | hp
      · exact Ne.symm hCD
      · exact offC p hp
  · refine wpAny_pyIter_ascii ha ?_
    refine LCt.block_T (Walks.strAscii hh _ z t) hsz (fun i h st => by obtain ⟨o, e, _⟩ := st; exact ⟨o, e⟩) (fun i h h' o nw st e e' _ _ _ => by obtain ⟨o', q, r⟩ := st; rw [e] at q; cases q; exact ⟨o, e', r⟩) hcell hkind hx ⟨_, Heap.get?_push_size _ rfl, rfl, rfl⟩ (fun b hb => ?_)
      (F.keeps fun _ _ e => Heap.get?_push_of_some _ e) (N.grown fun _ _ e => Heap.get?_push_of_some _ e) (Nat.ne_of_lt F.ns.lt) (next_is_new F) (fun p hp => Nat.ne_of_lt (Heap.lt_size (N p hp).1)) trivial (R _) ?_
    · rw [List.mem_singleton.mp hb, Heap.size_push]; exact Nat.lt_succ_self _
    · intro D C h tk m' ys news' F' N' o1 hn hC₀ hD₀ hCL hDL hCD offC f
      refine ⟨m', hn, fun h'' hs'' => f D h'' tk (F'.change hs'' hCL hC₀) (fun p hp => ?_) o1⟩
      refine ⟨hs''.extBut _ _ ?_ (N' p hp).1, (N' p hp).2⟩
      rcases List.mem_cons.mp hp with rfl | hp
      · exact Ne.symm hCD
      · exact offC p hp
end
/-- the prepared text -/
noncomputable def prepL (l : List Nat) : List Nat := ((l.filter fun c => !decide (c = 173 ∨ c = 8203)).map foldC).flatten
noncomputable def lawIf (i : Nat) : Stmt := nth (forBody (stLx 4)) i
theorem b1_sigmaB (P : Params) : (sigma.all fun c => b1Has P c == decide (c = 173 ∨ c = 8203)) = true := by kernel_rfl
theorem b1_sigma (P : Params) {c : Nat} (h : c ∈ sigma) : b1Has P c = decide (c = 173 ∨ c = 8203) := eq_of_beq (List.all_eq_true.mp (b1_sigmaB P) c h)
theorem foldC_len (c : Nat) : (foldC c).length ≤ 3 := by
  unfold foldC
  repeat' split
  all_goals simp
theorem txts_carried {cs : List Nat} {ys : List Value} (h : Rel2 (fun c y => ∃ z t, y = .str z t ∧ z.cps.toList = foldC c) ys cs) : ∃ zs : List Str, CarriedAll ys (zs.map PyData.str) ∧ zs.map (fun z => z.cps.toList) = cs.map foldC := by
  induction h with
  | nil => exact ⟨[], .nil, rfl⟩
  | cons a _ ih =>
    obtain ⟨z, t, rfl, hz⟩ := a
    obtain ⟨zs, h1, h2⟩ := ih
    exact ⟨z :: zs, .cons (.str z t) h1, by rw [List.map_cons, List.map_cons, hz, h2]⟩
section
variable {w : World} {A : Around} {E : Value → Shared → Prop} {s : Shared} {g : Heap} {L fa cd : Addr} {m : Str → Option Value} {news rest : List (Addr × Obj)} {mg mb : Str → Option Value} {mean : ExcName → Option Value} {Q : Flow → Shared → Prop}
theorem l_prep (hh : A.handled = none) (hroom : A.depth < 890) (F : Fr g L s.heap m) (X : (KF w.params).In g) (T : Top vw (looseW vw lsn) mean mg mb g) (N : News g L s.heap news) {x : Str} {tx : Tok} (m0 : m (Str.ofString "text") = some (.str x tx)) (hx : x.length ≤ 2000) (hsig : ∀ c ∈ x.cps.toList, c ∈ sigma)
    (next : ∀ x' t h' tk m', x'.cps.toList = prepL x.cps.toList → m' (Str.ofString "text") = some (.str x' t) → (∀ y, y ≠ Str.ofString "text" → m' y = m y) → Fr g L h' m' → News g L h' news → Q .next { s with heap := h', toks := tk }) :
    wpAny (model pw w) A (exec (nth (ifBody (lawIf 0)) 0) (envL fa cd L)) Q (fun _ _ => False) s := by
  have hfrag : rw_re0099_01 = rw_re0099_01 ∧ KF = KF := by (k_fill; exact ⟨rfl, rfl⟩)
  clear hfrag
  conv in nth _ _ => whnf
  iterate 6 (first | walk1 | (dsimp only; walk1))
  refine ListComp_S (h₀ := g) (L := L) (m := m) (by with_unfolding_all rfl) (by decide) (by rfl) (by decide) (by rfl) ?_
  walk1
  have hsz : x.cps.size ≤ 2000 := hx
  refine ⟨x, tx, news, rfl, hh, F, N, Nat.le_trans hsz (by decide), fun g' => ?_⟩
  refine rest_T (fun i => !decide (x.cps.toList.getD i 0 = 173 ∨ x.cps.toList.getD i 0 = 8203)) (fun i y => ∃ z t, y = .str z t ∧ z.cps.toList = foldC (x.cps.toList.getD i 0)) (fun i v I oI C oC D m₂ ys h tk E' hi hv hC hx F N off ne => ?_) (fun ys hy D h tk F N o1 => ?_)
  · obtain ⟨c, tc, hcc, rfl⟩ := hv
    have hcl : x.cps.toList[i]? = some c := by simpa using hcc
    have hg : x.cps.toList.getD i 0 = c := by rw [List.getD_eq_getElem?_getD, hcl]; rfl
    have hcs : c ∈ sigma := hsig c (List.mem_of_getElem? hcl)
    have hb := b1_sigma w.params hcs
    rw [hg]
    k_steps
    refine c_inb1 (Frag.In.keeps X F.keep) (Top.keeps T F.keep) (by omega) fun h2 tk2 hk => ?_
    rw [hb]
    have F2 := Fr.keeps F hk
    have N2 := News.grown N hk
    k_steps
    · rename c = 173 ∨ c = 8203 => hc
      exact LCg.CompEnd.intro F2 N2 news (fun p hp => hp) off trivial rfl
    · rename ¬ (c = 173 ∨ c = 8203) => hc
      refine c_b3 (Frag.In.keeps X F2.keep) (Top.keeps T F2.keep) (by omega) hcs fun r t' h3 tk3 hk3 hr => ?_
      have F3 := Fr.keeps F2 hk3
      have N3 := News.grown N2 hk3
      exact LCg.CompEnd.intro F3 N3 news (fun p hp => hp) off trivial ⟨rfl, r, t', rfl, hr⟩
  · have e := hy.map (f := fun i => x.cps.toList.getD i 0) (R' := fun c y => ∃ z t, y = .str z t ∧ z.cps.toList = foldC c) fun i y h => h
    have hsize : x.cps.size = x.cps.toList.length := Array.length_toList.symm
    have e2 := filter_getD x.cps.toList fun c => !decide (c = 173 ∨ c = 8203)
    rw [hsize, e2] at e
    obtain ⟨zs, hc, hzs⟩ := txts_carried e
    have hzl : zs.length ≤ 2000 := by
      have h1 : zs.length = (x.cps.toList.filter fun c => !decide (c = 173 ∨ c = 8203)).length := by rw [← List.length_map (f := fun z : Str => z.cps.toList), hzs, List.length_map]
      have h2 := List.length_filter_le (fun c => !decide (c = 173 ∨ c = 8203)) x.cps.toList
      rw [← hsize] at h2
      omega
    have hb3 : ∀ z ∈ zs, (id z).length ≤ 3 := fun z hz => by
      have : z.cps.toList ∈ zs.map fun z => z.cps.toList := List.mem_map_of_mem hz
      rw [hzs] at this
      obtain ⟨c, _, hcz⟩ := List.mem_map.mp this
      show z.length ≤ 3
      rw [str_len, ← hcz]
      exact foldC_len c
    dsimp only
    walk1
    refine PySem.W.KT.join_B (g := id) 3 (News.isList N (.head _)) (l := zs) hc hb3 (Nat.le_trans hzl (by decide)) (by decide) fun t' k => ?_
    k_steps
    refine next _ _ _ _ _ ?_ (if_pos rfl) (fun y hy => if_neg hy) (by assumption) (fun p hp => (by assumption : News _ _ _ _) p (.tail _ hp))
    rw [show Str.ofString "" = Str.mk #[] from by decide +kernel, glued_empty, List.map_id, hzs]
    rfl
end
theorem dropWhile_drop {α : Type} (p : α → Bool) : ∀ l : List α, l.dropWhile p = l.drop (l.takeWhile p).length
  | [] => rfl
  | c :: r => by
    rw [List.dropWhile_cons, List.takeWhile_cons]
    split
    · rw [dropWhile_drop p r]; simp
    · simp
theorem rstrip_list (x : Str) : (Txt.rstrip x).cps.toList = (x.cps.toList.reverse.dropWhile Unicode.isSpace).reverse := by
  unfold Txt.rstrip
  rw [PyProof.Rows.stripBy_eq]
  show (Builtin.Str.strSub x 0 (x.length - ((x.cps.toList.drop 0).reverse.takeWhile Unicode.isSpace).length)).cps.toList = _
  rw [List.drop_zero, dropWhile_drop]
  have hx : x.length = x.cps.toList.length := str_len x
  rw [hx]
  generalize hl : x.cps.toList = l
  have e : ∀ n, (Builtin.Str.strSub x 0 n).cps.toList = l.take n := fun n => by
    unfold Builtin.Str.strSub
    simp [hl]
  rw [e, List.reverse_drop, List.reverse_reverse, List.length_reverse]
theorem dropWhile_same {α : Type} {p q : α → Bool} : ∀ {l : List α}, (∀ c ∈ l, p c = q c) → l.dropWhile p = l.dropWhile q
  | [], _ => rfl
  | c :: r, h => by
    rw [List.dropWhile_cons, List.dropWhile_cons, h c (.head _), dropWhile_same fun d hd => h d (.tail _ hd)]
theorem space_sigmaB : (sigma.all fun c => Unicode.isSpace c == decide (c ∈ [32, 13, 10])) = true := by kernel_rfl
theorem rstrip_sigma {x : Str} (h : ∀ c ∈ x.cps.toList, c ∈ sigma) : (Txt.rstrip x).cps.toList = dropEnd [32, 13, 10] x.cps.toList := by
  rw [rstrip_list]
  unfold dropEnd
  rw [dropWhile_same fun c hc => eq_of_beq (List.all_eq_true.mp space_sigmaB c (h c (List.mem_reverse.mp hc)))]
noncomputable def comL (l : List Nat) : List Nat := if dropEnd [32, 13, 10] l = [] then [35] else 35 :: 32 :: dropEnd [32, 13, 10] l
/-- a deed -/
noncomputable def deedL (d : Int) (l : List Nat) : List Nat := if d = 0 then prepL l else if d = 1 then dotL true (fixL l) else if d = 2 then comL l else fixL l
noncomputable def lawE1 : Stmt := nth (ifElse (lawIf 0)) 0
noncomputable def lawE2 : Stmt := nth (ifElse lawE1) 0
theorem law0_eq : ∃ pos, lawIf 0 = .If (ifTest (lawIf 0)) [nth (ifBody (lawIf 0)) 0] [lawE1] pos := ⟨_, rfl⟩
theorem law1_eq : ∃ pos, lawE1 = .If (ifTest lawE1) [nth (ifBody lawE1) 0] [lawE2] pos := ⟨_, rfl⟩
theorem law2_eq : ∃ pos, lawE2 = .If (ifTest lawE2) [nth (ifBody lawE2) 0] [nth (ifElse lawE2) 0] pos := ⟨_, rfl⟩
section
variable {w : World} {A : Around} {E : Value → Shared → Prop} {s : Shared} {g : Heap} {L fa cd : Addr} {m : Str → Option Value} {news rest : List (Addr × Obj)} {mg mb : Str → Option Value} {mean : ExcName → Option Value} {Q : Flow → Shared → Prop}
theorem t_law0 (F : Fr g L s.heap m) (X : (KF w.params).In g) {aR : Addr} {vR : List Value} {nR k : Nat} {d : Int} {tk td : Tok} (N : News g L s.heap news) (hR : (aR, W.listOf vR.toArray nR) ∈ news) (hk : k ≤ 100) (hd : vR.toArray[(k : Int).toNat]? = some (.int d td))
    (m1 : m (Str.ofString "run") = some (.ref aR)) (m2 : m (Str.ofString "k") = some (.int (k : Int) tk)) :
    wpAny (model pw w) A (isTrue (ifTest (lawIf 0)) (envL fa cd L) (eval (ifTest (lawIf 0)) (envL fa cd L))) (TEnd (decide (d = 0)) s g L m news) (fun _ _ => False) s := by
  have hfrag : rw_re0099_01 = rw_re0099_01 ∧ KF = KF := by (k_fill; exact ⟨rfl, rfl⟩)
  clear hfrag
  conv in ifTest _ => whnf
  conv in ifTest _ => whnf
  k_steps
  all_goals (refine ⟨?_, _, _, rfl, F, N⟩; first | exact Bool.eq_iff_iff.mpr (by simp) | simp_all)
theorem t_law1 (F : Fr g L s.heap m) (X : (KF w.params).In g) {aR : Addr} {vR : List Value} {nR k : Nat} {d : Int} {tk td : Tok} (N : News g L s.heap news) (hR : (aR, W.listOf vR.toArray nR) ∈ news) (hk : k ≤ 100) (hd : vR.toArray[(k : Int).toNat]? = some (.int d td))
    (m1 : m (Str.ofString "run") = some (.ref aR)) (m2 : m (Str.ofString "k") = some (.int (k : Int) tk)) :
    wpAny (model pw w) A (isTrue (ifTest lawE1) (envL fa cd L) (eval (ifTest lawE1) (envL fa cd L))) (TEnd (decide (d = 1)) s g L m news) (fun _ _ => False) s := by
  conv in ifTest _ => whnf
  conv in ifTest _ => whnf
  k_steps
  all_goals (refine ⟨?_, _, _, rfl, F, N⟩; first | exact Bool.eq_iff_iff.mpr (by simp) | simp_all)
theorem t_law2 (F : Fr g L s.heap m) (X : (KF w.params).In g) {aR : Addr} {vR : List Value} {nR k : Nat} {d : Int} {tk td : Tok} (N : News g L s.heap news) (hR : (aR, W.listOf vR.toArray nR) ∈ news) (hk : k ≤ 100) (hd : vR.toArray[(k : Int).toNat]? = some (.int d td))
    (m1 : m (Str.ofString "run") = some (.ref aR)) (m2 : m (Str.ofString "k") = some (.int (k : Int) tk)) :
    wpAny (model pw w) A (isTrue (ifTest lawE2) (envL fa cd L) (eval (ifTest lawE2) (envL fa cd L))) (TEnd (decide (d = 2)) s g L m news) (fun _ _ => False) s := by
  conv in ifTest _ => whnf
  conv in ifTest _ => whnf
  k_steps
  all_goals (refine ⟨?_, _, _, rfl, F, N⟩; first | exact Bool.eq_iff_iff.mpr (by simp) | simp_all)
theorem p_quote (hroom : A.depth < 890) (F : Fr g L s.heap m) (X : (KF w.params).In g) (T : Top vw (looseW vw lsn) mean mg mb g) (N : News g L s.heap news) {x : Str} {tx : Tok} (m0 : m (Str.ofString "text") = some (.str x tx)) (hx : x.length ≤ 2000)
    (next : ∀ x' t h' tk m', x'.cps.toList = dotL true (fixL x.cps.toList) → m' (Str.ofString "text") = some (.str x' t) → (∀ y, y ≠ Str.ofString "text" → m' y = m y) → Fr g L h' m' → News g L h' news → Q .next { s with heap := h', toks := tk }) :
    wpAny (model pw w) A (exec (nth (ifBody lawE1) 0) (envL fa cd L)) Q (fun _ _ => False) s := by
  conv in nth _ _ => whnf
  k_steps
  refine c_quote (Frag.In.keeps X F.keep) (Top.keeps T F.keep) (by omega) hx fun r t' h3 tk3 hk3 hr => ?_
  have F3 := Fr.keeps F hk3
  have N3 := News.grown N hk3
  clear F N
  k_steps
  exact next r _ _ _ _ hr (if_pos rfl) (fun y hy => if_neg hy) (by assumption) (by assumption)
theorem p_comment (hroom : A.depth < 890) (F : Fr g L s.heap m) (X : (KF w.params).In g) (T : Top vw (looseW vw lsn) mean mg mb g) (N : News g L s.heap news) {x : Str} {tx : Tok} (m0 : m (Str.ofString "text") = some (.str x tx)) (hx : x.length ≤ 2000) (hsig : ∀ c ∈ x.cps.toList, c ∈ sigma)
    (next : ∀ x' t h' tk m', x'.cps.toList = comL x.cps.toList → m' (Str.ofString "text") = some (.str x' t) → (∀ y, y ≠ Str.ofString "text" → m' y = m y) → Fr g L h' m' → News g L h' news → Q .next { s with heap := h', toks := tk }) :
    wpAny (model pw w) A (exec (nth (ifBody lawE2) 0) (envL fa cd L)) Q (fun _ _ => False) s := by
  conv in nth _ _ => whnf
  k_steps
  refine c_comment (Frag.In.keeps X F.keep) (Top.keeps T F.keep) (by omega) hx fun r t' h3 tk3 hk3 hr => ?_
  have F3 := Fr.keeps F hk3
  have N3 := News.grown N hk3
  clear F N
  have hr2 : r.cps.toList = comL x.cps.toList := by
    rw [hr, rstrip_sigma hsig, str_len, rstrip_sigma hsig]
    unfold comL
    by_cases h0 : dropEnd [32, 13, 10] x.cps.toList = []
    · rw [if_pos h0, if_pos (by rw [h0]; rfl)]
    · rw [if_neg h0, if_neg (by rw [List.length_eq_zero_iff]; exact h0)]
  clear hr
  replace hr2 := Hid'.mk hr2
  k_steps
  exact next r _ _ _ _ hr2.e (if_pos rfl) (fun y hy => if_neg hy) (by assumption) (by assumption)
theorem p_fix (hroom : A.depth < 890) (F : Fr g L s.heap m) (X : (KF w.params).In g) (T : Top vw (looseW vw lsn) mean mg mb g) (N : News g L s.heap news) {x : Str} {tx : Tok} (m0 : m (Str.ofString "text") = some (.str x tx)) (hx : x.length ≤ 2000)
    (next : ∀ x' t h' tk m', x'.cps.toList = fixL x.cps.toList → m' (Str.ofString "text") = some (.str x' t) → (∀ y, y ≠ Str.ofString "text" → m' y = m y) → Fr g L h' m' → News g L h' news → Q .next { s with heap := h', toks := tk }) :
    wpAny (model pw w) A (exec (nth (ifElse lawE2) 0) (envL fa cd L)) Q (fun _ _ => False) s := by
  conv in nth _ _ => whnf
  k_steps
  refine c_fix (Frag.In.keeps X F.keep) (Top.keeps T F.keep) (by omega) hx fun r t' h3 tk3 hk3 hr => ?_
  have F3 := Fr.keeps F hk3
  have N3 := News.grown N hk3
  clear F N
  k_steps
  exact next r _ _ _ _ hr (if_pos rfl) (fun y hy => if_neg hy) (by assumption) (by assumption)
/-- the deed of the turn -/
theorem l_deed (hh : A.handled = none) (hroom : A.depth < 890) (F : Fr g L s.heap m) (X : (KF w.params).In g) (T : Top vw (looseW vw lsn) mean mg mb g) (N : News g L s.heap news) {x : Str} {tx : Tok} (m0 : m (Str.ofString "text") = some (.str x tx)) (hx : x.length ≤ 2000) (hsig : ∀ c ∈ x.cps.toList, c ∈ sigma)
    {aR : Addr} {vR : List Value} {nR k : Nat} {d : Int} {tk td : Tok} (hR : (aR, W.listOf vR.toArray nR) ∈ news) (hk : k ≤ 100) (hd : vR.toArray[(k : Int).toNat]? = some (.int d td))
    (m1 : m (Str.ofString "run") = some (.ref aR)) (m2 : m (Str.ofString "k") = some (.int (k : Int) tk))
    (next : ∀ x' t h' tk m', x'.cps.toList = deedL d x.cps.toList → m' (Str.ofString "text") = some (.str x' t) → (∀ y, y ≠ Str.ofString "text" → m' y = m y) → Fr g L h' m' → News g L h' news → Q .next { s with heap := h', toks := tk }) :
    wpAny (model pw w) A (exec (lawIf 0) (envL fa cd L)) Q (fun _ _ => False) s := by
  obtain ⟨p0, e0⟩ := law0_eq
  obtain ⟨p1, e1⟩ := law1_eq
  obtain ⟨p2, e2⟩ := law2_eq
  rw [e0]
  refine wpAny_If ?_
  refine wpAny_mono (t_law0 F X N hR hk hd m1 m2) (fun b s₂ h => ?_) (fun _ _ h => h)
  obtain ⟨rfl, h2, tk2, rfl, F2, N2⟩ := h
  by_cases d0 : d = 0
  · rw [if_pos (decide_eq_true d0)]
    refine wpAny_execs_cons (l_prep hh hroom F2 X T N2 m0 hx hsig fun x' t h' tk m' hx' a b c d => wpAny_execs_nil (next x' t h' tk m' ?_ a b c d))
    rw [hx', deedL, if_pos d0]
  rw [if_neg (by rw [decide_eq_false d0]; exact Bool.false_ne_true)]
  refine wpAny_execs_cons ?_
  rw [e1]
  refine wpAny_If ?_
  refine wpAny_mono (t_law1 F2 X N2 hR hk hd m1 m2) (fun b s₂ h => ?_) (fun _ _ h => h)
  obtain ⟨rfl, h3, tk3, rfl, F3, N3⟩ := h
  by_cases d1 : d = 1
  · rw [if_pos (decide_eq_true d1)]
    refine wpAny_execs_cons (p_quote hroom F3 X T N3 m0 hx fun x' t h' tk m' hx' a b c d => wpAny_execs_nil (wpAny_execs_nil (next x' t h' tk m' ?_ a b c d)))
    rw [hx', deedL, if_neg d0, if_pos d1]
  rw [if_neg (by rw [decide_eq_false d1]; exact Bool.false_ne_true)]
  refine wpAny_execs_cons ?_
  rw [e2]
  refine wpAny_If ?_
  refine wpAny_mono (t_law2 F3 X N3 hR hk hd m1 m2) (fun b s₂ h => ?_) (fun _ _ h => h)
  obtain ⟨rfl, h4, tk4, rfl, F4, N4⟩ := h
  by_cases d2 : d = 2
  · rw [if_pos (decide_eq_true d2)]
    refine wpAny_execs_cons (p_comment hroom F4 X T N4 m0 hx hsig fun x' t h' tk m' hx' a b c d => wpAny_execs_nil (wpAny_execs_nil (wpAny_execs_nil (next x' t h' tk m' ?_ a b c d))))
    rw [hx', deedL, if_neg d0, if_neg d1, if_pos d2]
  rw [if_neg (by rw [decide_eq_false d2]; exact Bool.false_ne_true)]
  refine wpAny_execs_cons (p_fix hroom F4 X T N4 m0 hx fun x' t h' tk m' hx' a b c d => wpAny_execs_nil (wpAny_execs_nil (wpAny_execs_nil (next x' t h' tk m' ?_ a b c d))))
  rw [hx', deedL, if_neg d0, if_neg d1, if_neg d2]
end
noncomputable abbrev Deeds (ns : List Int) : Prop := ∀ d ∈ ns, 0 ≤ d ∧ d < 4
theorem weight_small {d : Int} (h : 0 ≤ d ∧ d < 4) : PyData.weight (.int d) ≤ 2 := by
  have : d = 0 ∨ d = 1 ∨ d = 2 ∨ d = 3 := by omega
  rcases this with rfl | rfl | rfl | rfl <;> decide +kernel
theorem weight_ints : ∀ {ns : List Int}, Deeds ns → PyData.weightAll (ns.map .int) ≤ 3 * ns.length
  | [], _ => by simp [PyData.weightAll]
  | d :: r, h => by
    have h1 := weight_small (h d (.head _))
    have h2 := weight_ints (ns := r) fun e he => h e (.tail _ he)
    simp only [List.map_cons, PyData.weightAll, List.length_cons]
    omega
theorem lay_small {ns : List Int} (h : Deeds ns) (hl : ns.length ≤ 100) : PyData.layable0 (.list (ns.map .int)) = true := by
  have h1 := weight_ints h
  have h2 := ke_canLayAll0 ns
  have h3 := ke_depthAll ns
  simp only [PyData.layable0, PyData.canLay0, PyData.depth, PyData.weight, h2, h3, Bool.true_and, Bool.and_eq_true, decide_eq_true_eq]
  refine ⟨by decide, decide_eq_true ?_⟩
  show PyData.weightAll (ns.map .int) ≤ 1048576
  omega
/-- what the law leans on, in plain words -/
structure Plain : Prop where
  nil : ∀ cs, (∀ c ∈ cs, c ∈ kindsL) → told cs [] = cs
  step : ∀ cs ns d, (∀ c ∈ cs, c ∈ kindsL) → Deeds ns → 0 ≤ d ∧ d < 4 → told cs (ns ++ [d]) = deedL d (told cs ns)
  sig : ∀ cs ns, (∀ c ∈ cs, c ∈ kindsL) → ∀ c ∈ told cs ns, c ∈ sigma
  len : ∀ cs ns, cs.length ≤ 8 → ns.length ≤ 8 → (told cs ns).length ≤ 2000
theorem ok_kinds {cs : List Nat} (h : ∀ c ∈ cs, c ∈ kindsL) : Ok cs := fun c hc => by
  have e : (kindsL.all fun c => PyData.strOk (sg c)) = true := by decide +kernel
  exact List.all_eq_true.mp e c (h c hc)
section
variable {w : World} {A : Around} {E : Value → Shared → Prop} {s : Shared} {g : Heap} {L fa cd : Addr} {m : Str → Option Value} {news rest : List (Addr × Obj)} {mg mb : Str → Option Value} {mean : ExcName → Option Value} {Q : Flow → Shared → Prop}
theorem l_check (hh : A.handled = none) (hu : A.units + 90 < cLine) (hroom : A.depth < 890) (F : Fr g L s.heap m) (X : (KF w.params).In g) (T : Top vw (looseW vw lsn) mean mg mb g) (N : News g L s.heap news) {x : Str} {tx : Tok} (m0 : m (Str.ofString "text") = some (.str x tx))
    {aR aS : Addr} {vR vS : List Value} {nR k : Nat} {tk : Tok} {cs : List Nat} {ns : List Int} (hR : (aR, W.listOf vR.toArray nR) ∈ news) (iR : IntsAre vR ns) (hk : k < ns.length) (hn : ns.length ≤ 8) (hds : Deeds ns)
    (hS : (aS, LCg.lst vS) ∈ news) (iS : Signs vS cs) (hcs : cs.length ≤ 8) (okS : Ok cs)
    (m1 : m (Str.ofString "run") = some (.ref aR)) (m2 : m (Str.ofString "k") = some (.int (k : Int) tk)) (m3 : m (Str.ofString "signs") = some (.ref aS)) (hx : x.cps.toList = told cs (ns.take (k + 1)))
    (next : ∀ h' tk, Fr g L h' m → News g L h' news → Q .next { s with heap := h', toks := tk }) :
    wpAny (model pw w) A (exec (lawIf 1) (envL fa cd L)) Q (fun _ _ => False) s := by
  have hfrag : rw_re0099_01 = rw_re0099_01 ∧ KF = KF := by (k_fill; exact ⟨rfl, rfl⟩)
  clear hfrag
  conv in lawIf _ => whnf
  have hzR := iR.length
  have hhide := Hid'.mk hx
  clear hx
  k_steps
  rename IntsAre _ (List.take _ ns) => iT
  rename News _ _ _ (_ :: news) => N2
  rename Fr _ _ _ m => F2
  have e1 : ((k : Int) + 1).toNat = k + 1 := by omega
  rw [e1] at iT
  refine c_told (ns := ns.take (k + 1)) (Frag.In.keeps X F2.keep) (Top.keeps T F2.keep) hh (by omega) hroom (N2 _ (.tail _ hS)).1 iS hcs okS (N2 _ (.head _)).1 iT (by rw [List.length_take]; omega) (lay_small (fun d hd => hds d (List.mem_of_mem_take hd)) (by rw [List.length_take]; omega)) fun r t' h3 tk3 hk3 hr => ?_
  have F3 := Fr.keeps F2 hk3
  have N3 := News.grown N2 hk3
  have hxr : x = r := str_ext (hhide.e.trans hr.symm)
  clear hhide hr
  subst hxr
  k_steps
  · rename (x != x) = true => hb
    simp at hb
  · exact next _ _ F3 (fun p hp => N3 p (.tail _ hp))
theorem l_loop (P : Plain) (hh : A.handled = none) (hu : A.units + 90 < cLine) (hroom : A.depth < 890) (F : Fr g L s.heap m) (X : (KF w.params).In g) (T : Top vw (looseW vw lsn) mean mg mb g) (N : News g L s.heap news) {x : Str} {tx : Tok} (m0 : m (Str.ofString "text") = some (.str x tx))
    {aR aS : Addr} {vR vS : List Value} {nR : Nat} {cs : List Nat} {ns : List Int} (hR : (aR, W.listOf vR.toArray nR) ∈ news) (iR : IntsAre vR ns) (hn : ns.length ≤ 8) (hds : Deeds ns)
    (hS : (aS, LCg.lst vS) ∈ news) (iS : Signs vS cs) (hcs : cs.length ≤ 8) (hck : ∀ c ∈ cs, c ∈ kindsL)
    (m1 : m (Str.ofString "run") = some (.ref aR)) (m3 : m (Str.ofString "signs") = some (.ref aS)) (hx : x.cps.toList = cs)
    (next : ∀ h' tk m', Fr g L h' m' → News g L h' news → Q .next { s with heap := h', toks := tk }) :
    wpAny (model pw w) A (exec (stL 4) (envL fa cd L)) Q (fun _ _ => False) s := by
  rw [stL_eq]
  conv in stLx _ => whnf
  have hlen := iR.length
  have hb : ns.length ≤ 900 := Nat.le_trans hn (by decide)
  have hn' := Hid'.mk hn
  clear hn
  with_unfolding_all refine For_invVF F (by exact rfl) (by exact rfl) ?_
  k_steps
  rename IsRange _ _ _ _ _ _ _ _ => hr
  let J : Nat → (Str → Option Value) → List (Addr × Obj) → Prop := fun k m₁ news₁ => ∃ x' t', m₁ (Str.ofString "text") = some (.str x' t') ∧ x'.cps.toList = told cs (ns.take k) ∧ (∀ y, y ≠ Str.ofString "text" → y ≠ Str.ofString "k" → m₁ y = m y) ∧ ∀ q ∈ news, q ∈ news₁
  refine iter_range (n := ns.length) J hh hr (by exact small_one (by decide) (by decide) (by omega) (by omega)) (by rw [rangeSize_nat]; simp) (by assumption) (by assumption) ?_ ?_ ?_
  · exact ⟨x, tx, m0, by rw [List.take_zero, P.nil cs hck]; exact hx, fun _ _ _ => rfl, fun q hq => hq⟩
  · rintro k t m₁ news₁ h tk I oI hk ⟨x', t', h7, hxe, hm, hs⟩ hoff F₁ N₁
    have hn8 := hn'.e
    obtain ⟨d, td, hd, hv⟩ : ∃ d td, ns[k]? = some d ∧ vR[k]? = some (.int d td) := by
      have hk2 : k < vR.length := by rw [hlen]; exact hk
      obtain ⟨d, td, e1, e2⟩ := IntsAre.at iR k vR[k] (List.getElem?_eq_getElem hk2)
      exact ⟨d, td, e2, by rw [List.getElem?_eq_getElem hk2, e1]⟩
    have htake : ns.take (k + 1) = ns.take k ++ [d] := by rw [List.take_add_one, hd]; rfl
    have hdd : 0 ≤ d ∧ d < 4 := hds d (List.mem_of_getElem? hd)
    have hst := P.step cs (ns.take k) d hck (fun e he => hds e (List.mem_of_mem_take he)) hdd
    have hxl : x'.length ≤ 2000 := by
      rw [str_len, hxe]
      exact P.len cs _ hcs (by rw [List.length_take]; omega)
    have hxs : ∀ c ∈ x'.cps.toList, c ∈ sigma := fun c hc => P.sig cs _ hck c (by rw [← hxe]; exact hc)
    show wpAny _ _ (execs [lawIf 0, lawIf 1] _) _ _ _
    refine wpAny_execs_cons (l_deed (m := fun y => if y = Str.ofString "k" then some (.int (k : Int) t) else m₁ y) (d := d) (td := td) (tk := t) hh hroom F₁ X T N₁ ((if_neg (by decide)).trans h7) hxl hxs (.tail _ (hs _ hR)) (by omega) (by simpa using hv) ((if_neg (by decide)).trans ((hm _ (by decide) (by decide)).trans m1)) (if_pos rfl) fun x2 t2 h2 tk2 m2 hx2 h72 hm2 F2 N2 => ?_)
    dsimp only
    have hx2' : x2.cps.toList = told cs (ns.take (k + 1)) := by rw [hx2, hxe, htake, hst]
    refine wpAny_execs_cons (l_check (k := k) (tk := t) hh hu hroom F2 X T N2 h72 (.tail _ (hs _ hR)) iR hk hn8 hds (.tail _ (hs _ hS)) iS hcs (ok_kinds hck) ((hm2 _ (by decide)).trans ((if_neg (by decide)).trans ((hm _ (by decide) (by decide)).trans m1))) ((hm2 _ (by decide)).trans (if_pos rfl)) ((hm2 _ (by decide)).trans ((if_neg (by decide)).trans ((hm _ (by decide) (by decide)).trans m3))) hx2' fun h3 tk3 F3 N3 => ?_)
    exact wpAny_execs_nil ⟨h3, tk3, m2, news₁, rfl, F3, N3, hoff, x2, t2, h72, hx2', fun y h1 h2 => (hm2 y h1).trans ((if_neg h2).trans (hm y h1 h2)), hs⟩
  · rintro m₁ news₁ h tk ⟨x', t', h7, hxe, hm, hs⟩ F₁ N₁
    exact next h tk m₁ F₁ (fun q hq => N₁ q (hs q hq))
end
end Mine
end

section
set_option maxHeartbeats 2000000
open PySem PySem.W PySem.Calls PyProof.Rows PySem.Challenge PyProof.V PySem.Spec
set_option maxRecDepth 100000
namespace Mine
theorem kinds_mem (x : Int) : kindsL.getD (x.fmod 11).toNat 0 ∈ kindsL := by
  obtain ⟨h1, h2⟩ := fmod_in x 11 (by decide)
  have hlt : (x.fmod 11).toNat < kindsL.length := by
    show (x.fmod 11).toNat < 11
    omega
  rw [getD_at hlt]
  exact List.getElem_mem hlt
section
variable {w : World} {A : Around} {s : Shared} {g : Heap} {L fa cd : Addr} {m : Str → Option Value} {mg mb : Str → Option Value} {mean : ExcName → Option Value}
theorem l_true {Q : Flow → Shared → Prop} {news : List (Addr × Obj)} (F : Fr g L s.heap m) (X : (KF w.params).In g) (N : News g L s.heap news) (next : ∀ tk, Q (.ret (.bool true)) { s with toks := tk }) : wpAny (model pw w) A (exec (stL 5) (envL fa cd L)) Q (fun _ _ => False) s := by
  have hfrag : rw_re0099_01 = rw_re0099_01 ∧ KF = KF := by (k_fill; exact ⟨rfl, rfl⟩)
  clear hfrag
  rw [stL_eq]
  conv in stLx _ => whnf
  k_steps
  exact next _
theorem law_tail (P : Plain) (hh : A.handled = none) (hu : A.units + 90 < cLine) (hroom : A.depth < 890) (X : (KF w.params).In g) (T : Top vw (looseW vw lsn) mean mg mb g) (F : Fr g L s.heap m) {news : List (Addr × Obj)} (N : News g L s.heap news) {aS aR : Addr} {vS vR : List Value} {nR : Nat} {cs : List Nat} {ns : List Int}
    (hS : (aS, LCg.lst vS) ∈ news) (iS : Signs vS cs) (hcs : cs.length ≤ 8) (hck : ∀ c ∈ cs, c ∈ kindsL) (hR : (aR, W.listOf vR.toArray nR) ∈ news) (iR : IntsAre vR ns) (hn : ns.length ≤ 8) (hds : Deeds ns)
    (m1 : m (Str.ofString "run") = some (.ref aR)) (m3 : m (Str.ofString "signs") = some (.ref aS)) {Q : Flow → Shared → Prop}
    (next : ∀ h' tk m', Fr g L h' m' → Q (.ret (.bool true)) { s with heap := h', toks := tk }) :
    wpAny (model pw w) A (execs [stL 3, stL 4, stL 5] (envL fa cd L)) Q (fun _ _ => False) s := by
  refine wpAny_execs_cons (l_text F X T N hS iS hcs m3 fun y ty h4 tk4 hy F4 N4 => ?_)
  dsimp only
  refine wpAny_execs_cons (l_loop P hh hu hroom F4 X T N4 (if_pos rfl) hR iR hn hds hS iS hcs hck ((if_neg (by decide)).trans m1) ((if_neg (by decide)).trans m3) hy fun h5 tk5 m5 F5 N5 => ?_)
  dsimp only
  exact wpAny_execs_cons (l_true F5 X N5 fun tk => next h5 tk m5 F5)
end
end Mine
end

section
set_option maxHeartbeats 400000
open PySem PySem.W PySem.Calls PyProof.Rows PySem.Challenge PyProof.V PySem.Spec
set_option maxRecDepth 100000
namespace Mine
/-- the drawn signs and deeds -/
noncomputable def signsOf (xs : List Int) : List Nat := (xs.take 8).map fun x => kindsL.getD (x.fmod 11).toNat 0
noncomputable def runOf (xs : List Int) : List Int := ((xs.take 4).map fun x => (x.fdiv 11).fmod 4) ++ [1, 2, 0, 2]
theorem signsOf_len (xs : List Int) : (signsOf xs).length ≤ 8 := by unfold signsOf; rw [List.length_map, List.length_take]; omega
theorem signsOf_mem (xs : List Int) : ∀ c ∈ signsOf xs, c ∈ kindsL := fun c hc => by
  obtain ⟨y, _, rfl⟩ := List.mem_map.mp hc
  exact kinds_mem y
theorem runOf_len (xs : List Int) : (runOf xs).length ≤ 8 := by
  unfold runOf
  rw [List.length_append, List.length_map, List.length_take]
  show min 4 xs.length + 4 ≤ 8
  omega
theorem runOf_deeds (xs : List Int) : Deeds (runOf xs) := fun d hd => by
  rcases List.mem_append.mp hd with hd | hd
  · obtain ⟨y, _, rfl⟩ := List.mem_map.mp hd
    exact fmod_in _ 4 (by decide)
  · simp only [List.mem_cons, List.not_mem_nil, or_false] at hd
    omega
section
variable {w : World} {A : Around} {s : Shared} {g : Heap} {L fa cd : Addr} {m : Str → Option Value} {mg mb : Str → Option Value} {mean : ExcName → Option Value}
theorem law_body (P : Plain) (hh : A.handled = none) (hu : A.units + 90 < cLine) (hroom : A.depth < 890) (X : (KF w.params).In g) (T : Top vw (looseW vw lsn) mean mg mb g) (F : Fr g L s.heap m) {l : Addr} {vs : List Value} {xs : List Int} {o1 : Obj} {x : Option Value} (N : News g L s.heap [(L + 1, o1)]) (d1 : o1.data = .cell x)
    (hl : g.IsList l vs.toArray) (iv : IntsAre vs xs) (hz : xs.length ≤ 63) (m0 : m (Str.ofString "script") = some (.ref l)) {Q : Flow → Shared → Prop}
    (next : ∀ h' tk m', Fr g L h' m' → Q (.ret (.bool true)) { s with heap := h', toks := tk }) :
    wpAny (model pw w) A (execs [stL 0, stL 1, stL 2, stL 3, stL 4, stL 5] (envL fa cd L)) Q (fun _ _ => False) s := by
  refine wpAny_execs_cons (l_kinds F X N d1 fun aK oK vK h1 tk1 dK iK F1 N1 => ?_)
  dsimp only
  refine wpAny_execs_cons (l_signs hh F1 X T N1 (.head _) iK (.tail _ (.head _)) dK hl iv (Nat.le_trans hz (by decide)) m0 fun aS vS h2 tk2 iS F2 N2 => ?_)
  dsimp only
  refine wpAny_execs_cons (l_run hh F2 X T N2 hl iv (Nat.le_trans hz (by decide)) ((if_neg (by decide)).trans m0) fun aR vR h3 tk3 iR F3 N3 => ?_)
  dsimp only
  have iS' : Signs vS (signsOf xs) := iS
  have iR' : IntsAre vR (runOf xs) := iR
  exact law_tail P hh hu hroom X T F3 N3 (.tail _ (.head _)) iS' (signsOf_len xs) (signsOf_mem xs) (.head _) iR' (runOf_len xs) (runOf_deeds xs) (if_pos rfl) ((if_neg (by decide)).trans (if_pos rfl)) next
end
end Mine
end

section
namespace Mine
/-- what one sign gives: M: ends were mended; P: prepared; x: dots that wait; cr: a return came right before -/
noncomputable def outT (M P : Bool) (x : Nat) (cr : Bool) (c : Nat) : List Nat :=
  if c = 10 then (if cr = true then (if M = true then [] else [10]) else (if M = true then [13, 10] else [10]))
  else if c = 13 then (if M = true then [13, 10] else [13])
  else if c = 46 then List.replicate x 46 ++ [46]
  else if c = 8203 ∨ c = 173 then (if P = true then [] else [c])
  else if P = true then lfold c else [c]
noncomputable def nx (a y c : Nat) : Nat := if c = 10 ∨ c = 13 then a else if c = 8203 ∨ c = 173 then y else 0
noncomputable def trT (M P : Bool) (a b : Nat) : Nat → Nat → Bool → List Nat → List Nat
  | _, _, _, [] => []
  | x, y, cr, c :: l => outT M P x cr c ++ trT M P a b (nx a y c) (nx b y c) (c == 13) l
theorem lfold_U {c : Nat} (h : c = 8203 ∨ c = 173) : lfold c = [] := by rcases h with rfl | rfl <;> rfl
theorem lfold_ne {c : Nat} (h : ¬ (c = 8203 ∨ c = 173)) : lfold c ≠ [] := by
  unfold lfold
  have h1 : c ≠ 8203 := fun e => h (.inl e)
  have h2 : c ≠ 173 := fun e => h (.inr e)
  rw [if_neg h1, if_neg h2]
  repeat' split
  all_goals simp
theorem lfold_mem {c d : Nat} (h : d ∈ lfold c) : d = c ∨ d ∈ [99, 111, 46, 115, 32, 953, 107] := by
  unfold lfold at h
  repeat' split at h
  · exact nomatch h
  · exact nomatch h
  · exact .inr (by simp at h ⊢; rcases h with h | h | h <;> simp [h])
  · exact .inr (by simp at h; simp [h])
  · exact .inr (by simp at h ⊢; rcases h with h | h <;> simp [h])
  · exact .inr (by simp at h; simp [h])
  · exact .inl (by simpa using h)
/-- signs that are no ends -/
noncomputable def Flat (u : List Nat) : Prop := ∀ c ∈ u, c ≠ 10 ∧ c ≠ 13
theorem fixS_flat : ∀ {u v : List Nat}, Flat u → fixS false (u ++ v) = u ++ fixS false v
  | [], _, _ => rfl
  | c :: u, v, h => by
    have hc := h c (.head _)
    rw [List.cons_append, fixS, if_neg hc.1, if_neg hc.2, fixS_flat fun d hd => h d (.tail _ hd), List.cons_append]
theorem fixS_flat1 {b : Bool} : ∀ {u v : List Nat}, Flat u → u ≠ [] → fixS b (u ++ v) = u ++ fixS false v
  | [], _, _, h => absurd rfl h
  | c :: u, v, h, _ => by
    have hc := h c (.head _)
    rw [List.cons_append, fixS, if_neg hc.1, if_neg hc.2, fixS_flat fun d hd => h d (.tail _ hd), List.cons_append]
theorem flat_dots (x : Nat) : Flat (List.replicate x 46 ++ [46]) := fun c hc => by
  simp at hc
  have : c = 46 := by omega
  subst this; decide
theorem flat_lfold {c : Nat} (h1 : c ≠ 10) (h2 : c ≠ 13) : Flat (lfold c) := fun d hd => by
  have := lfold_mem hd
  simp at this
  omega
theorem flat_out {M P : Bool} {x : Nat} {cr : Bool} {c : Nat} (h1 : c ≠ 10) (h2 : c ≠ 13) : Flat (outT M P x cr c) := by
  unfold outT
  rw [if_neg h1, if_neg h2]
  split
  · exact flat_dots x
  · have hs : Flat [c] := fun d hd => by
      have : d = c := by simpa using hd
      subst this; exact ⟨h1, h2⟩
    split
    · split
      · exact fun _ h => nomatch h
      · exact hs
    · split
      · exact flat_lfold h1 h2
      · exact hs
theorem out_ne {M P : Bool} {x : Nat} {cr : Bool} {c : Nat} (h1 : c ≠ 10) (h2 : c ≠ 13) (hU : P = true → ¬ (c = 8203 ∨ c = 173)) : outT M P x cr c ≠ [] := by
  unfold outT
  rw [if_neg h1, if_neg h2]
  split
  · simp
  · split
    · split
      · rename_i _ h3 h4; exact absurd h3 (hU h4)
      · simp
    · split
      · rename_i _ h3 _; exact lfold_ne h3
      · simp
theorem out_M {M P : Bool} {x : Nat} {cr cr' : Bool} {c : Nat} (h1 : c ≠ 10) (h2 : c ≠ 13) : outT M P x cr c = outT true P x cr' c := by
  unfold outT
  rw [if_neg h1, if_neg h2, if_neg h1, if_neg h2]
theorem fix_true (P : Bool) (a b : Nat) : ∀ (l : List Nat) (x y : Nat) (cr : Bool), fixS false (trT true P a b x y cr l) = trT true P a b x y cr l
  | [], _, _, _ => rfl
  | c :: l, x, y, cr => by
    rw [trT]
    by_cases h1 : c = 10
    · subst h1
      have ih := fix_true P a b l (nx a y 10) (nx b y 10) (10 == 13)
      cases cr with
      | true => exact ih
      | false => show fixS false (13 :: 10 :: _) = 13 :: 10 :: _; rw [fixS, if_neg (by decide), if_pos rfl, fixS, if_pos rfl, if_pos rfl]; exact congrArg (fun z => 13 :: 10 :: z) ih
    · by_cases h2 : c = 13
      · subst h2
        have ih := fix_true P a b l (nx a y 13) (nx b y 13) (13 == 13)
        show fixS false (13 :: 10 :: _) = 13 :: 10 :: _; rw [fixS, if_neg (by decide), if_pos rfl, fixS, if_pos rfl, if_pos rfl]; exact congrArg (fun z => 13 :: 10 :: z) ih
      · rw [fixS_flat (flat_out h1 h2), fix_true P a b l]
theorem fix_false (P : Bool) : ∀ (l : List Nat) (cr : Bool), (P = true → ∀ c ∈ l, ¬ (c = 8203 ∨ c = 173)) → fixS cr (trT false P 0 0 0 0 cr l) = trT true P 0 0 0 0 cr l
  | [], _, _ => rfl
  | c :: l, cr, h => by
    have ih := fun b => fix_false P l b fun e d hd => h e d (.tail _ hd)
    have hn : nx 0 0 c = 0 := by unfold nx; simp
    rw [trT, trT, hn]
    by_cases h1 : c = 10
    · subst h1
      cases cr with
      | true => show fixS true (10 :: _) = _; rw [fixS, if_pos rfl, if_pos rfl]; exact ih false
      | false => show fixS false (10 :: _) = 13 :: 10 :: _; rw [fixS, if_pos rfl, if_neg (by decide)]; exact congrArg (fun z => 13 :: 10 :: z) (ih false)
    · by_cases h2 : c = 13
      · subst h2
        show fixS cr (13 :: _) = 13 :: 10 :: _; rw [fixS, if_neg (by decide), if_pos rfl]; exact congrArg (fun z => 13 :: 10 :: z) (ih true)
      · rw [fixS_flat1 (flat_out h1 h2) (out_ne h1 h2 fun e => h e c (.head _)), out_M h1 h2]
        have hb : (c == 13) = false := by simpa using h2
        rw [hb]
        exact congrArg _ (ih false)
/-! preparing -/
theorem prepL_app (u v : List Nat) : prepL (u ++ v) = prepL u ++ prepL v := by simp [prepL]
theorem prepL_cons (c : Nat) (v : List Nat) : prepL (c :: v) = lfold c ++ prepL v := by
  unfold prepL lfold
  by_cases h1 : c = 173
  · subst h1; simp
  · by_cases h2 : c = 8203
    · subst h2; simp
    · simp [h1, h2, foldC]
theorem prepL_fix : ∀ {u : List Nat}, (∀ c ∈ u, lfold c = [c]) → prepL u = u
  | [], _ => rfl
  | c :: u, h => by rw [prepL_cons, h c (.head _), prepL_fix fun d hd => h d (.tail _ hd)]; rfl
theorem prepL_one (c : Nat) : prepL [c] = lfold c := by rw [prepL_cons]; exact List.append_nil _
theorem lfold_idem (c : Nat) : ∀ d ∈ lfold c, lfold d = [d] := by
  intro d hd
  unfold lfold at hd
  repeat' split at hd
  all_goals simp at hd
  · rcases hd with rfl | rfl | rfl <;> rfl
  · subst hd; rfl
  · rcases hd with rfl | rfl <;> rfl
  · subst hd; rfl
  · subst hd; unfold lfold; simp_all
theorem prep_dots (x : Nat) : prepL (List.replicate x 46 ++ [46]) = List.replicate x 46 ++ [46] := prepL_fix fun c hc => by
  simp at hc
  have : c = 46 := by omega
  subst this; rfl
theorem prep_out_true (M : Bool) (x : Nat) (cr : Bool) (c : Nat) : prepL (outT M true x cr c) = outT M true x cr c := by
  unfold outT
  split
  · cases cr <;> cases M <;> rfl
  · split
    · cases M <;> rfl
    · split
      · exact prep_dots x
      · split
        · rfl
        · exact prepL_fix (lfold_idem c)
theorem prep_true (M : Bool) (a b : Nat) : ∀ (l : List Nat) (x y : Nat) (cr : Bool), prepL (trT M true a b x y cr l) = trT M true a b x y cr l
  | [], _, _, _ => rfl
  | c :: l, x, y, cr => by rw [trT, prepL_app, prep_out_true, prep_true M a b l]
theorem prep_out_false (M : Bool) (x : Nat) (cr : Bool) (c : Nat) : prepL (outT M false x cr c) = outT M true x cr c := by
  unfold outT
  split
  · cases cr <;> cases M <;> rfl
  · split
    · cases M <;> rfl
    · split
      · exact prep_dots x
      · split
        · rename_i h; exact (prepL_one c).trans (lfold_U h)
        · exact prepL_one c
theorem prep_false (M : Bool) (a b : Nat) : ∀ (l : List Nat) (x y : Nat) (cr : Bool), prepL (trT M false a b x y cr l) = trT M true a b x y cr l
  | [], _, _, _ => rfl
  | c :: l, x, y, cr => by rw [trT, trT, prepL_app, prep_out_false, prep_false M a b l]
noncomputable def seen (c : Nat) : Bool := !decide (c ∈ [8203, 173])
theorem seen_U {c : Nat} (h : c = 8203 ∨ c = 173) : seen c = false := by rcases h with rfl | rfl <;> rfl
theorem seen_not {c : Nat} (h : ¬ (c = 8203 ∨ c = 173)) : seen c = true := by
  have : c ∉ [8203, 173] := by simpa using h
  unfold seen; rw [decide_eq_false this]; rfl
theorem tr_plain : ∀ (l : List Nat) (cr : Bool), trT false false 0 0 0 0 cr l = l
  | [], _ => rfl
  | c :: l, cr => by
    have hn : nx 0 0 c = 0 := by unfold nx; simp
    rw [trT, hn, tr_plain l]
    unfold outT
    repeat' split
    all_goals simp_all
/-- preparing ahead of all mending -/
theorem prep_first : ∀ (l : List Nat) (cr : Bool), prepL l = trT false true 0 0 0 0 cr (l.filter seen)
  | [], _ => rfl
  | c :: l, cr => by
    rw [prepL_cons]
    by_cases h : c = 8203 ∨ c = 173
    · rw [lfold_U h, List.filter_cons_of_neg (by rw [seen_U h]; decide)]; exact prep_first l cr
    · have hn : nx 0 0 c = 0 := by unfold nx; simp
      rw [List.filter_cons_of_pos (seen_not h), trT, hn, ← prep_first l]
      congr 1
      unfold outT lfold
      repeat' split
      all_goals simp_all
end Mine
end

section
namespace Mine
/-! quoting -/
theorem dotL_flat : ∀ {u v : List Nat}, (∀ c ∈ u, c ≠ 10) → dotL false (u ++ v) = u ++ dotL false v
  | [], _, _ => rfl
  | c :: u, v, h => by
    have hc : (c == 10) = false := by simpa using h c (.head _)
    rw [List.cons_append, dotL, hc, dotL_flat fun d hd => h d (.tail _ hd), if_neg (by simp)]
    rfl
theorem dotL_flat1 {s : Bool} : ∀ {u v : List Nat}, (∀ c ∈ u, c ≠ 10) → u ≠ [] → u.head? ≠ some 46 → dotL s (u ++ v) = u ++ dotL false v
  | [], _, _, h, _ => absurd rfl h
  | c :: u, v, h, _, h4 => by
    have hc : (c == 10) = false := by simpa using h c (.head _)
    have h46 : c ≠ 46 := fun e => h4 (by rw [e]; rfl)
    rw [List.cons_append, dotL, hc, dotL_flat fun d hd => h d (.tail _ hd), if_neg (fun e => h46 e.2)]
    rfl
theorem dotL_dots (s : Bool) (x : Nat) (r : List Nat) : dotL s ((List.replicate x 46 ++ [46]) ++ r) = (List.replicate (if s = true then x + 1 else x) 46 ++ [46]) ++ dotL false r := by
  cases s with
  | false => exact dotL_flat fun c hc => ((flat_dots x) c hc).1
  | true =>
    have e : List.replicate x 46 ++ [46] = 46 :: List.replicate x 46 := by rw [← List.replicate_succ', List.replicate_succ]
    rw [e, List.cons_append, dotL, if_pos ⟨rfl, rfl⟩]
    show [46, 46] ++ dotL false _ = _
    rw [dotL_flat fun c hc => by
      have := (List.mem_replicate.mp hc).2
      subst this; decide]
    simp only [if_true]
    rw [List.replicate_succ', List.append_assoc, List.append_assoc]
    show 46 :: 46 :: (List.replicate x 46 ++ dotL false r) = List.replicate x 46 ++ ([46] ++ ([46] ++ dotL false r))
    have e2 : ∀ (z : List Nat), List.replicate x 46 ++ 46 :: z = 46 :: (List.replicate x 46 ++ z) := fun z => by
      rw [show (46 : Nat) :: z = [46] ++ z from rfl, ← List.append_assoc, e]; rfl
    show _ = List.replicate x 46 ++ 46 :: 46 :: dotL false r
    rw [e2, e2]
theorem lfold_head {c : Nat} (h : c ≠ 46) : (lfold c).head? ≠ some 46 := by
  unfold lfold
  repeat' split
  all_goals simp
  exact h
theorem dot_tr (P : Bool) (a b : Nat) : ∀ (l : List Nat) (x y : Nat) (cr s : Bool), (cr = true → s = true) →
    dotL s (trT true P a b x y cr l) = trT true P (a + 1) (if P = true then b + 1 else b) (if s = true then x + 1 else x) (if s = true ∧ P = true then y + 1 else y) cr l
  | [], _, _, _, _, _ => rfl
  | c :: l, x, y, cr, s, hs => by
    rw [trT, trT]
    by_cases h1 : c = 10
    · subst h1
      have ih := dot_tr P a b l a b false true (fun _ => rfl)
      simp only [true_and, if_true] at ih
      cases cr with
      | true => cases hs rfl; exact ih
      | false =>
        show dotL s (13 :: 10 :: _) = 13 :: 10 :: _
        rw [dotL, dotL, if_neg (fun e => absurd e.2 (by decide)), if_neg (by decide)]
        exact congrArg (fun z => 13 :: 10 :: z) ih
    · by_cases h2 : c = 13
      · subst h2
        have ih := dot_tr P a b l a b true true (fun _ => rfl)
        simp only [true_and, if_true] at ih
        show dotL s (13 :: 10 :: _) = 13 :: 10 :: _
        rw [dotL, dotL, if_neg (fun e => absurd e.2 (by decide)), if_neg (by decide)]
        exact congrArg (fun z => 13 :: 10 :: z) ih
      · have hb : (c == 13) = false := by simpa using h2
        have h12 : ¬ (c = 10 ∨ c = 13) := fun e => e.elim h1 h2
        have hf : ∀ cc xx, ∀ d ∈ outT true P xx cc c, d ≠ 10 := fun cc xx d hd => (flat_out h1 h2 d hd).1
        rw [hb]
        by_cases hU : c = 8203 ∨ c = 173
        · have h46 : c ≠ 46 := by omega
          have hn : ∀ z w, nx z w c = w := fun z w => by unfold nx; rw [if_neg h12, if_pos hU]
          rw [hn, hn, hn, hn]
          have ho : ∀ xx, outT true P xx cr c = if P = true then [] else [c] := fun xx => by
            unfold outT; rw [if_neg h1, if_neg h2, if_neg h46, if_pos hU]
          rw [ho, ho]
          cases P with
          | true =>
            have ih := dot_tr true a b l y y false s (fun e => nomatch e)
            simp only [and_true, if_true] at ih ⊢
            exact ih
          | false =>
            have ih := dot_tr false a b l y y false false (fun e => nomatch e)
            simp at ih ⊢
            rw [dotL, if_neg (fun e => h46 e.2)]
            have hc : (c == 10) = false := by simpa using h1
            rw [hc, ih]; rfl
        · have hn : ∀ z w, nx z w c = 0 := fun z w => by unfold nx; rw [if_neg h12, if_neg hU]
          rw [hn, hn, hn, hn]
          have ih := dot_tr P a b l 0 0 false false (fun e => nomatch e)
          simp only [Bool.false_eq_true, false_and, if_false] at ih
          by_cases h46 : c = 46
          · have ho : ∀ xx, outT true P xx cr c = List.replicate xx 46 ++ [46] := fun xx => by
              unfold outT; rw [if_neg h1, if_neg h2, if_pos h46]
            rw [ho, ho, dotL_dots, ih]
          · have ho : ∀ xx, outT true P xx cr c = if P = true then lfold c else [c] := fun xx => by
              unfold outT; rw [if_neg h1, if_neg h2, if_neg h46, if_neg hU]
            rw [dotL_flat1 (hf _ _) (out_ne h1 h2 fun _ => hU) (by
              rw [ho]; split
              · exact lfold_head h46
              · simpa using h46), ih, ho, ho]
/-! the ends that are dropped -/
theorem dropEnd_all {os : List Nat} : ∀ {t : List Nat} (u : List Nat), (∀ c ∈ t, c ∈ os) → dropEnd os (u ++ t) = dropEnd os u
  | [], u, _ => by rw [List.append_nil]
  | c :: t, u, h => by
    have := dropEnd_all (t := t) (u ++ [c]) fun d hd => h d (.tail _ hd)
    rw [List.append_assoc] at this
    rw [show c :: t = [c] ++ t from rfl, this, dropEnd_in (h c (.head _))]
theorem dropEnd_split (os cs : List Nat) : ∃ t, cs = dropEnd os cs ++ t ∧ (∀ c ∈ t, c ∈ os) ∧ (dropEnd os cs = [] ∨ ∃ u e, dropEnd os cs = u ++ [e] ∧ e ∉ os) := by
  have key : ∀ r : List Nat, ∃ t, r.reverse = dropEnd os r.reverse ++ t ∧ (∀ c ∈ t, c ∈ os) ∧ (dropEnd os r.reverse = [] ∨ ∃ u e, dropEnd os r.reverse = u ++ [e] ∧ e ∉ os) := by
    intro r
    induction r with
    | nil => exact ⟨[], rfl, (fun _ h => nomatch h), .inl rfl⟩
    | cons c r ih =>
      rw [List.reverse_cons]
      by_cases hc : c ∈ os
      · rw [dropEnd_in hc]
        obtain ⟨t, h1, h2, h3⟩ := ih
        refine ⟨t ++ [c], by rw [← List.append_assoc, ← h1], fun d hd => ?_, h3⟩
        rcases List.mem_append.mp hd with hd | hd
        · exact h2 d hd
        · have : d = c := by simpa using hd
          exact this ▸ hc
      · rw [dropEnd_out hc]
        exact ⟨[], (List.append_nil _).symm, (fun _ h => nomatch h), .inr ⟨_, _, rfl, hc⟩⟩
  have := key cs.reverse
  rwa [List.reverse_reverse] at this
theorem dropEnd_twice {os os' : List Nat} (h : ∀ c ∈ os, c ∈ os') (cs : List Nat) : dropEnd os' (dropEnd os cs) = dropEnd os' cs := by
  obtain ⟨t, h1, h2, _⟩ := dropEnd_split os cs
  conv => rhs; rw [h1]
  exact (dropEnd_all _ fun c hc => h c (h2 c hc)).symm
noncomputable def looseB (b : Bool) : List Nat := if b = true then [32, 13, 10, 8203, 173] else [32, 13, 10]
theorem loose_le (b : Bool) : ∀ c ∈ looseB false, c ∈ looseB b := fun c hc => by
  cases b
  · exact hc
  · simp [looseB] at hc ⊢; omega
theorem tr_app (M P : Bool) (a b : Nat) (t : List Nat) : ∀ (l : List Nat) (x y : Nat) (cr : Bool), ∃ x' y' cr', trT M P a b x y cr (l ++ t) = trT M P a b x y cr l ++ trT M P a b x' y' cr' t
  | [], x, y, cr => ⟨x, y, cr, rfl⟩
  | c :: l, x, y, cr => by
    obtain ⟨x', y', cr', h⟩ := tr_app M P a b t l (nx a y c) (nx b y c) (c == 13)
    exact ⟨x', y', cr', by rw [List.cons_append, trT, trT, h, List.append_assoc]⟩
theorem out_white {M P : Bool} {x : Nat} {cr : Bool} {c : Nat} (h : c ∈ looseB P) : ∀ d ∈ outT M P x cr c, d ∈ looseB false := by
  cases P
  · simp [looseB] at h
    rcases h with rfl | rfl | rfl <;> cases M <;> cases cr <;> simp [outT, looseB]
  · simp [looseB] at h
    rcases h with rfl | rfl | rfl | rfl | rfl <;> cases M <;> cases cr <;> simp [outT, looseB, lfold]
theorem tr_white (M P : Bool) (a b : Nat) : ∀ (t : List Nat) (x y : Nat) (cr : Bool), (∀ c ∈ t, c ∈ looseB P) → ∀ d ∈ trT M P a b x y cr t, d ∈ looseB false
  | [], _, _, _, _, _, h => nomatch h
  | c :: t, x, y, cr, h, d, hd => by
    rw [trT] at hd
    rcases List.mem_append.mp hd with hd | hd
    · exact out_white (h c (.head _)) d hd
    · exact tr_white M P a b t _ _ _ (fun e he => h e (.tail _ he)) d hd
theorem out_end {M P : Bool} {x : Nat} {cr : Bool} {c : Nat} (h : c ∉ looseB P) : ∃ u e, outT M P x cr c = u ++ [e] ∧ e ∉ looseB false := by
  have h0 : c ∉ looseB false := fun e => h (loose_le P c e)
  simp [looseB] at h0
  unfold outT
  rw [if_neg h0.2.2, if_neg h0.2.1]
  split
  · exact ⟨_, 46, rfl, by decide⟩
  · split
    · rename_i hU
      cases P
      · exact ⟨[], c, rfl, by simp [looseB]; omega⟩
      · simp [looseB] at h; omega
    · split
      · unfold lfold
        repeat' split
        · rename_i h3 _ h4; exact absurd (.inl h4) h3
        · rename_i h3 _ _ h4; exact absurd (.inr h4) h3
        · exact ⟨[99, 111], 46, rfl, by decide⟩
        · exact ⟨[115], 115, rfl, by decide⟩
        · exact ⟨[32], 953, rfl, by decide⟩
        · exact ⟨[], 107, rfl, by decide⟩
        · exact ⟨[], c, rfl, by simp [looseB]; omega⟩
      · exact ⟨[], c, rfl, by simp [looseB]; omega⟩
theorem strip_tr (M P : Bool) (a b : Nat) (cs : List Nat) (x y : Nat) (cr : Bool) :
    dropEnd (looseB false) (trT M P a b x y cr cs) = trT M P a b x y cr (dropEnd (looseB P) cs) ∧ (trT M P a b x y cr (dropEnd (looseB P) cs) = [] → dropEnd (looseB P) cs = []) := by
  obtain ⟨t, h1, h2, h3⟩ := dropEnd_split (looseB P) cs
  generalize dropEnd (looseB P) cs = u at h1 h3 ⊢
  subst h1
  obtain ⟨x', y', cr', e⟩ := tr_app M P a b t u x y cr
  rw [e, dropEnd_all _ (tr_white M P a b t x' y' cr' h2)]
  rcases h3 with rfl | ⟨v, c, rfl, hc⟩
  · exact ⟨rfl, fun _ => rfl⟩
  · obtain ⟨x2, y2, cr2, e2⟩ := tr_app M P a b [c] v x y cr
    obtain ⟨v', e', h4, h5⟩ := out_end (M := M) (x := x2) (cr := cr2) hc
    have e3 : trT M P a b x y cr (v ++ [c]) = (trT M P a b x y cr v ++ v') ++ [e'] := by
      rw [e2, trT, trT, h4]; simp
    rw [e3, dropEnd_out h5]
    exact ⟨rfl, fun h => by simp at h⟩
theorem drop_filter (cs : List Nat) : dropEnd (looseB true) (cs.filter seen) = (dropEnd (looseB true) cs).filter seen ∧ (dropEnd (looseB true) (cs.filter seen) = [] → dropEnd (looseB true) cs = []) := by
  obtain ⟨t, h1, h2, h3⟩ := dropEnd_split (looseB true) cs
  generalize dropEnd (looseB true) cs = u at h1 h3 ⊢
  subst h1
  rw [List.filter_append, dropEnd_all _ fun c hc => h2 c (List.mem_filter.mp hc).1]
  rcases h3 with rfl | ⟨v, c, rfl, hc⟩
  · exact ⟨rfl, fun _ => rfl⟩
  · have hs : seen c = true := seen_not fun h => hc (by simp [looseB]; omega)
    rw [List.filter_append, List.filter_cons_of_pos hs, List.filter_nil, dropEnd_out hc]
    exact ⟨rfl, fun h => by simp at h⟩
end Mine
end

section
namespace Mine
/-- what a run amounts to -/
structure Sums where
  K : Nat
  P : Bool
  LB : Bool
  UB : Bool
  M : Bool
  a1 : Nat
  a2 : Nat
  b1 : Nat
  b2 : Nat
noncomputable def mk (n : Nat) : List Nat := (List.replicate n [35, 32]).flatten
noncomputable def rend (cs : List Nat) (v : Sums) : List Nat :=
  let c1 := if v.K = 0 then cs else dropEnd (looseB v.LB) cs
  if v.K ≠ 0 ∧ c1 = [] then mk (v.K - 1) ++ [35]
  else mk v.K ++ trT v.M v.P (v.a1 + v.a2) v.a2 (v.b1 + v.b2) v.b2 false (if v.UB = true then c1.filter seen else c1)
noncomputable def stepV (d : Int) (v : Sums) : Sums :=
  if d = 0 then { v with P := true, UB := if v.P = true then v.UB else !v.M }
  else if d = 1 then { v with M := true, a1 := if v.P = true then v.a1 else v.a1 + 1, a2 := if v.P = true then v.a2 + 1 else v.a2, b1 := if v.K = 0 ∧ v.P = false then v.b1 + 1 else v.b1, b2 := if v.K = 0 ∧ v.P = true then v.b2 + 1 else v.b2 }
  else if d = 2 then { v with K := v.K + 1, LB := v.P }
  else { v with M := true }
structure InvV (v : Sums) : Prop where
  p : v.P = false → v.LB = false ∧ v.UB = false ∧ v.a2 = 0 ∧ v.b2 = 0
  m : v.M = false → v.a1 = 0 ∧ v.a2 = 0 ∧ v.b1 = 0 ∧ v.b2 = 0 ∧ v.UB = v.P
theorem mk_succ (n : Nat) : mk (n + 1) = 35 :: 32 :: mk n := by unfold mk; rw [List.replicate_succ]; rfl
theorem mk_succ' (n : Nat) : mk (n + 1) = mk n ++ [35, 32] := by unfold mk; rw [List.replicate_succ', List.flatten_append]; rfl
theorem mk_mem : ∀ {n c : Nat}, c ∈ mk n → c = 35 ∨ c = 32
  | 0, _, h => nomatch h
  | n + 1, c, h => by
    rw [mk_succ] at h
    rcases List.mem_cons.mp h with h | h
    · exact .inl h
    · rcases List.mem_cons.mp h with h | h
      · exact .inr h
      · exact mk_mem h
theorem mk_len (n : Nat) : (mk n).length = 2 * n := by
  induction n with
  | zero => rfl
  | succ n ih => rw [mk_succ]; simp only [List.length_cons, ih]; omega
theorem mk_flat (n : Nat) : Flat (mk n) := fun c h => by
  rcases mk_mem h with rfl | rfl <;> decide
theorem mk_prep (n : Nat) (t : List Nat) : prepL (mk n ++ t) = mk n ++ prepL t := by
  rw [prepL_app, prepL_fix fun c h => by rcases mk_mem h with rfl | rfl <;> rfl]
theorem mk_fix (n : Nat) (t : List Nat) : fixL (mk n ++ t) = mk n ++ fixL t := fixS_flat (mk_flat n)
theorem mk_dot (n : Nat) (t : List Nat) : dotL true (mk n ++ t) = mk n ++ dotL (decide (n = 0)) t := by
  cases n with
  | zero => rfl
  | succ n =>
    rw [dotL_flat1 (fun c h => (mk_flat _ c h).1) (by rw [mk_succ]; simp) (by rw [mk_succ]; simp)]
    rfl
theorem drop_app (os u t : List Nat) : dropEnd os (u ++ t) = if dropEnd os t = [] then dropEnd os u else u ++ dropEnd os t := by
  obtain ⟨r, h1, h2, h3⟩ := dropEnd_split os t
  generalize dropEnd os t = z at h1 h3 ⊢
  subst h1
  rw [← List.append_assoc, dropEnd_all _ h2]
  rcases h3 with rfl | ⟨v, e, rfl, he⟩
  · rw [if_pos rfl, List.append_nil]
  · rw [if_neg (by simp), ← List.append_assoc, dropEnd_out he]
theorem mk_drop (n : Nat) : dropEnd [32, 13, 10] (mk (n + 1)) = mk n ++ [35] := by
  rw [mk_succ', show mk n ++ [35, 32] = (mk n ++ [35]) ++ [32] by simp, dropEnd_in (by decide), dropEnd_out (by decide)]
theorem com_mk (n : Nat) (t : List Nat) : comL (mk n ++ t) = if dropEnd [32, 13, 10] t = [] then mk n ++ [35] else mk (n + 1) ++ dropEnd [32, 13, 10] t := by
  unfold comL
  rw [drop_app]
  by_cases h : dropEnd [32, 13, 10] t = []
  · rw [if_pos h, if_pos h]
    cases n with
    | zero => rfl
    | succ n => rw [mk_drop, if_neg (by simp), mk_succ]; rfl
  · rw [if_neg h, if_neg h, if_neg (by simp [h]), mk_succ]; rfl
theorem com_bare (n : Nat) : comL (mk n ++ [35]) = mk (n + 1) ++ [35] := by
  rw [com_mk, if_neg (by decide)]; rfl
theorem flat35 : Flat [35] := fun c h => by
  have : c = 35 := by simpa using h
  subst this; decide
theorem fix35 : fixL [35] = [35] := rfl
theorem step_fix {v : Sums} (i : InvV v) (cs : List Nat) : rend cs { v with M := true } = fixL (rend cs v) := by
  unfold rend
  dsimp only
  generalize (if v.K = 0 then cs else dropEnd (looseB v.LB) cs) = c1
  split
  · rw [mk_fix, fix35]
  · rw [mk_fix]
    congr 1
    cases hM : v.M with
    | true => exact (fix_true _ _ _ _ _ _ _).symm
    | false =>
      obtain ⟨h1, h2, h3, h4, h5⟩ := i.m hM
      rw [h1, h2, h3, h4]
      refine (fix_false v.P _ false fun e c hc => ?_).symm
      rw [h5, e, if_pos rfl] at hc
      intro hU
      have := (List.mem_filter.mp hc).2
      rw [seen_U hU] at this
      exact nomatch this
theorem step_ok {v : Sums} (i : InvV v) (cs : List Nat) {d : Int} (hd : 0 ≤ d ∧ d < 4) : rend cs (stepV d v) = deedL d (rend cs v) := by
  have : d = 0 ∨ d = 1 ∨ d = 2 ∨ d = 3 := by omega
  rcases this with rfl | rfl | rfl | rfl
  · show rend cs { v with P := true, UB := if v.P = true then v.UB else !v.M } = prepL (rend cs v)
    unfold rend
    dsimp only
    generalize (if v.K = 0 then cs else dropEnd (looseB v.LB) cs) = c1
    split
    · rw [mk_prep]; rfl
    · rw [mk_prep]
      congr 1
      cases hP : v.P with
      | true => rw [if_pos rfl, prep_true]
      | false =>
        obtain ⟨h1, h2, h3, h4⟩ := i.p hP
        rw [if_neg (by decide : ¬ false = true), h2, h3, h4]
        cases hM : v.M with
        | true => rw [if_neg (by decide : ¬ false = true), if_neg (by decide : ¬ (!true) = true), prep_false]
        | false =>
          obtain ⟨h5, _, h7, _, _⟩ := i.m hM
          rw [h5, h7, if_neg (by decide : ¬ false = true), if_pos (show (!false) = true from rfl), tr_plain]
          exact (prep_first c1 false).symm
  · show rend cs _ = dotL true (fixL (rend cs v))
    rw [← step_fix i]
    unfold rend stepV
    rw [if_neg (by decide : ¬ (1 : Int) = 0), if_pos rfl]
    dsimp only
    generalize (if v.K = 0 then cs else dropEnd (looseB v.LB) cs) = c1
    split
    · rw [mk_dot]
      congr 1
      cases hK : decide (v.K - 1 = 0) <;> rfl
    · rw [mk_dot]
      congr 1
      rw [dot_tr _ _ _ _ _ _ false _ (fun e => Bool.noConfusion e)]
      congr 1
      · cases v.P <;> simp <;> omega
      · cases v.P <;> simp
        all_goals split
        all_goals omega
      · cases v.P <;> simp
  · show rend cs { v with K := v.K + 1, LB := v.P } = comL (rend cs v)
    unfold rend
    dsimp only
    rw [if_neg (by omega : ¬ v.K + 1 = 0)]
    have hle : ∀ c ∈ looseB v.LB, c ∈ looseB v.P := by
      cases hP : v.P with
      | true => intro c hc; cases hL : v.LB with
        | true => exact hL ▸ hc
        | false => rw [hL] at hc; exact loose_le true c hc
      | false => rw [(i.p hP).1]; exact fun _ h => h
    have hc1 : dropEnd (looseB v.P) cs = dropEnd (looseB v.P) (if v.K = 0 then cs else dropEnd (looseB v.LB) cs) := by
      split
      · rfl
      · exact (dropEnd_twice hle cs).symm
    rw [hc1]
    generalize (if v.K = 0 then cs else dropEnd (looseB v.LB) cs) = c1
    by_cases h0 : v.K ≠ 0 ∧ c1 = []
    · obtain ⟨hk, rfl⟩ := h0
      rw [dropEnd_nil, if_pos ⟨by omega, rfl⟩, if_pos ⟨hk, rfl⟩, com_bare]
      congr 2
      omega
    · rw [if_neg h0, com_mk]
      have hs := strip_tr v.M v.P (v.a1 + v.a2) v.a2 (if v.UB = true then c1.filter seen else c1) (v.b1 + v.b2) v.b2 false
      rw [show ([32, 13, 10] : List Nat) = looseB false from rfl, hs.1]
      have hf : dropEnd (looseB v.P) (if v.UB = true then c1.filter seen else c1) = (if v.UB = true then (dropEnd (looseB v.P) c1).filter seen else dropEnd (looseB v.P) c1) ∧ (dropEnd (looseB v.P) (if v.UB = true then c1.filter seen else c1) = [] → dropEnd (looseB v.P) c1 = []) := by
        cases hU : v.UB with
        | false => exact ⟨rfl, fun h => h⟩
        | true =>
          have hP : v.P = true := by
            cases hP : v.P with
            | true => rfl
            | false => have := (i.p hP).2.1; rw [hU] at this; exact nomatch this
          rw [hP]
          exact drop_filter c1
      by_cases he : dropEnd (looseB v.P) c1 = []
      · rw [if_pos ⟨by omega, he⟩, hf.1, he]
        rw [show (if v.UB = true then ([] : List Nat).filter seen else []) = [] by split <;> rfl]
        rw [trT, if_pos rfl]; rfl
      · rw [if_neg (fun h => he h.2), if_neg (fun h => he (hf.2 (hs.2 h))), hf.1]
  · exact step_fix i cs
theorem inv_step {v : Sums} (i : InvV v) (d : Int) : InvV (stepV d v) := by
  have hp := i.p
  have hm := i.m
  obtain ⟨K, P, LB, UB, M, a1, a2, b1, b2⟩ := v
  unfold stepV
  dsimp only at hp hm ⊢
  repeat' split
  all_goals (refine ⟨?_, ?_⟩ <;> dsimp only)
  all_goals (cases P <;> cases M <;> simp_all)
/-! bounds -/
theorem out_len (M P : Bool) (x : Nat) (cr : Bool) (c : Nat) : (outT M P x cr c).length ≤ x + 3 := by
  unfold outT
  repeat' split
  all_goals (try simp)
  unfold lfold
  repeat' split
  all_goals simp
theorem nx_le {a y c N : Nat} (h1 : a ≤ N) (h2 : y ≤ N) : nx a y c ≤ N := by
  unfold nx; repeat' split
  all_goals omega
theorem tr_len (M P : Bool) (a b N : Nat) (ha : a ≤ N) (hb : b ≤ N) : ∀ (l : List Nat) (x y : Nat) (cr : Bool), x ≤ N → y ≤ N → (trT M P a b x y cr l).length ≤ (N + 3) * l.length
  | [], _, _, _, _, _ => Nat.zero_le _
  | c :: l, x, y, cr, hx, hy => by
    have h1 := out_len M P x cr c
    have h2 := tr_len M P a b N ha hb l _ _ (c == 13) (nx_le (c := c) ha hy) (nx_le (c := c) hb hy)
    rw [trT, List.length_append, List.length_cons, Nat.mul_succ]
    omega
theorem drop_len (os cs : List Nat) : (dropEnd os cs).length ≤ cs.length := by
  obtain ⟨t, h1, _, _⟩ := dropEnd_split os cs
  conv => rhs; rw [h1]
  rw [List.length_append]; omega
theorem rend_len (cs : List Nat) (v : Sums) (hc : cs.length ≤ 8) (hK : v.K ≤ 8) (ha : v.a1 + v.a2 ≤ 16) (hb : v.b1 + v.b2 ≤ 16) : (rend cs v).length ≤ 2000 := by
  unfold rend
  dsimp only
  have h1 : (if v.K = 0 then cs else dropEnd (looseB v.LB) cs).length ≤ 8 := by
    split
    · exact hc
    · exact Nat.le_trans (drop_len _ _) hc
  generalize (if v.K = 0 then cs else dropEnd (looseB v.LB) cs) = c1 at h1
  split
  · rw [List.length_append, mk_len]; simp; omega
  · rw [List.length_append, mk_len]
    have h2 : (if v.UB = true then c1.filter seen else c1).length ≤ 8 := by
      split
      · exact Nat.le_trans (List.length_filter_le _ _) h1
      · exact h1
    have := tr_len v.M v.P (v.a1 + v.a2) v.a2 16 (by omega) (by omega) (if v.UB = true then c1.filter seen else c1) (v.b1 + v.b2) v.b2 false (by omega) (by omega)
    omega
theorem lfold_sig {c : Nat} (h : c ∈ sigma) : ∀ d ∈ lfold c, d ∈ sigma := by
  have e : (sigma.all fun c => (lfold c).all fun d => decide (d ∈ sigma)) = true := by decide +kernel
  intro d hd
  exact of_decide_eq_true (List.all_eq_true.mp (List.all_eq_true.mp e c h) d hd)
theorem out_sig {M P : Bool} {x : Nat} {cr : Bool} {c : Nat} (h : c ∈ sigma) : ∀ d ∈ outT M P x cr c, d ∈ sigma := by
  have h10 : (10 : Nat) ∈ sigma := by decide
  have h13 : (13 : Nat) ∈ sigma := by decide
  have h46 : (46 : Nat) ∈ sigma := by decide
  have hs := lfold_sig h
  unfold outT
  intro d hd
  repeat' split at hd
  · exact nomatch hd
  · simp at hd; exact hd ▸ h10
  · simp at hd; rcases hd with rfl | rfl <;> assumption
  · simp at hd; exact hd ▸ h10
  · simp at hd; rcases hd with rfl | rfl <;> assumption
  · simp at hd; exact hd ▸ h13
  · simp at hd
    have : d = 46 := by omega
    exact this ▸ h46
  · exact nomatch hd
  · simp at hd; exact hd ▸ h
  · exact hs d hd
  · simp at hd; exact hd ▸ h
theorem tr_sig (M P : Bool) (a b : Nat) : ∀ (l : List Nat) (x y : Nat) (cr : Bool), (∀ c ∈ l, c ∈ sigma) → ∀ d ∈ trT M P a b x y cr l, d ∈ sigma
  | [], _, _, _, _, _, h => nomatch h
  | c :: l, x, y, cr, h, d, hd => by
    rw [trT] at hd
    rcases List.mem_append.mp hd with hd | hd
    · exact out_sig (h c (.head _)) d hd
    · exact tr_sig M P a b l _ _ _ (fun e he => h e (.tail _ he)) d hd
theorem rend_sig {cs : List Nat} (v : Sums) (h : ∀ c ∈ cs, c ∈ sigma) : ∀ d ∈ rend cs v, d ∈ sigma := by
  have hmk : ∀ n, ∀ d ∈ mk n, d ∈ sigma := fun n d hd => by rcases mk_mem hd with rfl | rfl <;> decide
  unfold rend
  dsimp only
  have h1 : ∀ c ∈ (if v.K = 0 then cs else dropEnd (looseB v.LB) cs), c ∈ sigma := by
    split
    · exact h
    · obtain ⟨t, e, _, _⟩ := dropEnd_split (looseB v.LB) cs
      intro c hc
      exact h c (by rw [e]; exact List.mem_append.mpr (.inl hc))
  generalize (if v.K = 0 then cs else dropEnd (looseB v.LB) cs) = c1 at h1
  intro d hd
  split at hd
  · rcases List.mem_append.mp hd with hd | hd
    · exact hmk _ d hd
    · have : d = 35 := by simpa using hd
      subst this; decide
  · rcases List.mem_append.mp hd with hd | hd
    · exact hmk _ d hd
    · refine tr_sig _ _ _ _ _ _ _ _ (fun c hc => ?_) d hd
      split at hc
      · exact h1 c (List.mem_filter.mp hc).1
      · exact h1 c hc
end Mine
end

section
namespace Mine
section
variable (D : Nat → List Nat → List Nat) (P M : Bool)
/-- the rows that have an end -/
noncomputable def closed : List (List Nat) → List (List Nat) → List Nat
  | r :: rs, e :: es => closed rs es ++ (D rs.length r ++ foldRow P r ++ (if M = true then [13, 10] else e))
  | _, _ => []
noncomputable def openT (rs es : List (List Nat)) (r : List Nat) : List Nat := closed D P M rs es ++ (D rs.length r ++ foldRow P r)
/-- the dots of a row -/
noncomputable def dotsN (X Y : Nat) (r : List Nat) : Nat := if r.head? = some 46 then X else if (r.filter seen).head? = some 46 then Y else 0
noncomputable def wx (X Y : Nat) (r : List Nat) : Nat := if r = [] then X else if r.filter seen = [] then Y else 0
noncomputable def wy (Y : Nat) (r : List Nat) : Nat := if r.filter seen = [] then Y else 0
theorem foldRow_unseen {r : List Nat} (h : r.filter seen = []) : foldRow true r = [] := by
  induction r with
  | nil => rfl
  | cons c r ih =>
    have hc : c = 8203 ∨ c = 173 := by
      refine Decidable.byContradiction fun hU => ?_
      rw [List.filter_cons_of_pos (seen_not hU)] at h
      exact nomatch h
    rw [List.filter_cons_of_neg (by rw [seen_U hc]; decide)] at h
    have := ih h
    unfold foldRow at this ⊢
    rw [if_pos rfl] at this ⊢
    rw [List.map_cons, List.flatten_cons, lfold_U hc, this]; rfl
theorem foldRow_nil (b : Bool) : foldRow b [] = [] := by cases b <;> rfl
variable {D P M} {X Y : Nat → Nat} {a b : Nat}
theorem snoc_out (hD : ∀ j r, D j r = List.replicate (dotsN (X j) (Y j) r) 46) (hY : P = false → ∀ j, Y j = 0) (j : Nat) (r : List Nat) {c : Nat} (h1 : c ≠ 10) (h2 : c ≠ 13) (cr : Bool) :
    D j (r ++ [c]) ++ foldRow P (r ++ [c]) = (D j r ++ foldRow P r) ++ outT M P (wx (X j) (Y j) r) cr c ∧ nx a (wy (Y j) r) c = wx (X j) (Y j) (r ++ [c]) ∧ nx b (wy (Y j) r) c = wy (Y j) (r ++ [c]) := by
  have hn : ∀ z w, nx z w c = if c = 8203 ∨ c = 173 then w else 0 := fun z w => by unfold nx; rw [if_neg (fun e => e.elim h1 h2)]
  have hne : r ++ [c] ≠ [] := by simp
  have hwx : wx (X j) (Y j) (r ++ [c]) = wy (Y j) (r ++ [c]) := by unfold wx wy; rw [if_neg hne]
  rw [hn, hn, hwx]
  have hlast : (if c = 8203 ∨ c = 173 then wy (Y j) r else 0) = wy (Y j) (r ++ [c]) := by
    unfold wy
    rw [List.filter_append]
    by_cases hU : c = 8203 ∨ c = 173
    · rw [if_pos hU, List.filter_cons_of_neg (by rw [seen_U hU]; decide), List.filter_nil, List.append_nil]
    · rw [if_neg hU, List.filter_cons_of_pos (seen_not hU), if_neg (by simp)]
  refine ⟨?_, hlast, hlast⟩
  rw [hD, hD, foldRow_snoc]
  unfold outT
  rw [if_neg h1, if_neg h2]
  have hlf : c ≠ 46 → (if P = true then lfold c else [c]) = (if c = 8203 ∨ c = 173 then if P = true then [] else [c] else if P = true then lfold c else [c]) := fun _ => by
    by_cases hU : c = 8203 ∨ c = 173
    · rw [if_pos hU, lfold_U hU]
    · rw [if_neg hU]
  rcases r with _ | ⟨e, r⟩
  · rw [foldRow_nil]
    simp only [List.nil_append]
    by_cases h46 : c = 46
    · subst h46
      simp [dotsN, wx, lfold]
    · have hd : dotsN (X j) (Y j) [c] = 0 := by
        unfold dotsN
        rw [if_neg (by simpa using h46), if_neg]
        by_cases hU : c = 8203 ∨ c = 173
        · rw [List.filter_cons_of_neg (by rw [seen_U hU]; decide)]; simp
        · rw [List.filter_cons_of_pos (seen_not hU)]; simpa using h46
      rw [if_neg h46, hd, ← hlf h46]
      simp [dotsN]
  · by_cases hs : (e :: r).filter seen = []
    · have he : e ≠ 46 := fun h => by subst h; rw [List.filter_cons_of_pos (by decide)] at hs; exact nomatch hs
      have hd0 : dotsN (X j) (Y j) (e :: r) = 0 := by
        unfold dotsN
        rw [if_neg (by simpa using he), hs, if_neg (by simp)]
      have hx : wx (X j) (Y j) (e :: r) = Y j := by
        unfold wx
        rw [if_neg (by simp), if_pos hs]
      rw [hd0, hx]
      by_cases h46 : c = 46
      · subst h46
        have hd : dotsN (X j) (Y j) (e :: r ++ [46]) = Y j := by
          unfold dotsN
          rw [if_neg (by simpa using he), List.filter_append, hs, if_pos (by decide)]
        rw [hd, if_pos rfl]
        cases hP : P with
        | true => rw [foldRow_unseen hs]; simp [lfold]
        | false => rw [hY hP j]; simp
      · have hd : dotsN (X j) (Y j) (e :: r ++ [c]) = 0 := by
          unfold dotsN
          rw [if_neg (by simpa using he), List.filter_append, hs, if_neg]
          by_cases hU : c = 8203 ∨ c = 173
          · rw [List.filter_cons_of_neg (by rw [seen_U hU]; decide)]; simp
          · rw [List.filter_cons_of_pos (seen_not hU)]; simpa using h46
        rw [if_neg h46, hd, ← hlf h46]
        simp
    · have hd : dotsN (X j) (Y j) (e :: r ++ [c]) = dotsN (X j) (Y j) (e :: r) := by
        unfold dotsN
        rw [List.filter_append]
        obtain ⟨z, zs, hz⟩ := List.exists_cons_of_ne_nil hs
        rw [hz]; simp
      have hx : wx (X j) (Y j) (e :: r) = 0 := by
        unfold wx
        rw [if_neg (by simp), if_neg hs]
      rw [hd, hx]
      by_cases h46 : c = 46
      · subst h46; simp [lfold]
      · rw [if_neg h46, ← hlf h46]; simp
theorem D_nil (hD : ∀ j r, D j r = List.replicate (dotsN (X j) (Y j) r) 46) (j : Nat) : D j [] = [] := by rw [hD]; simp [dotsN]
theorem split_tr (hD : ∀ j r, D j r = List.replicate (dotsN (X j) (Y j) r) 46) (hY : P = false → ∀ j, Y j = 0) (hXa : ∀ j, X (j + 1) = a) (hYb : ∀ j, Y (j + 1) = b) :
    ∀ (l : List Nat) (prev : Nat) (r : List Nat) (rs es : List (List Nat)), rs.length = es.length → (prev = 13 → r = [] ∧ ∃ es', es = [13] :: es') →
      ∃ r' rs' es', splitR prev l (r :: rs, es) = (r' :: rs', es') ∧ rs'.length = es'.length ∧ openT D P M rs' es' r' = openT D P M rs es r ++ trT M P a b (wx (X rs.length) (Y rs.length) r) (wy (Y rs.length) r) (prev == 13) l
  | [], prev, r, rs, es, hl, _ => ⟨r, rs, es, rfl, hl, (List.append_nil _).symm⟩
  | c :: l, prev, r, rs, es, hl, hp => by
    rw [splitR, trT]
    by_cases hc : c = 10 ∧ prev = 13
    · obtain ⟨rfl, rfl⟩ := hc
      obtain ⟨rfl, es', rfl⟩ := hp rfl
      obtain ⟨r0, rs0, rfl⟩ : ∃ r0 rs0, rs = r0 :: rs0 := by
        cases rs with
        | nil => exact nomatch hl
        | cons r0 rs0 => exact ⟨_, _, rfl⟩
      have hs : stepR 13 10 ([] :: r0 :: rs0, [13] :: es') = ([] :: r0 :: rs0, [13, 10] :: es') := rfl
      rw [hs]
      obtain ⟨r', rs', es2, e1, e2, e3⟩ := split_tr hD hY hXa hYb l 10 [] (r0 :: rs0) ([13, 10] :: es') hl (fun h => nomatch h)
      refine ⟨r', rs', es2, e1, e2, e3.trans ?_⟩
      unfold openT
      rw [D_nil hD, foldRow_nil, closed, closed]
      have hX : X (r0 :: rs0).length = a := hXa _
      have hYj : Y (r0 :: rs0).length = b := hYb _
      simp only [wx, wy, hX, hYj, nx, outT]
      cases M <;> simp
    · by_cases h1 : c = 10 ∨ c = 13
      · have hs : stepR prev c (r :: rs, es) = ([] :: r :: rs, [c] :: es) := by unfold stepR; rw [if_neg hc, if_pos h1]
        rw [hs]
        obtain ⟨r', rs', es2, e1, e2, e3⟩ := split_tr hD hY hXa hYb l c [] (r :: rs) ([c] :: es) (by simp [hl]) (fun h => ⟨rfl, es, by rw [h]⟩)
        refine ⟨r', rs', es2, e1, e2, e3.trans ?_⟩
        unfold openT
        rw [D_nil hD, foldRow_nil, closed]
        have hX : X (r :: rs).length = a := hXa _
        have hYj : Y (r :: rs).length = b := hYb _
        have ho : outT M P (wx (X rs.length) (Y rs.length) r) (prev == 13) c = if M = true then [13, 10] else [c] := by
          unfold outT
          rcases h1 with rfl | rfl
          · have : (prev == 13) = false := by simpa using fun h => hc ⟨rfl, h⟩
            rw [this]; simp
          · simp
        rw [ho, hX, hYj]
        have hn : ∀ z w, nx z w c = z := fun z w => by unfold nx; rw [if_pos h1]
        rw [hn, hn]
        simp [wx, wy]
      · have hs : stepR prev c (r :: rs, es) = ((r ++ [c]) :: rs, es) := by unfold stepR; rw [if_neg hc, if_neg h1]; rfl
        rw [hs]
        obtain ⟨r', rs', es2, e1, e2, e3⟩ := split_tr hD hY hXa hYb l c (r ++ [c]) rs es hl (fun h => absurd (.inr h) h1)
        refine ⟨r', rs', es2, e1, e2, e3.trans ?_⟩
        obtain ⟨s1, s2, s3⟩ := snoc_out (M := M) (a := a) (b := b) hD hY rs.length r (fun h => h1 (.inl h)) (fun h => h1 (.inr h)) (prev == 13)
        unfold openT
        rw [s1, s2, s3]
        simp
end
theorem closed_rows {ns : List Int} {f : Nat} {ks ms : List Nat} : ∀ (rs es : List (List Nat)), rs.length = es.length → ∀ re ee,
    rowsText ns f ks ms (es.reverse ++ ee) (rs.reverse ++ re) rs.length = closed (fun j r => dotsOf ns f ks j r ms) (decide (f < ns.length)) (!decide (ms = [])) rs es
  | [], [], _, _, _ => rfl
  | r :: rs, e :: es, hl, re, ee => by
    have hl' : rs.length = es.length := by simpa using hl
    have ih := closed_rows (ns := ns) (f := f) (ks := ks) (ms := ms) rs es hl' ([r] ++ re) ([e] ++ ee)
    rw [closed, ← ih, List.length_cons, rowsText_succ, List.reverse_cons, List.reverse_cons, List.append_assoc, List.append_assoc]
    congr 1
    unfold rowText
    have h1 : (rs.reverse ++ ([r] ++ re)).getD rs.length [] = r := by simp [List.getD]
    have h2 : endOf (es.reverse ++ ([e] ++ ee)) (!decide (ms = [])) rs.length = if (!decide (ms = [])) = true then [13, 10] else e := by
      unfold endOf
      rw [if_pos (by simp [hl']), hl']
      simp [List.getD]
    rw [h1, h2]
theorem rows_open {ns : List Int} {f : Nat} {ks ms : List Nat} {r : List Nat} {rs es : List (List Nat)} (hl : rs.length = es.length) :
    rowsText ns f ks ms es.reverse (r :: rs).reverse (r :: rs).length = openT (fun j r => dotsOf ns f ks j r ms) (decide (f < ns.length)) (!decide (ms = [])) rs es r := by
  rw [List.length_cons, rowsText_succ, List.reverse_cons]
  have h := closed_rows (ns := ns) (f := f) (ks := ks) (ms := ms) rs es hl [r] []
  rw [List.append_nil] at h
  rw [h]
  unfold openT
  congr 1
  unfold rowText
  have h1 : (rs.reverse ++ [r]).getD rs.length [] = r := by simp [List.getD]
  have h2 : endOf es.reverse (!decide (ms = [])) rs.length = [] := by
    unfold endOf
    rw [if_neg (by simp [hl])]
  rw [h1, h2, List.append_nil]
end Mine
end

section
namespace Mine
/-- which of the mends set a dot in row j -/
noncomputable def hits (ns : List Int) (ks : List Nat) (j i : Nat) : Bool := decide (ns.getD i 0 = 1) && (decide (0 < j) || decide (ks = []) || decide (i < ks.headD 0))
theorem dots_eq (ns : List Int) (f : Nat) (ks : List Nat) (j : Nat) (r : List Nat) (ms : List Nat) :
    dotsOf ns f ks j r ms = List.replicate (dotsN (ms.filter (hits ns ks j)).length (ms.filter fun i => hits ns ks j i && decide (f < i)).length r) 46 := by
  have hh : ∀ (u : List Nat), decide (u.take 1 = [46]) = decide (u.head? = some 46) := fun u => by
    cases u <;> simp
  have hf : (fun c => !decide (c ∈ [8203, 173])) = seen := rfl
  have hd : ∀ i, dotB ns f ks j i r = (hits ns ks j i && decide (headOf f i r = [46])) := fun i => by
    unfold dotB hits
    cases decide (ns.getD i 0 = 1) <;> cases decide (headOf f i r = [46]) <;> cases (decide (0 < j) || decide (ks = []) || decide (i < ks.headD 0)) <;> rfl
  have ho : ∀ i, decide (headOf f i r = [46]) = if f < i then decide ((r.filter seen).head? = some 46) else decide (r.head? = some 46) := fun i => by
    unfold headOf
    rw [hf]
    split
    · exact hh _
    · exact hh _
  unfold dotsOf dotsN
  rw [List.map_const']
  congr 1
  by_cases h1 : r.head? = some 46
  · rw [if_pos h1]
    have h2 : (r.filter seen).head? = some 46 := by
      cases r with
      | nil => exact nomatch h1
      | cons c r =>
        have : c = 46 := by simpa using h1
        subst this
        rw [List.filter_cons_of_pos (by decide)]; rfl
    refine congrArg List.length (List.filter_congr fun i _ => ?_)
    rw [hd, ho, decide_eq_true h1, decide_eq_true h2, ite_self, Bool.and_true]
  · rw [if_neg h1]
    by_cases h2 : (r.filter seen).head? = some 46
    · rw [if_pos h2]
      refine congrArg List.length (List.filter_congr fun i _ => ?_)
      rw [hd, ho, decide_eq_false h1, decide_eq_true h2]
      by_cases hi : f < i
      · rw [if_pos hi, decide_eq_true hi]
      · rw [if_neg hi, decide_eq_false hi]
    · rw [if_neg h2]
      refine List.length_eq_zero_iff.mpr (List.filter_eq_nil_iff.mpr fun i _ => ?_)
      rw [hd, ho, decide_eq_false h1, decide_eq_false h2, ite_self, Bool.and_false]
      decide
theorem part_len (p q : Nat → Bool) : ∀ l : List Nat, (l.filter p).length = (l.filter fun i => p i && !q i).length + (l.filter fun i => p i && q i).length
  | [] => rfl
  | c :: l => by
    have ih := part_len p q l
    rw [List.filter_cons, List.filter_cons, List.filter_cons]
    cases p c <;> cases q c <;> simp [ih] <;> omega
/-- the sums of a run -/
noncomputable def val (ns : List Int) : Sums :=
  let f := ns.idxOf 0
  let ks := idxs ns (· == 2)
  let ms := idxs ns (fun d => d == 1 || d == 3)
  { K := ks.length, P := decide (f < ns.length), LB := decide (f < ks.getLastD 0), UB := unseenIf f ns.length ms, M := !decide (ms = []),
    a1 := (ms.filter fun i => hits ns ks 1 i && !decide (f < i)).length, a2 := (ms.filter fun i => hits ns ks 1 i && decide (f < i)).length,
    b1 := (ms.filter fun i => hits ns ks 0 i && !decide (f < i)).length, b2 := (ms.filter fun i => hits ns ks 0 i && decide (f < i)).length }
theorem hits_succ (ns : List Int) (ks : List Nat) (j i : Nat) : hits ns ks (j + 1) i = hits ns ks 1 i := by
  unfold hits; simp
theorem told_rend (cs : List Nat) (ns : List Int) : told cs ns = rend cs (val ns) := by
  unfold told rend val
  dsimp only
  have hk : ((idxs ns (· == 2)).length = 0) = (idxs ns (· == 2) = []) := propext List.length_eq_zero_iff
  simp only [ne_eq, hk]
  have hl : looseOf (idxs ns (· == 2)) (ns.idxOf 0) = looseB (decide (ns.idxOf 0 < (idxs ns (· == 2)).getLastD 0)) := by
    unfold looseOf looseB
    by_cases h : ns.idxOf 0 < (idxs ns (· == 2)).getLastD 0
    · rw [if_pos h, decide_eq_true h]; rfl
    · rw [if_neg h, decide_eq_false h]; rfl
  rw [hl]
  have hms : ∀ i ∈ idxs ns (fun d => d == 1 || d == 3), i < ns.length := fun i h => idxs_lt h
  generalize ns.idxOf 0 = f
  generalize idxs ns (· == 2) = ks
  generalize idxs ns (fun d => d == 1 || d == 3) = ms at hms
  generalize (if ks = [] then cs else dropEnd (looseB (decide (f < ks.getLastD 0))) cs) = c1
  split
  · rfl
  · show mk ks.length ++ _ = _
    congr 1
    rw [show (fun c => !decide (c ∈ [8203, 173])) = seen from rfl]
    generalize (if unseenIf f ns.length ms = true then c1.filter seen else c1) = c2
    rw [← part_len, ← part_len]
    obtain ⟨r', rs', es', e1, e2, e3⟩ := split_tr (D := fun j r => dotsOf ns f ks j r ms) (P := decide (f < ns.length)) (M := !decide (ms = []))
      (X := fun j => (ms.filter (hits ns ks j)).length) (Y := fun j => (ms.filter fun i => hits ns ks j i && decide (f < i)).length)
      (a := (ms.filter (hits ns ks 1)).length) (b := (ms.filter fun i => hits ns ks 1 i && decide (f < i)).length)
      (fun j r => dots_eq ns f ks j r ms)
      (fun h j => by
        have h : ¬ f < ns.length := of_decide_eq_false h
        refine List.length_eq_zero_iff.mpr (List.filter_eq_nil_iff.mpr fun i hi => ?_)
        have := hms i hi
        rw [decide_eq_false (by omega : ¬ f < i), Bool.and_false]; decide)
      (fun j => by rw [show hits ns ks (j + 1) = hits ns ks 1 from funext (hits_succ ns ks j)])
      (fun j => by
        refine congrArg List.length (List.filter_congr fun i _ => ?_)
        rw [hits_succ])
      c2 0 [] [] [] rfl (fun h => nomatch h)
    rw [e1]
    dsimp only
    rw [rows_open e2, e3]
    have h0 : openT (fun j r => dotsOf ns f ks j r ms) (decide (f < ns.length)) (!decide (ms = [])) [] [] [] = [] := by
      have hd : dotsOf ns f ks 0 [] ms = [] := by rw [dots_eq]; rfl
      unfold openT
      rw [foldRow_nil, closed]
      · show [] ++ (dotsOf ns f ks 0 [] ms ++ []) = []
        rw [hd]; rfl
      · intro _ _ _ _ h; exact nomatch h
    rw [h0]
    simp [wx, wy]
theorem idxs_snoc (ns : List Int) (d : Int) (p : Int → Bool) : idxs (ns ++ [d]) p = idxs ns p ++ (if p d = true then [ns.length] else []) := by
  unfold idxs
  rw [List.length_append, List.length_singleton, List.range_succ, List.filter_append]
  congr 1
  · refine List.filter_congr fun i hi => ?_
    have := List.mem_range.mp hi
    simp [List.getD, List.getElem?_append_left this]
  · rw [List.filter_cons, List.filter_nil]
    have : (ns ++ [d]).getD ns.length 0 = d := by simp [List.getD]
    rw [this]
theorem idx_lt (ns : List Int) : (ns.idxOf 0 < ns.length) ↔ (0 : Int) ∈ ns := List.idxOf_lt_length_iff
theorem idx_le (ns : List Int) : ns.idxOf 0 ≤ ns.length := List.idxOf_le_length
theorem idx_snoc (ns : List Int) (d : Int) : (ns ++ [d]).idxOf 0 = if ns.idxOf 0 < ns.length then ns.idxOf 0 else if d = 0 then ns.length else ns.length + 1 := by
  rw [List.idxOf_append]
  by_cases h : (0 : Int) ∈ ns
  · rw [if_pos h, if_pos ((idx_lt ns).mpr h)]
  · rw [if_neg h, if_neg (fun e => h ((idx_lt ns).mp e))]
    by_cases hd : d = 0
    · subst hd; simp
    · rw [if_neg hd]
      have : [d].idxOf 0 = 1 := by rw [List.idxOf_cons, beq_eq_false_iff_ne.mpr hd]; rfl
      rw [this]; omega
/-- for a place in the run itself, the first preparing is as it was -/
theorem idx_cmp (ns : List Int) (d : Int) {i : Nat} (h : i < ns.length) : decide ((ns ++ [d]).idxOf 0 < i) = decide (ns.idxOf 0 < i) := by
  rw [idx_snoc]
  have := idx_le ns
  split
  · rfl
  · split
    all_goals (rw [decide_eq_false (by omega), decide_eq_false (by omega)])
theorem idx_now (ns : List Int) (d : Int) (hd : d ≠ 0) : decide ((ns ++ [d]).idxOf 0 < ns.length) = decide (ns.idxOf 0 < ns.length) := by
  rw [idx_snoc, if_neg hd]
  split
  · rfl
  · rename_i h
    rw [decide_eq_false (by omega), decide_eq_false h]
theorem getD_snoc (ns : List Int) (d : Int) {i : Nat} (h : i < ns.length) : (ns ++ [d]).getD i 0 = ns.getD i 0 := by
  simp [List.getD, List.getElem?_append_left h]
end Mine
end

section
namespace Mine
noncomputable def cnt (g : Bool → Bool) (j : Nat) (ns : List Int) : Nat :=
  ((idxs ns (fun d => d == 1 || d == 3)).filter fun i => hits ns (idxs ns (· == 2)) j i && g (decide (ns.idxOf 0 < i))).length
theorem headD_lt {l : List Nat} {n : Nat} (h : ∀ i ∈ l, i < n) (hl : l ≠ []) : l.headD 0 < n := by
  cases l with
  | nil => exact absurd rfl hl
  | cons c l => exact h c (.head _)
theorem lastD_lt {l : List Nat} {n : Nat} (h : ∀ i ∈ l, i < n) (hl : l ≠ []) : l.getLastD 0 < n := by
  rw [List.getLastD_eq_getLast?, List.getLast?_eq_some_getLast hl]
  exact h _ (List.getLast_mem hl)
theorem headD_app {l t : List Nat} (hl : l ≠ []) : (l ++ t).headD 0 = l.headD 0 := by
  cases l with
  | nil => exact absurd rfl hl
  | cons c l => rfl
theorem hits_snoc (ns : List Int) (d : Int) (j : Nat) {i : Nat} (h : i < ns.length) : hits (ns ++ [d]) (idxs (ns ++ [d]) (· == 2)) j i = hits ns (idxs ns (· == 2)) j i := by
  unfold hits
  rw [getD_snoc ns d h, idxs_snoc]
  congr 1
  generalize idxs ns (· == 2) = ks
  by_cases hk : ks = []
  · subst hk
    by_cases hd : (d == 2) = true
    · rw [if_pos hd]; simp; omega
    · rw [if_neg hd]; rfl
  · rw [headD_app hk]
    have : ks ++ (if (d == 2) = true then [ns.length] else []) ≠ [] := by simp [hk]
    rw [decide_eq_false this, decide_eq_false hk]
theorem cnt_snoc (g : Bool → Bool) (j : Nat) (ns : List Int) (d : Int) :
    cnt g j (ns ++ [d]) = cnt g j ns + (if d = 1 ∧ (0 < j ∨ idxs ns (· == 2) = []) ∧ g (decide (ns.idxOf 0 < ns.length)) = true then 1 else 0) := by
  unfold cnt
  rw [idxs_snoc ns d (fun d => d == 1 || d == 3), List.filter_append, List.length_append]
  congr 1
  · refine congrArg List.length (List.filter_congr fun i hi => ?_)
    have := idxs_lt hi
    rw [hits_snoc ns d j this, idx_cmp ns d this]
  · by_cases h1 : d = 1
    · subst h1
      rw [if_pos (by decide), List.filter_cons, List.filter_nil, idx_now ns 1 (by decide)]
      have hh : hits (ns ++ [1]) (idxs (ns ++ [1]) (· == 2)) j ns.length = decide (0 < j ∨ idxs ns (· == 2) = []) := by
        unfold hits
        have h0 : (ns ++ [1]).getD ns.length 0 = 1 := by simp [List.getD]
        have hk : idxs (ns ++ [1]) (· == 2) = idxs ns (· == 2) := by rw [idxs_snoc]; exact List.append_nil _
        rw [h0, hk, decide_eq_true rfl, Bool.true_and]
        by_cases hn : idxs ns (· == 2) = []
        · simp [hn]
        · have := headD_lt (fun i hi => idxs_lt (p := (· == 2)) hi) hn
          rw [decide_eq_false hn, decide_eq_false (by omega : ¬ ns.length < (idxs ns (· == 2)).headD 0)]
          simp [hn]
      rw [hh]
      generalize g (decide (ns.idxOf 0 < ns.length)) = z
      by_cases hq : 0 < j ∨ idxs ns (· == 2) = []
      · cases z <;> simp [hq]
      · cases z <;> simp [hq]
    · rw [if_neg (c := d = 1 ∧ _) (fun e => h1 e.1)]
      by_cases h3 : d = 3
      · subst h3
        rw [if_pos (by decide), List.filter_cons, List.filter_nil]
        have h0 : (ns ++ [3]).getD ns.length 0 = 3 := by simp [List.getD]
        have hh : hits (ns ++ [3]) (idxs (ns ++ [3]) (· == 2)) j ns.length = false := by
          unfold hits
          rw [h0]; rfl
        rw [hh]; rfl
      · rw [if_neg (by simp [h1, h3])]; rfl
theorem sums_ext : ∀ {u v : Sums}, u.K = v.K → u.P = v.P → u.LB = v.LB → u.UB = v.UB → u.M = v.M → u.a1 = v.a1 → u.a2 = v.a2 → u.b1 = v.b1 → u.b2 = v.b2 → u = v
  | ⟨_, _, _, _, _, _, _, _, _⟩, ⟨_, _, _, _, _, _, _, _, _⟩, rfl, rfl, rfl, rfl, rfl, rfl, rfl, rfl, rfl => rfl
theorem val_step (ns : List Int) {d : Int} (hd : 0 ≤ d ∧ d < 4) : val (ns ++ [d]) = stepV d (val ns) := by
  have hc : ∀ ns, val ns = { val ns with a1 := cnt (fun b => !b) 1 ns, a2 := cnt (fun b => b) 1 ns, b1 := cnt (fun b => !b) 0 ns, b2 := cnt (fun b => b) 0 ns } := fun _ => rfl
  have hK : (val ns).K = 0 ↔ idxs ns (· == 2) = [] := List.length_eq_zero_iff
  have hms : ∀ i ∈ idxs ns (fun d => d == 1 || d == 3), i < ns.length := fun i h => idxs_lt h
  have hks : ∀ i ∈ idxs ns (· == 2), i < ns.length := fun i h => idxs_lt h
  have hP : (val ns).P = decide (ns.idxOf 0 < ns.length) := rfl
  have hP' : (val (ns ++ [d])).P = ((val ns).P || decide (d = 0)) := by
    show decide ((ns ++ [d]).idxOf 0 < (ns ++ [d]).length) = (decide (ns.idxOf 0 < ns.length) || decide (d = 0))
    rw [idx_snoc, List.length_append, List.length_singleton]
    by_cases h : ns.idxOf 0 < ns.length
    · rw [if_pos h]; simp [h]; omega
    · rw [if_neg h]
      by_cases h0 : d = 0
      · rw [if_pos h0]; simp [h0]
      · rw [if_neg h0]; simp [h, h0]
  have hK' : (val (ns ++ [d])).K = (val ns).K + (if d = 2 then 1 else 0) := by
    show (idxs (ns ++ [d]) (· == 2)).length = (idxs ns (· == 2)).length + _
    rw [idxs_snoc, List.length_append]
    by_cases h : d = 2
    · subst h; rfl
    · rw [if_neg (by simpa using h), if_neg h]; rfl
  have hM' : (val (ns ++ [d])).M = ((val ns).M || decide (d = 1) || decide (d = 3)) := by
    show (!decide (idxs (ns ++ [d]) (fun d => d == 1 || d == 3) = [])) = ((!decide (idxs ns (fun d => d == 1 || d == 3) = [])) || decide (d = 1) || decide (d = 3))
    rw [idxs_snoc]
    by_cases h1 : d = 1
    · subst h1; simp
    · by_cases h3 : d = 3
      · subst h3; simp
      · simp [h1, h3]
  have hLB' : (val (ns ++ [d])).LB = if d = 2 then (val ns).P else (val ns).LB := by
    show decide ((ns ++ [d]).idxOf 0 < (idxs (ns ++ [d]) (· == 2)).getLastD 0) = if d = 2 then decide (ns.idxOf 0 < ns.length) else decide (ns.idxOf 0 < (idxs ns (· == 2)).getLastD 0)
    rw [idxs_snoc]
    by_cases h : d = 2
    · subst h
      rw [if_pos rfl, if_pos (by decide), ← idx_now ns 2 (by decide)]
      simp [List.getLastD_eq_getLast?]
    · rw [if_neg h, if_neg (by simpa using h), List.append_nil]
      by_cases hn : idxs ns (· == 2) = []
      · rw [hn]; simp
      · exact idx_cmp ns d (lastD_lt hks hn)
  have hUB' : (val (ns ++ [d])).UB = if d = 0 then (if (val ns).P = true then (val ns).UB else !(val ns).M) else (val ns).UB := by
    show (decide ((ns ++ [d]).idxOf 0 < (ns ++ [d]).length) && (decide (idxs (ns ++ [d]) (fun d => d == 1 || d == 3) = []) || decide ((ns ++ [d]).idxOf 0 < (idxs (ns ++ [d]) (fun d => d == 1 || d == 3)).headD 0))) = _
    rw [show decide ((ns ++ [d]).idxOf 0 < (ns ++ [d]).length) = ((val ns).P || decide (d = 0)) from hP']
    have hU : (val ns).UB = ((val ns).P && (decide (idxs ns (fun d => d == 1 || d == 3) = []) || decide (ns.idxOf 0 < (idxs ns (fun d => d == 1 || d == 3)).headD 0))) := rfl
    have hM : (val ns).M = !decide (idxs ns (fun d => d == 1 || d == 3) = []) := rfl
    rw [hU, hM, idxs_snoc]
    generalize idxs ns (fun d => d == 1 || d == 3) = ms at hms
    have hPf : (val ns).P = false → ∀ i, i < ns.length → decide (ns.idxOf 0 < i) = false := fun h i hi => by
      have := of_decide_eq_false (hP ▸ h : decide (ns.idxOf 0 < ns.length) = false)
      exact decide_eq_false (by omega)
    generalize (val ns).P = P at hP hPf
    by_cases hn : ms = []
    · subst hn
      rw [List.nil_append]
      by_cases h0 : d = 0
      · subst h0
        rw [if_pos rfl]
        cases P <;> simp
      · rw [if_neg h0]
        by_cases h13 : (d == 1 || d == 3) = true
        · rw [if_pos h13]
          show (_ && (_ || decide ((ns ++ [d]).idxOf 0 < ns.length))) = _
          rw [idx_now ns d h0, ← hP]
          cases P <;> simp [h0]
        · rw [if_neg h13]
          simp [h0]
    · have hne : ms ++ (if (d == 1 || d == 3) = true then [ns.length] else []) ≠ [] := by simp [hn]
      have hlt := headD_lt hms hn
      rw [headD_app hn, idx_cmp ns d hlt, decide_eq_false hne, decide_eq_false hn]
      cases P with
      | true => by_cases h0 : d = 0 <;> simp [h0]
      | false =>
        rw [hPf rfl _ hlt]
        by_cases h0 : d = 0 <;> simp [h0]
  rw [hc (ns ++ [d])]
  have ha1 : (val ns).a1 = cnt (fun b => !b) 1 ns := rfl
  have ha2 : (val ns).a2 = cnt (fun b => b) 1 ns := rfl
  have hb1 : (val ns).b1 = cnt (fun b => !b) 0 ns := rfl
  have hb2 : (val ns).b2 = cnt (fun b => b) 0 ns := rfl
  have hd4 : d = 0 ∨ d = 1 ∨ d = 2 ∨ d = 3 := by omega
  have hcs : ∀ g j, cnt g j (ns ++ [d]) = cnt g j ns + (if d = 1 ∧ (0 < j ∨ (val ns).K = 0) ∧ g (val ns).P = true then 1 else 0) := fun g j => by
    rw [cnt_snoc]; simp only [hK, hP]
  apply sums_ext
  all_goals dsimp only
  · rw [hK']; rcases hd4 with rfl | rfl | rfl | rfl <;> rfl
  · rw [hP']; rcases hd4 with rfl | rfl | rfl | rfl <;> simp [stepV]
  · rw [hLB']; rcases hd4 with rfl | rfl | rfl | rfl <;> rfl
  · rw [hUB']; rcases hd4 with rfl | rfl | rfl | rfl <;> rfl
  · rw [hM']; rcases hd4 with rfl | rfl | rfl | rfl <;> simp [stepV]
  · rw [hcs]; rcases hd4 with rfl | rfl | rfl | rfl <;> simp [stepV, ha1]
    cases (val ns).P <;> simp
  · rw [hcs]; rcases hd4 with rfl | rfl | rfl | rfl <;> simp [stepV, ha2]
    cases (val ns).P <;> simp
  · rw [hcs]; rcases hd4 with rfl | rfl | rfl | rfl <;> simp [stepV, hb1]
    cases (val ns).P <;> by_cases hz : (val ns).K = 0 <;> simp [hz]
  · rw [hcs]; rcases hd4 with rfl | rfl | rfl | rfl <;> simp [stepV, hb2]
    cases (val ns).P <;> by_cases hz : (val ns).K = 0 <;> simp [hz]
theorem val_nil : val [] = { K := 0, P := false, LB := false, UB := false, M := false, a1 := 0, a2 := 0, b1 := 0, b2 := 0 } := by rfl
theorem val_inv : ∀ (ns : List Int), Deeds ns → InvV (val ns) := by
  have key : ∀ (r : List Int), Deeds r.reverse → InvV (val r.reverse) := by
    intro r
    induction r with
    | nil => intro _; exact ⟨fun _ => ⟨rfl, rfl, rfl, rfl⟩, fun _ => ⟨rfl, rfl, rfl, rfl, rfl⟩⟩
    | cons d r ih =>
      intro h
      rw [List.reverse_cons] at h ⊢
      rw [val_step _ (h d (by simp))]
      exact inv_step (ih fun e he => h e (List.mem_append.mpr (.inl he))) d
  intro ns h
  have := key ns.reverse (by rwa [List.reverse_reverse])
  rwa [List.reverse_reverse] at this
theorem plain : Plain where
  nil cs _ := by
    rw [told_rend, val_nil]
    unfold rend
    rw [if_neg (by simp)]
    exact tr_plain cs false
  step cs ns d _ hn hd := by
    rw [told_rend, told_rend, val_step ns hd]
    exact step_ok (val_inv ns hn) cs hd
  sig cs ns h c hc := by
    rw [told_rend] at hc
    refine rend_sig (val ns) (fun c hc => ?_) c hc
    exact of_decide_eq_true (List.all_eq_true.mp (by decide : (kindsL.all fun c => decide (c ∈ sigma)) = true) c (h c hc))
  len cs ns hc hn := by
    rw [told_rend]
    have hi : ∀ p, (idxs ns p).length ≤ 8 := fun p => by
      have := List.length_filter_le (fun i => p (ns.getD i 0)) (List.range ns.length)
      unfold idxs
      rw [List.length_range] at this
      omega
    have hl : ∀ (q : Nat → Bool) p, ((idxs ns p).filter q).length ≤ 8 := fun q p => Nat.le_trans (List.length_filter_le _ _) (hi p)
    exact rend_len cs (val ns) hc (hi _) (Nat.add_le_add (hl _ _) (hl _ _)) (Nat.add_le_add (hl _ _) (hl _ _))
end Mine
end

section
set_option maxHeartbeats 4000000
open PySem PySem.W PySem.Challenge PyProof.Rows
namespace Mine
set_option maxRecDepth 100000
theorem hd : (WalkO vw lsn (XL vw []) hkK.says rw_re0099_01.row.toRowW ((defOf vw rw_re0099_01.row.name).get (by kernel_rfl)).1 ((defOf vw rw_re0099_01.row.name).get (by kernel_rfl)).2 fun f vs => PySem.call f vs) → rw_re0099_01.Holds := by
  intro walk
  w_on
  o_law
  refine holds_open (q := vw) (loose := lsn) (Xt := xtK) (XP := XL vw []) (Yf := hkK.obs) (Ya := hkK.val) (YP := hkK.says) (N := 30000) left_ok hkK.of hkK.keeps (fun s e => xl_of s (Bool.and_eq_true_iff.mp e).1) XL.keeps (by rfl) (by rfl) (by rfl) (fun s e => recFacts_of (Bool.and_eq_true_iff.mp e).2) (by rfl) (by assumption) (by decide +kernel) ⟨rfl, rfl, rfl, rfl, rfl, by decide +kernel⟩ ?hw walk
  case hw => w_witness2
end Mine
end

section
set_option maxHeartbeats 400000
open PySem PySem.W PySem.Calls PyProof.Rows PySem.Challenge PyProof.V PySem.Spec
set_option maxRecDepth 100000
namespace Mine
theorem law_b : ∀ h, ((defOf vw rw_re0099_01.row.name).get h).fst.body = [stL 0, stL 1, stL 2, stL 3, stL 4, stL 5] := fun h => by with_unfolding_all rfl
theorem law_n : ∀ h, ((defOf vw rw_re0099_01.row.name).get h).fst.name = Str.ofString "law" := fun h => by with_unfolding_all rfl
theorem law_s : ∀ h, ((defOf vw rw_re0099_01.row.name).get h).fst.scope = fnScope 17 := fun h => by with_unfolding_all rfl
theorem final (P : Plain) : rw_re0099_01.Holds := by
  refine hd ?_
  k_go0
  rename IntsAre _ _ => iv
  rename Heap.IsList _ _ _ => hl
  rename Top _ _ _ _ _ _ => T
  rename Fr _ _ _ _ => F
  rename News _ _ _ _ => N
  rename Frag.In _ _ => X
  rename _ = Data.cell _ => d1
  rename ¬ (_ : Int) < _ => hz
  rw [law_b, law_n, law_s]
  have hz' := Int.not_lt.mp hz
  have hz2 := Int.ofNat_le.mp hz'
  rename _ = (#[] : Array _) => hg0
  refine wpAny_mono (Q := fun f s' => f = .ret (.bool true) ∧ ∃ h' tk m', s' = { heap := h', gens := _, drawn := _, toks := tk, os := _ } ∧ Fr _ _ h' m') (law_body P ?hh ?hu ?hr X T F N d1 hl iv hz2 ?m0 fun h' tk m' F' => ⟨rfl, h', tk, m', rfl, F'⟩) ?q fun _ _ h => h.elim
  case hh => rfl
  case hu => exact (by decide : callerA.units + 3 + 90 < cLine)
  case hr => exact (by decide : callerA.depth + 1 < 890)
  case m0 => with_unfolding_all rfl
  case q =>
    intro f s' hf
    obtain ⟨rfl, h', tk, m', rfl, F'⟩ := hf
    clear F
    show GoodW _ _ _ _ _ (.ok (.ret (.bool _))) _
    refine goodW_bool F' hg0 (raisesW_false ?_) ?_
    · wrow_none_raised
    · wrow_post
end Mine
end

theorem PySem.Challenge.cw_re0099_01_holds : PySem.Challenge.rw_re0099_01.Holds :=
  Mine.final Mine.plain
