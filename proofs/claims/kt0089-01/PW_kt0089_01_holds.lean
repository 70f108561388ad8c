import PyProof.Rows.All
import Wide.All
import OpenK.AllK
import Wide.FinOn
import PyProof.AttrMissHeap
import PyProof.CallTypeRange
import PyProof.Rows.StrClose3
import KE.KLcFree
import KE.LcTurns
import KE.KSlice
import KE.KCat
import KE.KFind
import PyProof.StrLawsFrom
import PyProof.Rows.StrGather
import PyProof.GenCompD
import KE.KTup
import KE.KxTruthy
import PyProof.ExcFactsAll.ValueError
import KE.KTryDeep
import PyProof.ListTruth
import KE.KOwnIter
import PyProof.ListNew
import KE.KEqSeq
import PyProof.Rows.StrJoinRep
import PyProof.Rows.StrBetween
import KE.KIntText
import PyProof.StrLawsChain
import PyProof.StrLawsTight
import KE.KLcPair
import KE.KxMul
import PyProof.Rows.CatchStr
import PyProof.ExcStrAll.ValueError
import KE.KCells
import Lean
import PySem.Challenge.RW_kt0089_01
open PySem PySem.W PyProof.Rows
set_option Elab.async false
set_option maxRecDepth 100000
set_option linter.all false
local macro_rules | `(tactic| walk_at $s:str) => `(tactic| k_extra $s)
local macro_rules | `(tactic| omega) => `(tactic| k_extra "omega")
local macro_rules | `(tactic| k_all) => `(tactic| k_extra "k_all")
local macro_rules | `(tactic| kst_all) => `(tactic| k_extra "kst_all")
local macro_rules | `(tactic| ktr_enter) => `(tactic| k_extra "ktr_enter")
namespace Mine
-- MDefs
open PySem PySem.W PyProof.Rows
set_option maxHeartbeats 0
noncomputable abbrev S := Str.ofString
noncomputable abbrev N := BT.node
noncomputable abbrev E := BT.nil
noncomputable abbrev pw := PySem.Challenge.pw_kt0089_01
noncomputable def defAtI (i : Nat) : Arguments × List Stmt × Scope := match (behindTheImports pw)[i]? with
  | some (.FunctionDef _ a b _ _ _ sc _ _ _) => (a, b, sc)
  | _ => (⟨[], [], none, [], [], none, []⟩, [], ⟨.function, [], false, false, []⟩)
noncomputable def fA (i : Nat) : Arguments := (defAtI i).1
noncomputable def fB (i : Nat) : List Stmt := (defAtI i).2.1
noncomputable def fS (i : Nat) : Scope := (defAtI i).2.2
noncomputable def mthI (i j : Nat) : Arguments × List Stmt × Scope := match (behindTheImports pw)[i]? with
  | some (.ClassDef _ _ _ body _ _ _ _ _ _ _) => (match body[j]? with
    | some (.FunctionDef _ a b _ _ _ sc _ _ _) => (a, b, sc)
    | _ => (⟨[], [], none, [], [], none, []⟩, [], ⟨.function, [], false, false, []⟩))
  | _ => (⟨[], [], none, [], [], none, []⟩, [], ⟨.function, [], false, false, []⟩)
noncomputable def mA (i j : Nat) : Arguments := (mthI i j).1
noncomputable def mB (i j : Nat) : List Stmt := (mthI i j).2.1
noncomputable def mS (i j : Nat) : Scope := (mthI i j).2.2
noncomputable def o0I (P : Params) : Obj := ⟨(.type "dict"), .none, (.dict #[⟨(PySem.PyData.keyHash P (S "__name__")), (.str (S "__name__") 1), (.str (S "builtins") 160)⟩, ⟨(PySem.PyData.keyHash P (S "__doc__")), (.str (S "__doc__") 2), (.builtin "builtins.__doc__:str#opaque")⟩, ⟨(PySem.PyData.keyHash P (S "__package__")), (.str (S "__package__") 3), (.builtin "builtins.__package__:str#opaque")⟩, ⟨(PySem.PyData.keyHash P (S "__loader__")), (.str (S "__loader__") 4), (.builtin "builtins.__loader__:shared#opaque")⟩, ⟨(PySem.PyData.keyHash P (S "__spec__")), (.str (S "__spec__") 5), (.builtin "builtins.__spec__#opaque")⟩, ⟨(PySem.PyData.keyHash P (S "__build_class__")), (.str (S "__build_class__") 6), (.builtin "__build_class__")⟩, ⟨(PySem.PyData.keyHash P (S "__import__")), (.str (S "__import__") 7), (.builtin "__import__")⟩, ⟨(PySem.PyData.keyHash P (S "abs")), (.str (S "abs") 8), (.builtin "abs")⟩, ⟨(PySem.PyData.keyHash P (S "all")), (.str (S "all") 9), (.builtin "all")⟩, ⟨(PySem.PyData.keyHash P (S "any")), (.str (S "any") 10), (.builtin "any")⟩, ⟨(PySem.PyData.keyHash P (S "ascii")), (.str (S "ascii") 11), (.builtin "ascii")⟩, ⟨(PySem.PyData.keyHash P (S "bin")), (.str (S "bin") 12), (.builtin "bin")⟩, ⟨(PySem.PyData.keyHash P (S "breakpoint")), (.str (S "breakpoint") 13), (.builtin "breakpoint")⟩, ⟨(PySem.PyData.keyHash P (S "callable")), (.str (S "callable") 14), (.builtin "callable")⟩, ⟨(PySem.PyData.keyHash P (S "chr")), (.str (S "chr") 15), (.builtin "chr")⟩, ⟨(PySem.PyData.keyHash P (S "compile")), (.str (S "compile") 16), (.builtin "compile")⟩, ⟨(PySem.PyData.keyHash P (S "delattr")), (.str (S "delattr") 17), (.builtin "delattr")⟩, ⟨(PySem.PyData.keyHash P (S "dir")), (.str (S "dir") 18), (.builtin "dir")⟩, ⟨(PySem.PyData.keyHash P (S "divmod")), (.str (S "divmod") 19), (.builtin "divmod")⟩, ⟨(PySem.PyData.keyHash P (S "eval")), (.str (S "eval") 20), (.builtin "eval")⟩, ⟨(PySem.PyData.keyHash P (S "exec")), (.str (S "exec") 21), (.builtin "exec")⟩, ⟨(PySem.PyData.keyHash P (S "format")), (.str (S "format") 22), (.builtin "format")⟩, ⟨(PySem.PyData.keyHash P (S "getattr")), (.str (S "getattr") 23), (.builtin "getattr")⟩, ⟨(PySem.PyData.keyHash P (S "globals")), (.str (S "globals") 24), (.builtin "globals")⟩, ⟨(PySem.PyData.keyHash P (S "hasattr")), (.str (S "hasattr") 25), (.builtin "hasattr")⟩, ⟨(PySem.PyData.keyHash P (S "hash")), (.str (S "hash") 26), (.builtin "hash")⟩, ⟨(PySem.PyData.keyHash P (S "hex")), (.str (S "hex") 27), (.builtin "hex")⟩, ⟨(PySem.PyData.keyHash P (S "id")), (.str (S "id") 28), (.builtin "id")⟩, ⟨(PySem.PyData.keyHash P (S "input")), (.str (S "input") 29), (.builtin "input")⟩, ⟨(PySem.PyData.keyHash P (S "isinstance")), (.str (S "isinstance") 30), (.builtin "isinstance")⟩, ⟨(PySem.PyData.keyHash P (S "issubclass")), (.str (S "issubclass") 31), (.builtin "issubclass")⟩, ⟨(PySem.PyData.keyHash P (S "iter")), (.str (S "iter") 32), (.builtin "iter")⟩, ⟨(PySem.PyData.keyHash P (S "aiter")), (.str (S "aiter") 33), (.builtin "aiter")⟩, ⟨(PySem.PyData.keyHash P (S "len")), (.str (S "len") 34), (.builtin "len")⟩, ⟨(PySem.PyData.keyHash P (S "locals")), (.str (S "locals") 35), (.builtin "locals")⟩, ⟨(PySem.PyData.keyHash P (S "max")), (.str (S "max") 36), (.builtin "max")⟩, ⟨(PySem.PyData.keyHash P (S "min")), (.str (S "min") 37), (.builtin "min")⟩, ⟨(PySem.PyData.keyHash P (S "next")), (.str (S "next") 38), (.builtin "next")⟩, ⟨(PySem.PyData.keyHash P (S "anext")), (.str (S "anext") 39), (.builtin "anext")⟩, ⟨(PySem.PyData.keyHash P (S "oct")), (.str (S "oct") 40), (.builtin "oct")⟩, ⟨(PySem.PyData.keyHash P (S "ord")), (.str (S "ord") 41), (.builtin "ord")⟩, ⟨(PySem.PyData.keyHash P (S "pow")), (.str (S "pow") 42), (.builtin "pow")⟩, ⟨(PySem.PyData.keyHash P (S "print")), (.str (S "print") 43), (.builtin "print")⟩, ⟨(PySem.PyData.keyHash P (S "repr")), (.str (S "repr") 44), (.builtin "repr")⟩, ⟨(PySem.PyData.keyHash P (S "round")), (.str (S "round") 45), (.builtin "round")⟩, ⟨(PySem.PyData.keyHash P (S "setattr")), (.str (S "setattr") 46), (.builtin "setattr")⟩, ⟨(PySem.PyData.keyHash P (S "sorted")), (.str (S "sorted") 47), (.builtin "sorted")⟩, ⟨(PySem.PyData.keyHash P (S "sum")), (.str (S "sum") 48), (.builtin "sum")⟩, ⟨(PySem.PyData.keyHash P (S "vars")), (.str (S "vars") 49), (.builtin "vars")⟩, ⟨(PySem.PyData.keyHash P (S "None")), (.str (S "None") 50), .none⟩, ⟨(PySem.PyData.keyHash P (S "Ellipsis")), (.str (S "Ellipsis") 51), .ellipsis⟩, ⟨(PySem.PyData.keyHash P (S "NotImplemented")), (.str (S "NotImplemented") 52), .notImplemented⟩, ⟨(PySem.PyData.keyHash P (S "False")), (.str (S "False") 53), (.bool .false)⟩, ⟨(PySem.PyData.keyHash P (S "True")), (.str (S "True") 54), (.bool .true)⟩, ⟨(PySem.PyData.keyHash P (S "bool")), (.str (S "bool") 55), (.type "bool")⟩, ⟨(PySem.PyData.keyHash P (S "memoryview")), (.str (S "memoryview") 56), (.type "memoryview")⟩, ⟨(PySem.PyData.keyHash P (S "bytearray")), (.str (S "bytearray") 57), (.type "bytearray")⟩, ⟨(PySem.PyData.keyHash P (S "bytes")), (.str (S "bytes") 58), (.type "bytes")⟩, ⟨(PySem.PyData.keyHash P (S "classmethod")), (.str (S "classmethod") 59), (.type "classmethod")⟩, ⟨(PySem.PyData.keyHash P (S "complex")), (.str (S "complex") 60), (.type "complex")⟩, ⟨(PySem.PyData.keyHash P (S "dict")), (.str (S "dict") 61), (.type "dict")⟩, ⟨(PySem.PyData.keyHash P (S "enumerate")), (.str (S "enumerate") 62), (.type "enumerate")⟩, ⟨(PySem.PyData.keyHash P (S "filter")), (.str (S "filter") 63), (.type "filter")⟩, ⟨(PySem.PyData.keyHash P (S "float")), (.str (S "float") 64), (.type "float")⟩, ⟨(PySem.PyData.keyHash P (S "frozenset")), (.str (S "frozenset") 65), (.type "frozenset")⟩, ⟨(PySem.PyData.keyHash P (S "property")), (.str (S "property") 66), (.type "property")⟩, ⟨(PySem.PyData.keyHash P (S "int")), (.str (S "int") 67), (.type "int")⟩, ⟨(PySem.PyData.keyHash P (S "list")), (.str (S "list") 68), (.type "list")⟩, ⟨(PySem.PyData.keyHash P (S "map")), (.str (S "map") 69), (.type "map")⟩, ⟨(PySem.PyData.keyHash P (S "object")), (.str (S "object") 70), (.type "object")⟩, ⟨(PySem.PyData.keyHash P (S "range")), (.str (S "range") 71), (.type "range")⟩, ⟨(PySem.PyData.keyHash P (S "reversed")), (.str (S "reversed") 72), (.type "reversed")⟩, ⟨(PySem.PyData.keyHash P (S "set")), (.str (S "set") 73), (.type "set")⟩, ⟨(PySem.PyData.keyHash P (S "slice")), (.str (S "slice") 74), (.type "slice")⟩, ⟨(PySem.PyData.keyHash P (S "staticmethod")), (.str (S "staticmethod") 75), (.type "staticmethod")⟩, ⟨(PySem.PyData.keyHash P (S "str")), (.str (S "str") 76), (.type "str")⟩, ⟨(PySem.PyData.keyHash P (S "super")), (.str (S "super") 77), (.type "super")⟩, ⟨(PySem.PyData.keyHash P (S "tuple")), (.str (S "tuple") 78), (.type "tuple")⟩, ⟨(PySem.PyData.keyHash P (S "type")), (.str (S "type") 79), (.type "type")⟩, ⟨(PySem.PyData.keyHash P (S "zip")), (.str (S "zip") 80), (.type "zip")⟩, ⟨(PySem.PyData.keyHash P (S "__debug__")), (.str (S "__debug__") 81), (.bool .true)⟩, ⟨(PySem.PyData.keyHash P (S "BaseException")), (.str (S "BaseException") 82), (.type "BaseException")⟩, ⟨(PySem.PyData.keyHash P (S "BaseExceptionGroup")), (.str (S "BaseExceptionGroup") 83), (.type "BaseExceptionGroup")⟩, ⟨(PySem.PyData.keyHash P (S "Exception")), (.str (S "Exception") 84), (.type "Exception")⟩, ⟨(PySem.PyData.keyHash P (S "GeneratorExit")), (.str (S "GeneratorExit") 85), (.type "GeneratorExit")⟩, ⟨(PySem.PyData.keyHash P (S "KeyboardInterrupt")), (.str (S "KeyboardInterrupt") 86), (.type "KeyboardInterrupt")⟩, ⟨(PySem.PyData.keyHash P (S "SystemExit")), (.str (S "SystemExit") 87), (.type "SystemExit")⟩, ⟨(PySem.PyData.keyHash P (S "ArithmeticError")), (.str (S "ArithmeticError") 88), (.type "ArithmeticError")⟩, ⟨(PySem.PyData.keyHash P (S "AssertionError")), (.str (S "AssertionError") 89), (.type "AssertionError")⟩, ⟨(PySem.PyData.keyHash P (S "AttributeError")), (.str (S "AttributeError") 90), (.type "AttributeError")⟩, ⟨(PySem.PyData.keyHash P (S "BufferError")), (.str (S "BufferError") 91), (.type "BufferError")⟩, ⟨(PySem.PyData.keyHash P (S "EOFError")), (.str (S "EOFError") 92), (.type "EOFError")⟩, ⟨(PySem.PyData.keyHash P (S "ImportError")), (.str (S "ImportError") 93), (.type "ImportError")⟩, ⟨(PySem.PyData.keyHash P (S "LookupError")), (.str (S "LookupError") 94), (.type "LookupError")⟩, ⟨(PySem.PyData.keyHash P (S "MemoryError")), (.str (S "MemoryError") 95), (.type "MemoryError")⟩, ⟨(PySem.PyData.keyHash P (S "NameError")), (.str (S "NameError") 96), (.type "NameError")⟩, ⟨(PySem.PyData.keyHash P (S "OSError")), (.str (S "OSError") 97), (.type "OSError")⟩, ⟨(PySem.PyData.keyHash P (S "ReferenceError")), (.str (S "ReferenceError") 98), (.type "ReferenceError")⟩, ⟨(PySem.PyData.keyHash P (S "RuntimeError")), (.str (S "RuntimeError") 99), (.type "RuntimeError")⟩, ⟨(PySem.PyData.keyHash P (S "StopAsyncIteration")), (.str (S "StopAsyncIteration") 100), (.type "StopAsyncIteration")⟩, ⟨(PySem.PyData.keyHash P (S "StopIteration")), (.str (S "StopIteration") 101), (.type "StopIteration")⟩, ⟨(PySem.PyData.keyHash P (S "SyntaxError")), (.str (S "SyntaxError") 102), (.type "SyntaxError")⟩, ⟨(PySem.PyData.keyHash P (S "SystemError")), (.str (S "SystemError") 103), (.type "SystemError")⟩, ⟨(PySem.PyData.keyHash P (S "TypeError")), (.str (S "TypeError") 104), (.type "TypeError")⟩, ⟨(PySem.PyData.keyHash P (S "ValueError")), (.str (S "ValueError") 105), (.type "ValueError")⟩, ⟨(PySem.PyData.keyHash P (S "Warning")), (.str (S "Warning") 106), (.type "Warning")⟩, ⟨(PySem.PyData.keyHash P (S "FloatingPointError")), (.str (S "FloatingPointError") 107), (.type "FloatingPointError")⟩, ⟨(PySem.PyData.keyHash P (S "OverflowError")), (.str (S "OverflowError") 108), (.type "OverflowError")⟩, ⟨(PySem.PyData.keyHash P (S "ZeroDivisionError")), (.str (S "ZeroDivisionError") 109), (.type "ZeroDivisionError")⟩, ⟨(PySem.PyData.keyHash P (S "BytesWarning")), (.str (S "BytesWarning") 110), (.type "BytesWarning")⟩, ⟨(PySem.PyData.keyHash P (S "DeprecationWarning")), (.str (S "DeprecationWarning") 111), (.type "DeprecationWarning")⟩, ⟨(PySem.PyData.keyHash P (S "EncodingWarning")), (.str (S "EncodingWarning") 112), (.type "EncodingWarning")⟩, ⟨(PySem.PyData.keyHash P (S "FutureWarning")), (.str (S "FutureWarning") 113), (.type "FutureWarning")⟩, ⟨(PySem.PyData.keyHash P (S "ImportWarning")), (.str (S "ImportWarning") 114), (.type "ImportWarning")⟩, ⟨(PySem.PyData.keyHash P (S "PendingDeprecationWarning")), (.str (S "PendingDeprecationWarning") 115), (.type "PendingDeprecationWarning")⟩, ⟨(PySem.PyData.keyHash P (S "ResourceWarning")), (.str (S "ResourceWarning") 116), (.type "ResourceWarning")⟩, ⟨(PySem.PyData.keyHash P (S "RuntimeWarning")), (.str (S "RuntimeWarning") 117), (.type "RuntimeWarning")⟩, ⟨(PySem.PyData.keyHash P (S "SyntaxWarning")), (.str (S "SyntaxWarning") 118), (.type "SyntaxWarning")⟩, ⟨(PySem.PyData.keyHash P (S "UnicodeWarning")), (.str (S "UnicodeWarning") 119), (.type "UnicodeWarning")⟩, ⟨(PySem.PyData.keyHash P (S "UserWarning")), (.str (S "UserWarning") 120), (.type "UserWarning")⟩, ⟨(PySem.PyData.keyHash P (S "BlockingIOError")), (.str (S "BlockingIOError") 121), (.type "BlockingIOError")⟩, ⟨(PySem.PyData.keyHash P (S "ChildProcessError")), (.str (S "ChildProcessError") 122), (.type "ChildProcessError")⟩, ⟨(PySem.PyData.keyHash P (S "ConnectionError")), (.str (S "ConnectionError") 123), (.type "ConnectionError")⟩, ⟨(PySem.PyData.keyHash P (S "FileExistsError")), (.str (S "FileExistsError") 124), (.type "FileExistsError")⟩, ⟨(PySem.PyData.keyHash P (S "FileNotFoundError")), (.str (S "FileNotFoundError") 125), (.type "FileNotFoundError")⟩, ⟨(PySem.PyData.keyHash P (S "InterruptedError")), (.str (S "InterruptedError") 126), (.type "InterruptedError")⟩, ⟨(PySem.PyData.keyHash P (S "IsADirectoryError")), (.str (S "IsADirectoryError") 127), (.type "IsADirectoryError")⟩, ⟨(PySem.PyData.keyHash P (S "NotADirectoryError")), (.str (S "NotADirectoryError") 128), (.type "NotADirectoryError")⟩, ⟨(PySem.PyData.keyHash P (S "PermissionError")), (.str (S "PermissionError") 129), (.type "PermissionError")⟩, ⟨(PySem.PyData.keyHash P (S "ProcessLookupError")), (.str (S "ProcessLookupError") 130), (.type "ProcessLookupError")⟩, ⟨(PySem.PyData.keyHash P (S "TimeoutError")), (.str (S "TimeoutError") 131), (.type "TimeoutError")⟩, ⟨(PySem.PyData.keyHash P (S "IndentationError")), (.str (S "IndentationError") 132), (.type "IndentationError")⟩, ⟨(PySem.PyData.keyHash P (S "_IncompleteInputError")), (.str (S "_IncompleteInputError") 133), (.type "_IncompleteInputError")⟩, ⟨(PySem.PyData.keyHash P (S "IndexError")), (.str (S "IndexError") 134), (.type "IndexError")⟩, ⟨(PySem.PyData.keyHash P (S "KeyError")), (.str (S "KeyError") 135), (.type "KeyError")⟩, ⟨(PySem.PyData.keyHash P (S "ModuleNotFoundError")), (.str (S "ModuleNotFoundError") 136), (.type "ModuleNotFoundError")⟩, ⟨(PySem.PyData.keyHash P (S "NotImplementedError")), (.str (S "NotImplementedError") 137), (.type "NotImplementedError")⟩, ⟨(PySem.PyData.keyHash P (S "PythonFinalizationError")), (.str (S "PythonFinalizationError") 138), (.type "PythonFinalizationError")⟩, ⟨(PySem.PyData.keyHash P (S "RecursionError")), (.str (S "RecursionError") 139), (.type "RecursionError")⟩, ⟨(PySem.PyData.keyHash P (S "UnboundLocalError")), (.str (S "UnboundLocalError") 140), (.type "UnboundLocalError")⟩, ⟨(PySem.PyData.keyHash P (S "UnicodeError")), (.str (S "UnicodeError") 141), (.type "UnicodeError")⟩, ⟨(PySem.PyData.keyHash P (S "BrokenPipeError")), (.str (S "BrokenPipeError") 142), (.type "BrokenPipeError")⟩, ⟨(PySem.PyData.keyHash P (S "ConnectionAbortedError")), (.str (S "ConnectionAbortedError") 143), (.type "ConnectionAbortedError")⟩, ⟨(PySem.PyData.keyHash P (S "ConnectionRefusedError")), (.str (S "ConnectionRefusedError") 144), (.type "ConnectionRefusedError")⟩, ⟨(PySem.PyData.keyHash P (S "ConnectionResetError")), (.str (S "ConnectionResetError") 145), (.type "ConnectionResetError")⟩, ⟨(PySem.PyData.keyHash P (S "TabError")), (.str (S "TabError") 146), (.type "TabError")⟩, ⟨(PySem.PyData.keyHash P (S "UnicodeDecodeError")), (.str (S "UnicodeDecodeError") 147), (.type "UnicodeDecodeError")⟩, ⟨(PySem.PyData.keyHash P (S "UnicodeEncodeError")), (.str (S "UnicodeEncodeError") 148), (.type "UnicodeEncodeError")⟩, ⟨(PySem.PyData.keyHash P (S "UnicodeTranslateError")), (.str (S "UnicodeTranslateError") 149), (.type "UnicodeTranslateError")⟩, ⟨(PySem.PyData.keyHash P (S "ExceptionGroup")), (.str (S "ExceptionGroup") 150), (.type "ExceptionGroup")⟩, ⟨(PySem.PyData.keyHash P (S "EnvironmentError")), (.str (S "EnvironmentError") 151), (.type "OSError")⟩, ⟨(PySem.PyData.keyHash P (S "IOError")), (.str (S "IOError") 152), (.type "OSError")⟩, ⟨(PySem.PyData.keyHash P (S "open")), (.str (S "open") 153), (.builtin "open")⟩, ⟨(PySem.PyData.keyHash P (S "quit")), (.str (S "quit") 154), (.builtin "builtins.quit#opaque")⟩, ⟨(PySem.PyData.keyHash P (S "exit")), (.str (S "exit") 155), (.builtin "builtins.exit#opaque")⟩, ⟨(PySem.PyData.keyHash P (S "copyright")), (.str (S "copyright") 156), (.builtin "builtins.copyright#opaque")⟩, ⟨(PySem.PyData.keyHash P (S "credits")), (.str (S "credits") 157), (.builtin "builtins.credits#opaque")⟩, ⟨(PySem.PyData.keyHash P (S "license")), (.str (S "license") 158), (.builtin "builtins.license#opaque")⟩, ⟨(PySem.PyData.keyHash P (S "help")), (.str (S "help") 159), (.builtin "builtins.help#opaque")⟩] 159), #[]⟩
noncomputable def o1I (P : Params) : Obj := ⟨(.type "dict"), .none, (.dict #[⟨(PySem.PyData.keyHash P (S "builtins")), (.str (S "builtins") 162), (.ref 4)⟩, ⟨(PySem.PyData.keyHash P (S "__main__")), (.str (S "__main__") 163), (.ref 5)⟩, ⟨(PySem.PyData.keyHash P (S "_sre")), (.str (S "_sre") 244), (.ref 12)⟩, ⟨(PySem.PyData.keyHash P (S "_collections")), (.str (S "_collections") 292), (.ref 30)⟩] 4), #[]⟩
noncomputable def o2I (P : Params) : Obj := ⟨.none, .none, (.dict #[⟨(PySem.PyData.keyHash P (S "\x69mport.loaded._sre")), (.str (S "\x69mport.loaded._sre") 183), (.bool .true)⟩, ⟨(PySem.PyData.keyHash P (S "class._frozen_importlib.BuiltinImporter")), (.str (S "class._frozen_importlib.BuiltinImporter") 185), (.ref 14)⟩, ⟨(PySem.PyData.keyHash P (S "watched.\x69mport")), (.str (S "watched.\x69mport") 206), (.ref 18)⟩, ⟨(PySem.PyData.keyHash P (S "class._frozen_importlib.ModuleSpec")), (.str (S "class._frozen_importlib.ModuleSpec") 216), (.ref 22)⟩, ⟨(PySem.PyData.keyHash P (S "sys.modules.booked-epoch")), (.str (S "sys.modules.booked-epoch") 245), (.int 4 0)⟩, ⟨(PySem.PyData.keyHash P (S "\x69mport.later-laid._sre")), (.str (S "\x69mport.later-laid._sre") 270), (.bool .true)⟩, ⟨(PySem.PyData.keyHash P (S "watched.library")), (.str (S "watched.library") 272), (.ref 27)⟩, ⟨(PySem.PyData.keyHash P (S "watched.library-objects")), (.str (S "watched.library-objects") 0), (.str (S "\x0c\x1e") 0)⟩, ⟨(PySem.PyData.keyHash P (S "watched.library-deep._sre")), (.str (S "watched.library-deep._sre") 273), (.str (S "\x04\x00\x00\x0b\x04\x00\x00\x0b\x04\x00\x00\x03\x04\x00\x00\x0b\x08\x04dict\x02") 0)⟩, ⟨(PySem.PyData.keyHash P (S "\x69mport.loaded._collections")), (.str (S "\x69mport.loaded._collections") 280), (.bool .true)⟩, ⟨(PySem.PyData.keyHash P (S "sys.modules.landed._collections")), (.str (S "sys.modules.landed._collections") 294), (.bool .true)⟩, ⟨(PySem.PyData.keyHash P (S "\x69mport.later-laid._collections")), (.str (S "\x69mport.later-laid._collections") 309), (.bool .true)⟩, ⟨(PySem.PyData.keyHash P (S "watched.library-deep._collections")), (.str (S "watched.library-deep._collections") 311), (.str (S "\x04\x00\x00\x1d\x04\x00\x00\x1d\x04\x00\x00\x03\x04\x00\x00\x1d\x08\x04dict\x02") 0)⟩] 13), #[]⟩
noncomputable def o3I (P : Params) : Obj := ⟨(.type "dict"), .none, (.dict #[⟨(PySem.PyData.keyHash P (S "__name__")), (.str (S "__name__") 165), (.str (S "__main__") 164)⟩, ⟨(PySem.PyData.keyHash P (S "__doc__")), (.str (S "__doc__") 166), .none⟩, ⟨(PySem.PyData.keyHash P (S "__package__")), (.str (S "__package__") 167), .none⟩, ⟨(PySem.PyData.keyHash P (S "__loader__")), (.str (S "__loader__") 168), (.builtin "__main__.__loader__#opaque")⟩, ⟨(PySem.PyData.keyHash P (S "__spec__")), (.str (S "__spec__") 169), .none⟩, ⟨(PySem.PyData.keyHash P (S "__annotations__")), (.str (S "__annotations__") 170), (.ref 6)⟩, ⟨(PySem.PyData.keyHash P (S "__builtins__")), (.str (S "__builtins__") 171), (.ref 4)⟩, ⟨(PySem.PyData.keyHash P (S "__file__")), (.str (S "__file__") 173), (.str (S "/claim/cut.py") 172)⟩, ⟨(PySem.PyData.keyHash P (S "__cached__")), (.str (S "__cached__") 174), .none⟩, ⟨(PySem.PyData.keyHash P (S "_sre")), (.str (S "_sre") 275), (.ref 12)⟩, ⟨(PySem.PyData.keyHash P (S "deque")), (.str (S "deque") 317), (.type "collections.deque")⟩] 11), #[]⟩
noncomputable def o4I (P : Params) : Obj := ⟨(.type "module"), (.some 0), .plain, #[]⟩
noncomputable def o5I (P : Params) : Obj := ⟨(.type "module"), (.some 3), .plain, #[]⟩
noncomputable def o6I (P : Params) : Obj := ⟨(.type "dict"), .none, (.dict #[] 0), #[]⟩
noncomputable def o7I (P : Params) : Obj := ⟨(.type "tuple"), .none, (.seq #[] 0), #[]⟩
noncomputable def o8I (P : Params) : Obj := ⟨.none, .none, (.fields #[]), #[]⟩
noncomputable def o9I (P : Params) : Obj := ⟨(.type "code"), .none, (.fields #[(.str (S "<module>") 176), (.str (S "<module>") 177), (.str (S "/claim/cut.py") 178), (.int 1 0), (.int 0 0), (.int 0 0), (.int 0 0), (.int 0 0), (.ref 7), (.bool .false), (.int 175 0), (.ref 8), .none, .none, .none, .none, (.int 179 0), (.int 1 0), (.str (S "/claim/cut.py") 180)]), #[]⟩
noncomputable def o10I (P : Params) : Obj := ⟨(.type "frame"), .none, .plain, #[(.some (.ref 9)), (.some (.ref 3)), (.some (.ref 3)), .none, (.some (.str (S "__main__") 164)), .none, (.some (.ref 0))]⟩
noncomputable def o11I (P : Params) : Obj := ⟨(.type "dict"), .none, (.dict #[⟨(PySem.PyData.keyHash P (S "__name__")), (.str (S "__name__") 247), (.str (S "_sre") 246)⟩, ⟨(PySem.PyData.keyHash P (S "__doc__")), (.str (S "__doc__") 248), .none⟩, ⟨(PySem.PyData.keyHash P (S "__package__")), (.str (S "__package__") 250), (.str (S "") 249)⟩, ⟨(PySem.PyData.keyHash P (S "__loader__")), (.str (S "__loader__") 251), (.ref 14)⟩, ⟨(PySem.PyData.keyHash P (S "__spec__")), (.str (S "__spec__") 252), (.ref 26)⟩, ⟨(PySem.PyData.keyHash P (S "compile")), (.str (S "compile") 253), (.builtin "_sre.compile")⟩, ⟨(PySem.PyData.keyHash P (S "template")), (.str (S "template") 254), (.builtin "_sre.template")⟩, ⟨(PySem.PyData.keyHash P (S "getcodesize")), (.str (S "getcodesize") 255), (.builtin "_sre.getcodesize")⟩, ⟨(PySem.PyData.keyHash P (S "ascii_iscased")), (.str (S "ascii_iscased") 256), (.builtin "_sre.ascii_iscased")⟩, ⟨(PySem.PyData.keyHash P (S "unicode_iscased")), (.str (S "unicode_iscased") 257), (.builtin "_sre.unicode_iscased")⟩, ⟨(PySem.PyData.keyHash P (S "ascii_tolower")), (.str (S "ascii_tolower") 258), (.builtin "_sre.ascii_tolower")⟩, ⟨(PySem.PyData.keyHash P (S "unicode_tolower")), (.str (S "unicode_tolower") 259), (.builtin "_sre.unicode_tolower")⟩, ⟨(PySem.PyData.keyHash P (S "MAGIC")), (.str (S "MAGIC") 261), (.int 20230612 260)⟩, ⟨(PySem.PyData.keyHash P (S "CODESIZE")), (.str (S "CODESIZE") 263), (.int 4 262)⟩, ⟨(PySem.PyData.keyHash P (S "MAXREPEAT")), (.str (S "MAXREPEAT") 265), (.int 4294967295 264)⟩, ⟨(PySem.PyData.keyHash P (S "MAXGROUPS")), (.str (S "MAXGROUPS") 267), (.int 1073741823 266)⟩, ⟨(PySem.PyData.keyHash P (S "copyright")), (.str (S "copyright") 269), (.str (S " SRE 2.2.2 Copyright (c) 1997-2002 by Secret Labs AB ") 268)⟩] 17), #[]⟩
noncomputable def o12I (P : Params) : Obj := ⟨(.type "module"), (.some 11), .plain, #[]⟩
noncomputable def o13I (P : Params) : Obj := ⟨(.type "dict"), .none, (.dict #[⟨(PySem.PyData.keyHash P (S "__module__")), (.str (S "__module__") 189), (.str (S "_frozen_importlib") 186)⟩, ⟨(PySem.PyData.keyHash P (S "__firstlineno__")), (.str (S "__firstlineno__") 190), (.int 971 187)⟩, ⟨(PySem.PyData.keyHash P (S "__doc__")), (.str (S "__doc__") 191), (.builtin "_frozen_importlib.BuiltinImporter.__doc__:str#opaque")⟩, ⟨(PySem.PyData.keyHash P (S "_ORIGIN")), (.str (S "_ORIGIN") 192), (.str (S "built-in") 188)⟩, ⟨(PySem.PyData.keyHash P (S "find_spec")), (.str (S "find_spec") 193), (.builtin "_frozen_importlib.BuiltinImporter.find_spec#opaque")⟩, ⟨(PySem.PyData.keyHash P (S "create_module")), (.str (S "create_module") 194), (.builtin "_frozen_importlib.BuiltinImporter.create_module#opaque")⟩, ⟨(PySem.PyData.keyHash P (S "exec_module")), (.str (S "exec_module") 195), (.builtin "_frozen_importlib.BuiltinImporter.exec_module#opaque")⟩, ⟨(PySem.PyData.keyHash P (S "get_code")), (.str (S "get_code") 196), (.builtin "_frozen_importlib.BuiltinImporter.get_code#opaque")⟩, ⟨(PySem.PyData.keyHash P (S "get_source")), (.str (S "get_source") 197), (.builtin "_frozen_importlib.BuiltinImporter.get_source#opaque")⟩, ⟨(PySem.PyData.keyHash P (S "is_package")), (.str (S "is_package") 198), (.builtin "_frozen_importlib.BuiltinImporter.is_package#opaque")⟩, ⟨(PySem.PyData.keyHash P (S "load_module")), (.str (S "load_module") 199), (.builtin "_frozen_importlib.BuiltinImporter.load_module#opaque")⟩, ⟨(PySem.PyData.keyHash P (S "__static_attributes__")), (.str (S "__static_attributes__") 200), (.ref 15)⟩, ⟨(PySem.PyData.keyHash P (S "__dict__")), (.str (S "__dict__") 202), (.ref 16)⟩, ⟨(PySem.PyData.keyHash P (S "__weakref__")), (.str (S "__weakref__") 204), (.ref 17)⟩] 14), #[]⟩
noncomputable def o14I (P : Params) : Obj := ⟨(.type "type"), .none, (.cls ⟨(S "BuiltinImporter"), [(.type "object")], [(.ref 14), (.type "object")], 13, (S "BuiltinImporter"), .true, [], [], .false, .none, .false⟩), #[]⟩
noncomputable def o15I (P : Params) : Obj := ⟨(.type "tuple"), .none, (.seq #[] 0), #[]⟩
noncomputable def o16I (P : Params) : Obj := ⟨(.type "getset_descriptor"), .none, (.fields #[(.str (S "__dict__") 201), (.ref 14), (.builtin "function.__dict__"), (.builtin "function.__dict__#set")]), #[]⟩
noncomputable def o17I (P : Params) : Obj := ⟨(.type "getset_descriptor"), .none, (.fields #[(.str (S "__weakref__") 203), (.ref 14), (.builtin "ExceptionGroup.__weakref__"), .none]), #[]⟩
noncomputable def o18I (P : Params) : Obj := ⟨.none, .none, (.seq #[(.int 13 0), (.str (S "\x06½\n__module__\x06º\x11_frozen_importlib\x06¾\x0f__firstlineno__\x04»\x00ϋ\x06¿\x07__doc__\t4_frozen_importlib.BuiltinImporter.__doc__:str#opaque\x06À\x07_ORIGIN\x06¼\x08built-in\x06Á\tfind_spec\t2_frozen_importlib.BuiltinImporter.find_spec#opaque\x06Â\x0dcreate_module\t6_frozen_importlib.BuiltinImporter.create_module#opaque\x06Ã\x0bexec_module\t4_frozen_importlib.BuiltinImporter.exec_module#opaque\x06Ä\x08get_code\t1_frozen_importlib.BuiltinImporter.get_code#opaque\x06Å\nget_source\t3_frozen_importlib.BuiltinImporter.get_source#opaque\x06Æ\nis_package\t3_frozen_importlib.BuiltinImporter.is_package#opaque\x06Ç\x0bload_module\t4_frozen_importlib.BuiltinImporter.load_module#opaque\x06È\x15__static_attributes__\x04\x00\x00\x0f\x06Ê\x08__dict__\x04\x00\x00\x10\x06Ì\x0b__weakref__\x04\x00\x00\x11") 0), (.bool .true), (.bool .true), (.str (S "") 205), (.int 21 0), (.str (S "\x06ã\n__module__\x06Ù\x11_frozen_importlib\x06ä\x0f__firstlineno__\x04Ú\x00Ȳ\x06å\x07__doc__\t/_frozen_importlib.ModuleSpec.__doc__:str#opaque\x06æ\x08__init__\t,_frozen_importlib.ModuleSpec.__init__#opaque\x06ç\x08__repr__\t,_frozen_importlib.ModuleSpec.__repr__#opaque\x06è\x06__eq__\t*_frozen_importlib.ModuleSpec.__eq__#opaque\x06é\x06cached\t*_frozen_importlib.ModuleSpec.cached#opaque\x06ê\x06parent\t*_frozen_importlib.ModuleSpec.parent#opaque\x06ë\x0chas_location\t0_frozen_importlib.ModuleSpec.has_location#opaque\x06ì\x15__static_attributes__\x04\x00\x00\x17\x06î\x08__dict__\x04\x00\x00\x18\x06ð\x0b__weakref__\x04\x00\x00\x19\x06ñ\x08__hash__\x00") 0), (.bool .true), (.bool .true), (.str (S "") 242)] 1), #[]⟩
noncomputable def o19I (P : Params) : Obj := ⟨(.type "list"), .none, (.seq #[] 0), #[]⟩
noncomputable def o20I (P : Params) : Obj := ⟨(.type "dict"), .none, (.dict #[⟨(PySem.PyData.keyHash P (S "name")), (.str (S "name") 208), (.str (S "_sre") 207)⟩, ⟨(PySem.PyData.keyHash P (S "loader")), (.str (S "loader") 209), (.ref 14)⟩, ⟨(PySem.PyData.keyHash P (S "origin")), (.str (S "origin") 210), (.str (S "built-in") 184)⟩, ⟨(PySem.PyData.keyHash P (S "loader_state")), (.str (S "loader_state") 211), .none⟩, ⟨(PySem.PyData.keyHash P (S "submodule_search_locations")), (.str (S "submodule_search_locations") 212), .none⟩, ⟨(PySem.PyData.keyHash P (S "_uninitialized_submodules")), (.str (S "_uninitialized_submodules") 213), (.ref 19)⟩, ⟨(PySem.PyData.keyHash P (S "_set_fileattr")), (.str (S "_set_fileattr") 214), (.bool .false)⟩, ⟨(PySem.PyData.keyHash P (S "_cached")), (.str (S "_cached") 215), .none⟩, ⟨(PySem.PyData.keyHash P (S "_initializing")), (.str (S "_initializing") 243), (.bool .false)⟩] 9), #[]⟩
noncomputable def o21I (P : Params) : Obj := ⟨(.type "dict"), .none, (.dict #[⟨(PySem.PyData.keyHash P (S "__module__")), (.str (S "__module__") 227), (.str (S "_frozen_importlib") 217)⟩, ⟨(PySem.PyData.keyHash P (S "__firstlineno__")), (.str (S "__firstlineno__") 228), (.int 562 218)⟩, ⟨(PySem.PyData.keyHash P (S "__doc__")), (.str (S "__doc__") 229), (.builtin "_frozen_importlib.ModuleSpec.__doc__:str#opaque")⟩, ⟨(PySem.PyData.keyHash P (S "__init__")), (.str (S "__init__") 230), (.builtin "_frozen_importlib.ModuleSpec.__init__#opaque")⟩, ⟨(PySem.PyData.keyHash P (S "__repr__")), (.str (S "__repr__") 231), (.builtin "_frozen_importlib.ModuleSpec.__repr__#opaque")⟩, ⟨(PySem.PyData.keyHash P (S "__eq__")), (.str (S "__eq__") 232), (.builtin "_frozen_importlib.ModuleSpec.__eq__#opaque")⟩, ⟨(PySem.PyData.keyHash P (S "cached")), (.str (S "cached") 233), (.builtin "_frozen_importlib.ModuleSpec.cached#opaque")⟩, ⟨(PySem.PyData.keyHash P (S "parent")), (.str (S "parent") 234), (.builtin "_frozen_importlib.ModuleSpec.parent#opaque")⟩, ⟨(PySem.PyData.keyHash P (S "has_location")), (.str (S "has_location") 235), (.builtin "_frozen_importlib.ModuleSpec.has_location#opaque")⟩, ⟨(PySem.PyData.keyHash P (S "__static_attributes__")), (.str (S "__static_attributes__") 236), (.ref 23)⟩, ⟨(PySem.PyData.keyHash P (S "__dict__")), (.str (S "__dict__") 238), (.ref 24)⟩, ⟨(PySem.PyData.keyHash P (S "__weakref__")), (.str (S "__weakref__") 240), (.ref 25)⟩, ⟨(PySem.PyData.keyHash P (S "__hash__")), (.str (S "__hash__") 241), .none⟩] 13), #[]⟩
noncomputable def o22I (P : Params) : Obj := ⟨(.type "type"), .none, (.cls ⟨(S "ModuleSpec"), [(.type "object")], [(.ref 22), (.type "object")], 21, (S "ModuleSpec"), .true, [], [], .false, .none, .false⟩), #[]⟩
noncomputable def o23I (P : Params) : Obj := ⟨(.type "tuple"), .none, (.seq #[(.str (S "_cached") 219), (.str (S "_set_fileattr") 220), (.str (S "_uninitialized_submodules") 221), (.str (S "loader") 222), (.str (S "loader_state") 223), (.str (S "name") 224), (.str (S "origin") 225), (.str (S "submodule_search_locations") 226)] 0), #[]⟩
noncomputable def o24I (P : Params) : Obj := ⟨(.type "getset_descriptor"), .none, (.fields #[(.str (S "__dict__") 237), (.ref 22), (.builtin "function.__dict__"), (.builtin "function.__dict__#set")]), #[]⟩
noncomputable def o25I (P : Params) : Obj := ⟨(.type "getset_descriptor"), .none, (.fields #[(.str (S "__weakref__") 239), (.ref 22), (.builtin "ExceptionGroup.__weakref__"), .none]), #[]⟩
noncomputable def o26I (P : Params) : Obj := ⟨(.ref 22), (.some 20), .plain, #[]⟩
noncomputable def o27I (P : Params) : Obj := ⟨.none, .none, (.seq #[(.int 11 0), (.str ⟨#[6, 247, 8, 95, 95, 110, 97, 109, 101, 95, 95, 6, 246, 4, 95, 115, 114, 101, 6, 248, 7, 95, 95, 100, 111, 99, 95, 95, 0, 6, 250, 11, 95, 95, 112, 97, 99, 107, 97, 103, 101, 95, 95, 6, 249, 0, 6, 251, 10, 95, 95, 108, 111, 97, 100, 101, 114, 95, 95, 4, 0, 0, 14, 6, 252, 8, 95, 95, 115, 112, 101, 99, 95, 95, 4, 0, 0, 26, 6, 253, 7, 99, 111, 109, 112, 105, 108, 101, 9, 12, 95, 115, 114, 101, 46, 99, 111, 109, 112, 105, 108, 101, 6, 254, 8, 116, 101, 109, 112, 108, 97, 116, 101, 9, 13, 95, 115, 114, 101, 46, 116, 101, 109, 112, 108, 97, 116, 101, 6, 255, 11, 103, 101, 116, 99, 111, 100, 101, 115, 105, 122, 101, 9, 16, 95, 115, 114, 101, 46, 103, 101, 116, 99, 111, 100, 101, 115, 105, 122, 101, 6, 256, 13, 97, 115, 99, 105, 105, 95, 105, 115, 99, 97, 115, 101, 100, 9, 18, 95, 115, 114, 101, 46, 97, 115, 99, 105, 105, 95, 105, 115, 99, 97, 115, 101, 100, 6, 257, 15, 117, 110, 105, 99, 111, 100, 101, 95, 105, 115, 99, 97, 115, 101, 100, 9, 20, 95, 115, 114, 101, 46, 117, 110, 105, 99, 111, 100, 101, 95, 105, 115, 99, 97, 115, 101, 100, 6, 258, 13, 97, 115, 99, 105, 105, 95, 116, 111, 108, 111, 119, 101, 114, 9, 18, 95, 115, 114, 101, 46, 97, 115, 99, 105, 105, 95, 116, 111, 108, 111, 119, 101, 114, 6, 259, 15, 117, 110, 105, 99, 111, 100, 101, 95, 116, 111, 108, 111, 119, 101, 114, 9, 20, 95, 115, 114, 101, 46, 117, 110, 105, 99, 111, 100, 101, 95, 116, 111, 108, 111, 119, 101, 114, 6, 261, 5, 77, 65, 71, 73, 67, 4, 260, 0, 20230612, 6, 263, 8, 67, 79, 68, 69, 83, 73, 90, 69, 4, 262, 0, 4, 6, 265, 9, 77, 65, 88, 82, 69, 80, 69, 65, 84, 4, 264, 0, 4294967295, 6, 267, 9, 77, 65, 88, 71, 82, 79, 85, 80, 83, 4, 266, 0, 1073741823, 6, 269, 9, 99, 111, 112, 121, 114, 105, 103, 104, 116, 6, 268, 53, 32, 83, 82, 69, 32, 50, 46, 50, 46, 50, 32, 67, 111, 112, 121, 114, 105, 103, 104, 116, 32, 40, 99, 41, 32, 49, 57, 57, 55, 45, 50, 48, 48, 50, 32, 98, 121, 32, 83, 101, 99, 114, 101, 116, 32, 76, 97, 98, 115, 32, 65, 66, 32]⟩ 0), (.bool .true), (.bool .false), (.str (S "_sre") 271), (.int 29 0), (.str (S "\x06Ĩ\x08__name__\x06ħ\x0c_collections\x06ĩ\x07__doc__\t\x1f_collections.__doc__:str#opaque\x06ī\x0b__package__\x06Ī\x00\x06Ĭ\n__loader__\x04\x00\x00\x0e\x06ĭ\x08__spec__\x04\x00\x00!\x06Į\x0f_count_elements\t\x1c_collections._count_elements\x06į\x05deque\x08\x11collections.deque\x06İ\x0bdefaultdict\x08\x17collections.defaultdict\x06ı\x0f_deque_iterator\x08\x1bcollections._deque_iterator\x06Ĳ\x17_deque_reverse_iterator\x08#collections._deque_reverse_iterator\x06ĳ\x0c_tuplegetter\x08\x18collections._tuplegetter\x06Ĵ\x0bOrderedDict\x08\x17collections.OrderedDict") 0), (.bool .true), (.bool .false), (.str (S "_collections") 310)] 1), #[]⟩
noncomputable def o28I (P : Params) : Obj := ⟨(.type "tuple"), .none, (.seq #[(.str (S "deque") 277)] 0), #[]⟩
noncomputable def o29I (P : Params) : Obj := ⟨(.type "dict"), .none, (.dict #[⟨(PySem.PyData.keyHash P (S "__name__")), (.str (S "__name__") 296), (.str (S "_collections") 295)⟩, ⟨(PySem.PyData.keyHash P (S "__doc__")), (.str (S "__doc__") 297), (.builtin "_collections.__doc__:str#opaque")⟩, ⟨(PySem.PyData.keyHash P (S "__package__")), (.str (S "__package__") 299), (.str (S "") 298)⟩, ⟨(PySem.PyData.keyHash P (S "__loader__")), (.str (S "__loader__") 300), (.ref 14)⟩, ⟨(PySem.PyData.keyHash P (S "__spec__")), (.str (S "__spec__") 301), (.ref 33)⟩, ⟨(PySem.PyData.keyHash P (S "_count_elements")), (.str (S "_count_elements") 302), (.builtin "_collections._count_elements")⟩, ⟨(PySem.PyData.keyHash P (S "deque")), (.str (S "deque") 303), (.type "collections.deque")⟩, ⟨(PySem.PyData.keyHash P (S "defaultdict")), (.str (S "defaultdict") 304), (.type "collections.defaultdict")⟩, ⟨(PySem.PyData.keyHash P (S "_deque_iterator")), (.str (S "_deque_iterator") 305), (.type "collections._deque_iterator")⟩, ⟨(PySem.PyData.keyHash P (S "_deque_reverse_iterator")), (.str (S "_deque_reverse_iterator") 306), (.type "collections._deque_reverse_iterator")⟩, ⟨(PySem.PyData.keyHash P (S "_tuplegetter")), (.str (S "_tuplegetter") 307), (.type "collections._tuplegetter")⟩, ⟨(PySem.PyData.keyHash P (S "OrderedDict")), (.str (S "OrderedDict") 308), (.type "collections.OrderedDict")⟩] 12), #[]⟩
noncomputable def o30I (P : Params) : Obj := ⟨(.type "module"), (.some 29), .plain, #[]⟩
noncomputable def o31I (P : Params) : Obj := ⟨(.type "list"), .none, (.seq #[] 0), #[]⟩
noncomputable def o32I (P : Params) : Obj := ⟨(.type "dict"), .none, (.dict #[⟨(PySem.PyData.keyHash P (S "name")), (.str (S "name") 283), (.str (S "_collections") 282)⟩, ⟨(PySem.PyData.keyHash P (S "loader")), (.str (S "loader") 284), (.ref 14)⟩, ⟨(PySem.PyData.keyHash P (S "origin")), (.str (S "origin") 285), (.str (S "built-in") 281)⟩, ⟨(PySem.PyData.keyHash P (S "loader_state")), (.str (S "loader_state") 286), .none⟩, ⟨(PySem.PyData.keyHash P (S "submodule_search_locations")), (.str (S "submodule_search_locations") 287), .none⟩, ⟨(PySem.PyData.keyHash P (S "_uninitialized_submodules")), (.str (S "_uninitialized_submodules") 288), (.ref 31)⟩, ⟨(PySem.PyData.keyHash P (S "_set_fileattr")), (.str (S "_set_fileattr") 289), (.bool .false)⟩, ⟨(PySem.PyData.keyHash P (S "_cached")), (.str (S "_cached") 290), .none⟩, ⟨(PySem.PyData.keyHash P (S "_initializing")), (.str (S "_initializing") 291), (.bool .false)⟩] 9), #[]⟩
noncomputable def o33I (P : Params) : Obj := ⟨(.ref 22), (.some 32), .plain, #[]⟩
noncomputable def treeI (P : Params) : BT := (N (o0I P) (N (o1I P) (N (o3I P) (N (o7I P) (N (o15I P) (N (o31I P) E E) E) (N (o23I P) E E)) (N (o11I P) (N (o19I P) E E) (N (o27I P) E E))) (N (o5I P) (N (o9I P) (N (o17I P) (N (o33I P) E E) E) (N (o25I P) E E)) (N (o13I P) (N (o21I P) E E) (N (o29I P) E E)))) (N (o2I P) (N (o4I P) (N (o8I P) (N (o16I P) (N (o32I P) E E) E) (N (o24I P) E E)) (N (o12I P) (N (o20I P) E E) (N (o28I P) E E))) (N (o6I P) (N (o10I P) (N (o18I P) E E) (N (o26I P) E E)) (N (o14I P) (N (o22I P) E E) (N (o30I P) E E)))))
-- state I: n 34 toks 318
noncomputable def o11Z (P : Params) : Obj := ⟨(.type "dict"), .none, (.dict #[⟨(PySem.PyData.keyHash P (S "__name__")), (.str (S "__name__") 247), (.str (S "_sre") 246)⟩, ⟨(PySem.PyData.keyHash P (S "__doc__")), (.str (S "__doc__") 248), .none⟩, ⟨(PySem.PyData.keyHash P (S "__package__")), (.str (S "__package__") 250), (.str (S "") 249)⟩, ⟨(PySem.PyData.keyHash P (S "__loader__")), (.str (S "__loader__") 251), (.builtin "off-the-table:_sre.__loader__:shared#opaque")⟩, ⟨(PySem.PyData.keyHash P (S "__spec__")), (.str (S "__spec__") 252), (.builtin "off-the-table:_sre.__spec__:shared#opaque")⟩, ⟨(PySem.PyData.keyHash P (S "compile")), (.str (S "compile") 253), (.builtin "_sre.compile")⟩, ⟨(PySem.PyData.keyHash P (S "template")), (.str (S "template") 254), (.builtin "off-the-table:_sre.template:shared#opaque")⟩, ⟨(PySem.PyData.keyHash P (S "getcodesize")), (.str (S "getcodesize") 255), (.builtin "off-the-table:_sre.getcodesize:shared#opaque")⟩, ⟨(PySem.PyData.keyHash P (S "ascii_iscased")), (.str (S "ascii_iscased") 256), (.builtin "off-the-table:_sre.ascii_iscased:shared#opaque")⟩, ⟨(PySem.PyData.keyHash P (S "unicode_iscased")), (.str (S "unicode_iscased") 257), (.builtin "off-the-table:_sre.unicode_iscased:shared#opaque")⟩, ⟨(PySem.PyData.keyHash P (S "ascii_tolower")), (.str (S "ascii_tolower") 258), (.builtin "off-the-table:_sre.ascii_tolower:shared#opaque")⟩, ⟨(PySem.PyData.keyHash P (S "unicode_tolower")), (.str (S "unicode_tolower") 259), (.builtin "off-the-table:_sre.unicode_tolower:shared#opaque")⟩, ⟨(PySem.PyData.keyHash P (S "MAGIC")), (.str (S "MAGIC") 261), (.int 20230612 260)⟩, ⟨(PySem.PyData.keyHash P (S "CODESIZE")), (.str (S "CODESIZE") 263), (.int 4 262)⟩, ⟨(PySem.PyData.keyHash P (S "MAXREPEAT")), (.str (S "MAXREPEAT") 265), (.int 4294967295 264)⟩, ⟨(PySem.PyData.keyHash P (S "MAXGROUPS")), (.str (S "MAXGROUPS") 267), (.int 1073741823 266)⟩, ⟨(PySem.PyData.keyHash P (S "copyright")), (.str (S "copyright") 269), (.str (S " SRE 2.2.2 Copyright (c) 1997-2002 by Secret Labs AB ") 268)⟩] 17), #[]⟩
noncomputable def o29Z (P : Params) : Obj := ⟨(.type "dict"), .none, (.dict #[⟨(PySem.PyData.keyHash P (S "__name__")), (.str (S "__name__") 296), (.str (S "_collections") 295)⟩, ⟨(PySem.PyData.keyHash P (S "__doc__")), (.str (S "__doc__") 297), (.builtin "off-the-table:_collections.__doc__:shared#opaque")⟩, ⟨(PySem.PyData.keyHash P (S "__package__")), (.str (S "__package__") 299), (.str (S "") 298)⟩, ⟨(PySem.PyData.keyHash P (S "__loader__")), (.str (S "__loader__") 300), (.builtin "off-the-table:_collections.__loader__:shared#opaque")⟩, ⟨(PySem.PyData.keyHash P (S "__spec__")), (.str (S "__spec__") 301), (.builtin "off-the-table:_collections.__spec__:shared#opaque")⟩, ⟨(PySem.PyData.keyHash P (S "_count_elements")), (.str (S "_count_elements") 302), (.builtin "_collections._count_elements")⟩, ⟨(PySem.PyData.keyHash P (S "deque")), (.str (S "deque") 303), (.type "collections.deque")⟩, ⟨(PySem.PyData.keyHash P (S "defaultdict")), (.str (S "defaultdict") 304), (.type "collections.defaultdict")⟩, ⟨(PySem.PyData.keyHash P (S "_deque_iterator")), (.str (S "_deque_iterator") 305), (.builtin "off-the-table:_collections._deque_iterator:shared#opaque")⟩, ⟨(PySem.PyData.keyHash P (S "_deque_reverse_iterator")), (.str (S "_deque_reverse_iterator") 306), (.builtin "off-the-table:_collections._deque_reverse_iterator:shared#opaque")⟩, ⟨(PySem.PyData.keyHash P (S "_tuplegetter")), (.str (S "_tuplegetter") 307), (.type "collections._tuplegetter")⟩, ⟨(PySem.PyData.keyHash P (S "OrderedDict")), (.str (S "OrderedDict") 308), (.type "collections.OrderedDict")⟩] 12), #[]⟩
noncomputable def treeZ (P : Params) : BT := (N (o0I P) (N (o1I P) (N (o3I P) (N (o7I P) (N (o15I P) (N (o31I P) E E) E) (N (o23I P) E E)) (N (o11Z P) (N (o19I P) E E) (N (o27I P) E E))) (N (o5I P) (N (o9I P) (N (o17I P) (N (o33I P) E E) E) (N (o25I P) E E)) (N (o13I P) (N (o21I P) E E) (N (o29Z P) E E)))) (N (o2I P) (N (o4I P) (N (o8I P) (N (o16I P) (N (o32I P) E E) E) (N (o24I P) E E)) (N (o12I P) (N (o20I P) E E) (N (o28I P) E E))) (N (o6I P) (N (o10I P) (N (o18I P) E E) (N (o26I P) E E)) (N (o14I P) (N (o22I P) E E) (N (o30I P) E E)))))
-- state Z: n 34 toks 318
noncomputable def o34P (P : Params) : Obj := ⟨(.type "tuple"), .none, (.seq #[] 0), #[]⟩
noncomputable def o35P (P : Params) : Obj := ⟨.none, .none, (.fields #[]), #[]⟩
noncomputable def o36P (P : Params) : Obj := ⟨(.type "code"), .none, (.fields #[(.str (S "<module>") 319), (.str (S "<module>") 320), (.str (S "/claim/cut.py") 321), (.int 1 0), (.int 0 0), (.int 0 0), (.int 0 0), (.int 0 0), (.ref 34), (.bool .false), (.int 318 0), (.ref 35), .none, .none, .none, .none, (.int 322 0), (.int 1 0), (.str (S "/claim/cut.py") 323)]), #[]⟩
noncomputable def o37P (P : Params) : Obj := ⟨(.type "frame"), .none, .plain, #[(.some (.ref 36)), (.some (.ref 3)), (.some (.ref 3)), .none, (.some (.str (S "__main__") 164)), .none, (.some (.ref 0))]⟩
noncomputable def treeP (P : Params) : BT := (N (o0I P) (N (o1I P) (N (o3I P) (N (o7I P) (N (o15I P) (N (o31I P) E E) E) (N (o23I P) E E)) (N (o11Z P) (N (o19I P) (N (o35P P) E E) E) (N (o27I P) E E))) (N (o5I P) (N (o9I P) (N (o17I P) (N (o33I P) E E) E) (N (o25I P) E E)) (N (o13I P) (N (o21I P) (N (o37P P) E E) E) (N (o29Z P) E E)))) (N (o2I P) (N (o4I P) (N (o8I P) (N (o16I P) (N (o32I P) E E) E) (N (o24I P) E E)) (N (o12I P) (N (o20I P) (N (o36P P) E E) E) (N (o28I P) E E))) (N (o6I P) (N (o10I P) (N (o18I P) (N (o34P P) E E) E) (N (o26I P) E E)) (N (o14I P) (N (o22I P) E E) (N (o30I P) E E)))))
-- state P: n 38 toks 324
noncomputable def o2A (P : Params) : Obj := ⟨.none, .none, (.dict #[⟨(PySem.PyData.keyHash P (S "\x69mport.loaded._sre")), (.str (S "\x69mport.loaded._sre") 183), (.bool .true)⟩, ⟨(PySem.PyData.keyHash P (S "class._frozen_importlib.BuiltinImporter")), (.str (S "class._frozen_importlib.BuiltinImporter") 185), (.ref 14)⟩, ⟨(PySem.PyData.keyHash P (S "watched.\x69mport")), (.str (S "watched.\x69mport") 206), (.ref 18)⟩, ⟨(PySem.PyData.keyHash P (S "class._frozen_importlib.ModuleSpec")), (.str (S "class._frozen_importlib.ModuleSpec") 216), (.ref 22)⟩, ⟨(PySem.PyData.keyHash P (S "sys.modules.booked-epoch")), (.str (S "sys.modules.booked-epoch") 245), (.int 4 0)⟩, ⟨(PySem.PyData.keyHash P (S "\x69mport.later-laid._sre")), (.str (S "\x69mport.later-laid._sre") 270), (.bool .true)⟩, ⟨(PySem.PyData.keyHash P (S "watched.library")), (.str (S "watched.library") 272), (.ref 27)⟩, ⟨(PySem.PyData.keyHash P (S "watched.library-objects")), (.str (S "watched.library-objects") 0), (.str (S "\x0c\x1e") 0)⟩, ⟨(PySem.PyData.keyHash P (S "watched.library-deep._sre")), (.str (S "watched.library-deep._sre") 273), (.str (S "\x04\x00\x00\x0b\x04\x00\x00\x0b\x04\x00\x00\x03\x04\x00\x00\x0b\x08\x04dict\x02") 0)⟩, ⟨(PySem.PyData.keyHash P (S "\x69mport.loaded._collections")), (.str (S "\x69mport.loaded._collections") 280), (.bool .true)⟩, ⟨(PySem.PyData.keyHash P (S "sys.modules.landed._collections")), (.str (S "sys.modules.landed._collections") 294), (.bool .true)⟩, ⟨(PySem.PyData.keyHash P (S "\x69mport.later-laid._collections")), (.str (S "\x69mport.later-laid._collections") 309), (.bool .true)⟩, ⟨(PySem.PyData.keyHash P (S "watched.library-deep._collections")), (.str (S "watched.library-deep._collections") 311), (.str (S "\x04\x00\x00\x1d\x04\x00\x00\x1d\x04\x00\x00\x03\x04\x00\x00\x1d\x08\x04dict\x02") 0)⟩, ⟨(PySem.PyData.keyHash P (S "type.__subclasses__.Exception.0")), (.str (S "type.__subclasses__.Exception.0") 349), (.int 54 0)⟩, ⟨(PySem.PyData.keyHash P (S "type.__subclasses__.Exception.n")), (.str (S "type.__subclasses__.Exception.n") 350), (.int 1 0)⟩] 15), #[]⟩
noncomputable def o3A (P : Params) : Obj := ⟨(.type "dict"), .none, (.dict #[⟨(PySem.PyData.keyHash P (S "__name__")), (.str (S "__name__") 165), (.str (S "re") 458)⟩, ⟨(PySem.PyData.keyHash P (S "__doc__")), (.str (S "__doc__") 166), .none⟩, ⟨(PySem.PyData.keyHash P (S "__package__")), (.str (S "__package__") 167), .none⟩, ⟨(PySem.PyData.keyHash P (S "__loader__")), (.str (S "__loader__") 168), (.builtin "__main__.__loader__#opaque")⟩, ⟨(PySem.PyData.keyHash P (S "__spec__")), (.str (S "__spec__") 169), .none⟩, ⟨(PySem.PyData.keyHash P (S "__annotations__")), (.str (S "__annotations__") 170), (.ref 6)⟩, ⟨(PySem.PyData.keyHash P (S "__builtins__")), (.str (S "__builtins__") 171), (.ref 4)⟩, ⟨(PySem.PyData.keyHash P (S "__file__")), (.str (S "__file__") 173), (.str (S "/claim/cut.py") 172)⟩, ⟨(PySem.PyData.keyHash P (S "__cached__")), (.str (S "__cached__") 174), .none⟩, ⟨(PySem.PyData.keyHash P (S "_sre")), (.str (S "_sre") 275), (.ref 12)⟩, ⟨(PySem.PyData.keyHash P (S "deque")), (.str (S "deque") 317), (.type "collections.deque")⟩, ⟨(PySem.PyData.keyHash P (S "_wall")), (.str (S "_wall") 330), (.ref 44)⟩, ⟨(PySem.PyData.keyHash P (S "Error")), (.str (S "Error") 352), (.ref 54)⟩, ⟨(PySem.PyData.keyHash P (S "error_reply")), (.str (S "error_reply") 368), (.ref 67)⟩, ⟨(PySem.PyData.keyHash P (S "error_proto")), (.str (S "error_proto") 384), (.ref 79)⟩, ⟨(PySem.PyData.keyHash P (S "parse229")), (.str (S "parse229") 397), (.ref 88)⟩, ⟨(PySem.PyData.keyHash P (S "parse257")), (.str (S "parse257") 408), (.ref 95)⟩, ⟨(PySem.PyData.keyHash P (S "twin_re_1_fnmatch")), (.str (S "twin_re_1_fnmatch") 448), (.ref 100)⟩, ⟨(PySem.PyData.keyHash P (S "translate")), (.str (S "translate") 457), (.ref 107)⟩] 19), #[]⟩
noncomputable def o35A (P : Params) : Obj := ⟨.none, .none, (.fields #[(.int 3 0), (.int 0 0), (.ref 43), (.int 7 0), (.int 0 0), (.ref 50), (.int 9 0), (.int 0 0), (.ref 63), (.int 11 0), (.int 0 0), (.ref 75), (.int 13 0), (.int 0 0), (.ref 87), (.int 30 0), (.int 0 0), (.ref 94), (.int 49 0), (.int 0 0), (.ref 106)]), #[]⟩
noncomputable def o38A (P : Params) : Obj := ⟨(.type "tuple"), .none, (.seq #[] 0), #[]⟩
noncomputable def o39A (P : Params) : Obj := ⟨.none, .none, (.fields #[]), #[]⟩
noncomputable def o40A (P : Params) : Obj := ⟨(.type "tuple"), .none, (.seq #[(.str (S "k") 327)] 0), #[]⟩
noncomputable def o41A (P : Params) : Obj := ⟨(.type "tuple"), .none, (.seq #[] 0), #[]⟩
noncomputable def o42A (P : Params) : Obj := ⟨.none, .none, (.func ⟨(S "_wall"), (S "_wall"), (fA 0), (.stmts (fB 0)), (fS 0), 0, [], .none, .none, .none, .none, .none, .none, .none, 0⟩), #[]⟩
noncomputable def o43A (P : Params) : Obj := ⟨(.type "code"), .none, (.fields #[(.str (S "_wall") 324), (.str (S "_wall") 325), (.str (S "/claim/cut.py") 326), (.int 3 0), (.int 1 0), (.int 0 0), (.int 0 0), (.int 3 0), (.ref 38), (.bool .true), (.int 318 0), (.ref 39), .none, (.ref 40), (.ref 41), (.ref 42), (.int 328 0), (.int 3 0), (.str (S "/claim/cut.py") 329)]), #[]⟩
noncomputable def o44A (P : Params) : Obj := ⟨(.type "function"), .none, (.func ⟨(S "_wall"), (S "_wall"), (fA 0), (.stmts (fB 0)), (fS 0), 3, [], .none, .none, .none, (.str (S "__main__") 164), .none, (.ref 43), .none, 0⟩), #[]⟩
noncomputable def o45A (P : Params) : Obj := ⟨(.type "tuple"), .none, (.seq #[(.type "Exception")] 0), #[]⟩
noncomputable def o46A (P : Params) : Obj := ⟨(.type "builtin_function_or_method"), .none, (.fields #[(.builtin "type.__prepare__"), (.type "type")]), #[]⟩
noncomputable def o47A (P : Params) : Obj := ⟨(.type "dict"), .none, (.dict #[⟨(PySem.PyData.keyHash P (S "__module__")), (.str (S "__module__") 340), (.str (S "cpy313.ftplib") 331)⟩, ⟨(PySem.PyData.keyHash P (S "__qualname__")), (.str (S "__qualname__") 342), (.str (S "Error") 341)⟩, ⟨(PySem.PyData.keyHash P (S "__firstlineno__")), (.str (S "__firstlineno__") 344), (.int 7 343)⟩, ⟨(PySem.PyData.keyHash P (S "__static_attributes__")), (.str (S "__static_attributes__") 345), (.ref 52)⟩] 4), #[]⟩
noncomputable def o48A (P : Params) : Obj := ⟨(.type "tuple"), .none, (.seq #[] 0), #[]⟩
noncomputable def o49A (P : Params) : Obj := ⟨.none, .none, (.fields #[]), #[]⟩
noncomputable def o50A (P : Params) : Obj := ⟨(.type "code"), .none, (.fields #[(.str (S "Error") 335), (.str (S "Error") 336), (.str (S "/claim/cut.py") 337), (.int 7 0), (.int 0 0), (.int 0 0), (.int 0 0), (.int 0 0), (.ref 48), (.bool .false), (.int 318 0), (.ref 49), .none, .none, .none, .none, (.int 338 0), (.int 7 0), (.str (S "/claim/cut.py") 339)]), #[]⟩
noncomputable def o51A (P : Params) : Obj := ⟨(.type "frame"), .none, .plain, #[(.some (.ref 50)), (.some (.ref 3)), (.some (.ref 47)), .none, (.some (.str (S "cpy313.ftplib") 331)), .none, (.some (.ref 0))]⟩
noncomputable def o52A (P : Params) : Obj := ⟨(.type "tuple"), .none, (.seq #[] 0), #[]⟩
noncomputable def o53A (P : Params) : Obj := ⟨(.type "dict"), .none, (.dict #[⟨(PySem.PyData.keyHash P (S "__module__")), (.str (S "__module__") 340), (.str (S "cpy313.ftplib") 331)⟩, ⟨(PySem.PyData.keyHash P (S "__firstlineno__")), (.str (S "__firstlineno__") 344), (.int 7 343)⟩, ⟨(PySem.PyData.keyHash P (S "__static_attributes__")), (.str (S "__static_attributes__") 345), (.ref 52)⟩, ⟨(PySem.PyData.keyHash P (S "__weakref__")), (.str (S "__weakref__") 347), (.ref 55)⟩, ⟨(PySem.PyData.keyHash P (S "__doc__")), (.str (S "__doc__") 348), .none⟩] 3), #[]⟩
noncomputable def o54A (P : Params) : Obj := ⟨(.type "type"), .none, (.cls ⟨(S "Error"), [(.type "Exception")], [(.ref 54), (.type "Exception"), (.type "BaseException"), (.type "object")], 53, (S "Error"), .true, [], [(.ref 67), (.ref 79)], .false, .none, .false⟩), #[(.some (.ref 45)), .none, (.some (.str (S "Error") 333)), (.some (.str (S "Error") 341)), (.some (.builtin "Exception.__new__")), (.some (.bool .true))]⟩
noncomputable def o55A (P : Params) : Obj := ⟨(.type "getset_descriptor"), .none, (.fields #[(.str (S "__weakref__") 346), (.ref 54), (.builtin "ExceptionGroup.__weakref__"), .none]), #[]⟩
noncomputable def o56A (P : Params) : Obj := ⟨(.type "super"), .none, (.fields #[(.ref 54), (.ref 54), (.ref 54)]), #[]⟩
noncomputable def o57A (P : Params) : Obj := ⟨(.type "builtin_function_or_method"), .none, (.fields #[(.builtin "object.__init_subclass__"), (.ref 54)]), #[]⟩
noncomputable def o58A (P : Params) : Obj := ⟨(.type "tuple"), .none, (.seq #[(.ref 54)] 0), #[]⟩
noncomputable def o59A (P : Params) : Obj := ⟨(.type "builtin_function_or_method"), .none, (.fields #[(.builtin "type.__prepare__"), (.type "type")]), #[]⟩
noncomputable def o60A (P : Params) : Obj := ⟨(.type "dict"), .none, (.dict #[⟨(PySem.PyData.keyHash P (S "__module__")), (.str (S "__module__") 360), (.str (S "cpy313.ftplib") 331)⟩, ⟨(PySem.PyData.keyHash P (S "__qualname__")), (.str (S "__qualname__") 362), (.str (S "error_reply") 361)⟩, ⟨(PySem.PyData.keyHash P (S "__firstlineno__")), (.str (S "__firstlineno__") 364), (.int 9 363)⟩, ⟨(PySem.PyData.keyHash P (S "__static_attributes__")), (.str (S "__static_attributes__") 365), (.ref 65)⟩] 4), #[]⟩
noncomputable def o61A (P : Params) : Obj := ⟨(.type "tuple"), .none, (.seq #[] 0), #[]⟩
noncomputable def o62A (P : Params) : Obj := ⟨.none, .none, (.fields #[]), #[]⟩
noncomputable def o63A (P : Params) : Obj := ⟨(.type "code"), .none, (.fields #[(.str (S "error_reply") 355), (.str (S "error_reply") 356), (.str (S "/claim/cut.py") 357), (.int 9 0), (.int 0 0), (.int 0 0), (.int 0 0), (.int 0 0), (.ref 61), (.bool .false), (.int 318 0), (.ref 62), .none, .none, .none, .none, (.int 358 0), (.int 9 0), (.str (S "/claim/cut.py") 359)]), #[]⟩
noncomputable def o64A (P : Params) : Obj := ⟨(.type "frame"), .none, .plain, #[(.some (.ref 63)), (.some (.ref 3)), (.some (.ref 60)), .none, (.some (.str (S "cpy313.ftplib") 331)), .none, (.some (.ref 0))]⟩
noncomputable def o65A (P : Params) : Obj := ⟨(.type "tuple"), .none, (.seq #[] 0), #[]⟩
noncomputable def o66A (P : Params) : Obj := ⟨(.type "dict"), .none, (.dict #[⟨(PySem.PyData.keyHash P (S "__module__")), (.str (S "__module__") 360), (.str (S "cpy313.ftplib") 331)⟩, ⟨(PySem.PyData.keyHash P (S "__firstlineno__")), (.str (S "__firstlineno__") 364), (.int 9 363)⟩, ⟨(PySem.PyData.keyHash P (S "__static_attributes__")), (.str (S "__static_attributes__") 365), (.ref 65)⟩, ⟨(PySem.PyData.keyHash P (S "__doc__")), (.str (S "__doc__") 366), .none⟩] 2), #[]⟩
noncomputable def o67A (P : Params) : Obj := ⟨(.type "type"), .none, (.cls ⟨(S "error_reply"), [(.ref 54)], [(.ref 67), (.ref 54), (.type "Exception"), (.type "BaseException"), (.type "object")], 66, (S "error_reply"), .true, [], [], .false, .none, .false⟩), #[(.some (.ref 58)), .none, (.some (.str (S "error_reply") 353)), (.some (.str (S "error_reply") 361)), (.some (.builtin "Exception.__new__")), (.some (.bool .true))]⟩
noncomputable def o68A (P : Params) : Obj := ⟨(.type "super"), .none, (.fields #[(.ref 67), (.ref 67), (.ref 67)]), #[]⟩
noncomputable def o69A (P : Params) : Obj := ⟨(.type "builtin_function_or_method"), .none, (.fields #[(.builtin "object.__init_subclass__"), (.ref 67)]), #[]⟩
noncomputable def o70A (P : Params) : Obj := ⟨(.type "tuple"), .none, (.seq #[(.ref 54)] 0), #[]⟩
noncomputable def o71A (P : Params) : Obj := ⟨(.type "builtin_function_or_method"), .none, (.fields #[(.builtin "type.__prepare__"), (.type "type")]), #[]⟩
noncomputable def o72A (P : Params) : Obj := ⟨(.type "dict"), .none, (.dict #[⟨(PySem.PyData.keyHash P (S "__module__")), (.str (S "__module__") 376), (.str (S "cpy313.ftplib") 331)⟩, ⟨(PySem.PyData.keyHash P (S "__qualname__")), (.str (S "__qualname__") 378), (.str (S "error_proto") 377)⟩, ⟨(PySem.PyData.keyHash P (S "__firstlineno__")), (.str (S "__firstlineno__") 380), (.int 11 379)⟩, ⟨(PySem.PyData.keyHash P (S "__static_attributes__")), (.str (S "__static_attributes__") 381), (.ref 77)⟩] 4), #[]⟩
noncomputable def o73A (P : Params) : Obj := ⟨(.type "tuple"), .none, (.seq #[] 0), #[]⟩
noncomputable def o74A (P : Params) : Obj := ⟨.none, .none, (.fields #[]), #[]⟩
noncomputable def o75A (P : Params) : Obj := ⟨(.type "code"), .none, (.fields #[(.str (S "error_proto") 371), (.str (S "error_proto") 372), (.str (S "/claim/cut.py") 373), (.int 11 0), (.int 0 0), (.int 0 0), (.int 0 0), (.int 0 0), (.ref 73), (.bool .false), (.int 318 0), (.ref 74), .none, .none, .none, .none, (.int 374 0), (.int 11 0), (.str (S "/claim/cut.py") 375)]), #[]⟩
noncomputable def o76A (P : Params) : Obj := ⟨(.type "frame"), .none, .plain, #[(.some (.ref 75)), (.some (.ref 3)), (.some (.ref 72)), .none, (.some (.str (S "cpy313.ftplib") 331)), .none, (.some (.ref 0))]⟩
noncomputable def o77A (P : Params) : Obj := ⟨(.type "tuple"), .none, (.seq #[] 0), #[]⟩
noncomputable def o78A (P : Params) : Obj := ⟨(.type "dict"), .none, (.dict #[⟨(PySem.PyData.keyHash P (S "__module__")), (.str (S "__module__") 376), (.str (S "cpy313.ftplib") 331)⟩, ⟨(PySem.PyData.keyHash P (S "__firstlineno__")), (.str (S "__firstlineno__") 380), (.int 11 379)⟩, ⟨(PySem.PyData.keyHash P (S "__static_attributes__")), (.str (S "__static_attributes__") 381), (.ref 77)⟩, ⟨(PySem.PyData.keyHash P (S "__doc__")), (.str (S "__doc__") 382), .none⟩] 2), #[]⟩
noncomputable def o79A (P : Params) : Obj := ⟨(.type "type"), .none, (.cls ⟨(S "error_proto"), [(.ref 54)], [(.ref 79), (.ref 54), (.type "Exception"), (.type "BaseException"), (.type "object")], 78, (S "error_proto"), .true, [], [], .false, .none, .false⟩), #[(.some (.ref 70)), .none, (.some (.str (S "error_proto") 369)), (.some (.str (S "error_proto") 377)), (.some (.builtin "Exception.__new__")), (.some (.bool .true))]⟩
noncomputable def o80A (P : Params) : Obj := ⟨(.type "super"), .none, (.fields #[(.ref 79), (.ref 79), (.ref 79)]), #[]⟩
noncomputable def o81A (P : Params) : Obj := ⟨(.type "builtin_function_or_method"), .none, (.fields #[(.builtin "object.__init_subclass__"), (.ref 79)]), #[]⟩
noncomputable def o82A (P : Params) : Obj := ⟨(.type "tuple"), .none, (.seq #[] 0), #[]⟩
noncomputable def o83A (P : Params) : Obj := ⟨.none, .none, (.fields #[]), #[]⟩
noncomputable def o84A (P : Params) : Obj := ⟨(.type "tuple"), .none, (.seq #[(.str (S "resp") 388), (.str (S "peer") 389), (.str (S "left") 390), (.str (S "right") 391), (.str (S "parts") 392), (.str (S "host") 393), (.str (S "port") 394)] 0), #[]⟩
noncomputable def o85A (P : Params) : Obj := ⟨(.type "tuple"), .none, (.seq #[] 0), #[]⟩
noncomputable def o86A (P : Params) : Obj := ⟨.none, .none, (.func ⟨(S "parse229"), (S "parse229"), (fA 5), (.stmts (fB 5)), (fS 5), 0, [], .none, .none, .none, .none, .none, .none, .none, 0⟩), #[]⟩
noncomputable def o87A (P : Params) : Obj := ⟨(.type "code"), .none, (.fields #[(.str (S "parse229") 385), (.str (S "parse229") 386), (.str (S "/claim/cut.py") 387), (.int 13 0), (.int 2 0), (.int 0 0), (.int 0 0), (.int 3 0), (.ref 82), (.bool .true), (.int 318 0), (.ref 83), .none, (.ref 84), (.ref 85), (.ref 86), (.int 395 0), (.int 13 0), (.str (S "/claim/cut.py") 396)]), #[]⟩
noncomputable def o88A (P : Params) : Obj := ⟨(.type "function"), .none, (.func ⟨(S "parse229"), (S "parse229"), (fA 5), (.stmts (fB 5)), (fS 5), 3, [], .none, .none, .none, (.str (S "cpy313.ftplib") 331), .none, (.ref 87), .none, 0⟩), #[]⟩
noncomputable def o89A (P : Params) : Obj := ⟨(.type "tuple"), .none, (.seq #[] 0), #[]⟩
noncomputable def o90A (P : Params) : Obj := ⟨.none, .none, (.fields #[]), #[]⟩
noncomputable def o91A (P : Params) : Obj := ⟨(.type "tuple"), .none, (.seq #[(.str (S "resp") 401), (.str (S "dirname") 402), (.str (S "i") 403), (.str (S "n") 404), (.str (S "c") 405)] 0), #[]⟩
noncomputable def o92A (P : Params) : Obj := ⟨(.type "tuple"), .none, (.seq #[] 0), #[]⟩
noncomputable def o93A (P : Params) : Obj := ⟨.none, .none, (.func ⟨(S "parse257"), (S "parse257"), (fA 6), (.stmts (fB 6)), (fS 6), 0, [], .none, .none, .none, .none, .none, .none, .none, 0⟩), #[]⟩
noncomputable def o94A (P : Params) : Obj := ⟨(.type "code"), .none, (.fields #[(.str (S "parse257") 398), (.str (S "parse257") 399), (.str (S "/claim/cut.py") 400), (.int 30 0), (.int 1 0), (.int 0 0), (.int 0 0), (.int 3 0), (.ref 89), (.bool .true), (.int 318 0), (.ref 90), .none, (.ref 91), (.ref 92), (.ref 93), (.int 406 0), (.int 30 0), (.str (S "/claim/cut.py") 407)]), #[]⟩
noncomputable def o95A (P : Params) : Obj := ⟨(.type "function"), .none, (.func ⟨(S "parse257"), (S "parse257"), (fA 6), (.stmts (fB 6)), (fS 6), 3, [], .none, .none, .none, (.str (S "cpy313.ftplib") 331), .none, (.ref 94), .none, 0⟩), #[]⟩
noncomputable def o96A (P : Params) : Obj := ⟨(.type "list"), .none, (.seq #[(.int 14 414), (.int 14 415), (.int 4 416), (.int 1 417), (.int 1 418), (.int 9 419), (.int 0 420), (.int 64 421), (.int 0 422), (.int 1342177280 423), (.int 0 424), (.int 0 425), (.int 0 426), (.int 0 427), (.int 0 428), (.int 17 429), (.int 0 430), (.int 13 431), (.int 11 432), (.int 9 433), (.int 0 434), (.int 64 435), (.int 0 436), (.int 1342177280 437), (.int 0 438), (.int 0 439), (.int 0 440), (.int 0 441), (.int 0 442), (.int 17 443), (.int 1 444), (.int 1 445)] 0), #[]⟩
noncomputable def o97A (P : Params) : Obj := ⟨(.type "dict"), .none, (.dict #[] 0), #[]⟩
noncomputable def o98A (P : Params) : Obj := ⟨(.type "tuple"), .none, (.seq #[.none, .none] 0), #[]⟩
noncomputable def o99A (P : Params) : Obj := ⟨(.type "tuple"), .none, (.seq #[(.int 14 0), (.int 14 0), (.int 4 0), (.int 1 0), (.int 1 0), (.int 9 0), (.int 0 0), (.int 64 0), (.int 0 0), (.int 1342177280 0), (.int 0 0), (.int 0 0), (.int 0 0), (.int 0 0), (.int 0 0), (.int 17 0), (.int 0 0), (.int 13 0), (.int 11 0), (.int 9 0), (.int 0 0), (.int 64 0), (.int 0 0), (.int 1342177280 0), (.int 0 0), (.int 0 0), (.int 0 0), (.int 0 0), (.int 0 0), (.int 17 0), (.int 1 0), (.int 1 0)] 0), #[]⟩
noncomputable def o100A (P : Params) : Obj := ⟨(.type "re.Pattern"), .none, (.fields #[(.str (S "([&~|])") 412), (.int 32 447), (.int 1 0), .none, .none, (.ref 99), (.int 0 0)]), #[]⟩
noncomputable def o101A (P : Params) : Obj := ⟨(.type "tuple"), .none, (.seq #[] 0), #[]⟩
noncomputable def o102A (P : Params) : Obj := ⟨.none, .none, (.fields #[]), #[]⟩
noncomputable def o103A (P : Params) : Obj := ⟨(.type "tuple"), .none, (.seq #[(.str (S "pat") 452), (.str (S "STAR") 453), (.str (S "parts") 454)] 0), #[]⟩
noncomputable def o104A (P : Params) : Obj := ⟨(.type "tuple"), .none, (.seq #[] 0), #[]⟩
noncomputable def o105A (P : Params) : Obj := ⟨.none, .none, (.func ⟨(S "translate"), (S "translate"), (fA 9), (.stmts (fB 9)), (fS 9), 0, [], .none, .none, .none, .none, .none, .none, .none, 0⟩), #[]⟩
noncomputable def o106A (P : Params) : Obj := ⟨(.type "code"), .none, (.fields #[(.str (S "translate") 449), (.str (S "translate") 450), (.str (S "/claim/cut.py") 451), (.int 49 0), (.int 1 0), (.int 0 0), (.int 0 0), (.int 3 0), (.ref 101), (.bool .true), (.int 318 0), (.ref 102), .none, (.ref 103), (.ref 104), (.ref 105), (.int 455 0), (.int 49 0), (.str (S "/claim/cut.py") 456)]), #[]⟩
noncomputable def o107A (P : Params) : Obj := ⟨(.type "function"), .none, (.func ⟨(S "translate"), (S "translate"), (fA 9), (.stmts (fB 9)), (fS 9), 3, [], .none, .none, .none, (.str (S "cpy313.fnmatch") 409), .none, (.ref 106), .none, 0⟩), #[]⟩
noncomputable def treeA (P : Params) : BT := (N (o0I P) (N (o1I P) (N (o3A P) (N (o7I P) (N (o15I P) (N (o31I P) (N (o63A P) E E) (N (o95A P) E E)) (N (o47A P) (N (o79A P) E E) E)) (N (o23I P) (N (o39A P) (N (o71A P) E E) (N (o103A P) E E)) (N (o55A P) (N (o87A P) E E) E))) (N (o11Z P) (N (o19I P) (N (o35A P) (N (o67A P) E E) (N (o99A P) E E)) (N (o51A P) (N (o83A P) E E) E)) (N (o27I P) (N (o43A P) (N (o75A P) E E) (N (o107A P) E E)) (N (o59A P) (N (o91A P) E E) E)))) (N (o5I P) (N (o9I P) (N (o17I P) (N (o33I P) (N (o65A P) E E) (N (o97A P) E E)) (N (o49A P) (N (o81A P) E E) E)) (N (o25I P) (N (o41A P) (N (o73A P) E E) (N (o105A P) E E)) (N (o57A P) (N (o89A P) E E) E))) (N (o13I P) (N (o21I P) (N (o37P P) (N (o69A P) E E) (N (o101A P) E E)) (N (o53A P) (N (o85A P) E E) E)) (N (o29Z P) (N (o45A P) (N (o77A P) E E) E) (N (o61A P) (N (o93A P) E E) E))))) (N (o2A P) (N (o4I P) (N (o8I P) (N (o16I P) (N (o32I P) (N (o64A P) E E) (N (o96A P) E E)) (N (o48A P) (N (o80A P) E E) E)) (N (o24I P) (N (o40A P) (N (o72A P) E E) (N (o104A P) E E)) (N (o56A P) (N (o88A P) E E) E))) (N (o12I P) (N (o20I P) (N (o36P P) (N (o68A P) E E) (N (o100A P) E E)) (N (o52A P) (N (o84A P) E E) E)) (N (o28I P) (N (o44A P) (N (o76A P) E E) E) (N (o60A P) (N (o92A P) E E) E)))) (N (o6I P) (N (o10I P) (N (o18I P) (N (o34P P) (N (o66A P) E E) (N (o98A P) E E)) (N (o50A P) (N (o82A P) E E) E)) (N (o26I P) (N (o42A P) (N (o74A P) E E) (N (o106A P) E E)) (N (o58A P) (N (o90A P) E E) E))) (N (o14I P) (N (o22I P) (N (o38A P) (N (o70A P) E E) (N (o102A P) E E)) (N (o54A P) (N (o86A P) E E) E)) (N (o30I P) (N (o46A P) (N (o78A P) E E) E) (N (o62A P) (N (o94A P) E E) E))))))
-- state A: n 108 toks 460
noncomputable def o3B (P : Params) : Obj := ⟨(.type "dict"), .none, (.dict #[⟨(PySem.PyData.keyHash P (S "__name__")), (.str (S "__name__") 165), (.str (S "re") 458)⟩, ⟨(PySem.PyData.keyHash P (S "__doc__")), (.str (S "__doc__") 166), .none⟩, ⟨(PySem.PyData.keyHash P (S "__package__")), (.str (S "__package__") 167), .none⟩, ⟨(PySem.PyData.keyHash P (S "__loader__")), (.str (S "__loader__") 168), (.builtin "__main__.__loader__#opaque")⟩, ⟨(PySem.PyData.keyHash P (S "__spec__")), (.str (S "__spec__") 169), .none⟩, ⟨(PySem.PyData.keyHash P (S "__annotations__")), (.str (S "__annotations__") 170), (.ref 6)⟩, ⟨(PySem.PyData.keyHash P (S "__builtins__")), (.str (S "__builtins__") 171), (.ref 4)⟩, ⟨(PySem.PyData.keyHash P (S "__file__")), (.str (S "__file__") 173), (.str (S "/claim/cut.py") 172)⟩, ⟨(PySem.PyData.keyHash P (S "__cached__")), (.str (S "__cached__") 174), .none⟩, ⟨(PySem.PyData.keyHash P (S "_sre")), (.str (S "_sre") 275), (.ref 12)⟩, ⟨(PySem.PyData.keyHash P (S "deque")), (.str (S "deque") 317), (.type "collections.deque")⟩, ⟨(PySem.PyData.keyHash P (S "_wall")), (.str (S "_wall") 330), (.ref 44)⟩, ⟨(PySem.PyData.keyHash P (S "Error")), (.str (S "Error") 352), (.ref 54)⟩, ⟨(PySem.PyData.keyHash P (S "error_reply")), (.str (S "error_reply") 368), (.ref 67)⟩, ⟨(PySem.PyData.keyHash P (S "error_proto")), (.str (S "error_proto") 384), (.ref 79)⟩, ⟨(PySem.PyData.keyHash P (S "parse229")), (.str (S "parse229") 397), (.ref 88)⟩, ⟨(PySem.PyData.keyHash P (S "parse257")), (.str (S "parse257") 408), (.ref 95)⟩, ⟨(PySem.PyData.keyHash P (S "twin_re_1_fnmatch")), (.str (S "twin_re_1_fnmatch") 448), (.ref 100)⟩, ⟨(PySem.PyData.keyHash P (S "translate")), (.str (S "translate") 457), (.ref 107)⟩, ⟨(PySem.PyData.keyHash P (S "_special_chars_map")), (.str (S "_special_chars_map") 605), (.ref 109)⟩] 20), #[]⟩
noncomputable def o108B (P : Params) : Obj := ⟨(.type "bytes_iterator"), .none, (.fields #[.none, (.int 24 0)]), #[]⟩
noncomputable def o109B (P : Params) : Obj := ⟨(.type "dict"), .none, (.dict #[⟨40, (.int 40 461), (.str (S "\\(") 465)⟩, ⟨41, (.int 41 467), (.str (S "\\)") 471)⟩, ⟨91, (.int 91 473), (.str (S "\\[") 477)⟩, ⟨93, (.int 93 479), (.str (S "\\]") 483)⟩, ⟨123, (.int 123 485), (.str (S "\\{") 489)⟩, ⟨125, (.int 125 491), (.str (S "\\}") 495)⟩, ⟨63, (.int 63 497), (.str (S "\\?") 501)⟩, ⟨42, (.int 42 503), (.str (S "\\*") 507)⟩, ⟨43, (.int 43 509), (.str (S "\\+") 513)⟩, ⟨45, (.int 45 515), (.str (S "\\-") 519)⟩, ⟨124, (.int 124 521), (.str (S "\\|") 525)⟩, ⟨94, (.int 94 527), (.str (S "\\^") 531)⟩, ⟨36, (.int 36 533), (.str (S "\\$") 537)⟩, ⟨92, (.int 92 539), (.str (S "\\\\") 543)⟩, ⟨46, (.int 46 545), (.str (S "\\.") 549)⟩, ⟨38, (.int 38 551), (.str (S "\\&") 555)⟩, ⟨126, (.int 126 557), (.str (S "\\~") 561)⟩, ⟨35, (.int 35 563), (.str (S "\\#") 567)⟩, ⟨32, (.int 32 569), (.str (S "\\ ") 573)⟩, ⟨9, (.int 9 575), (.str (S "\\\t") 579)⟩, ⟨10, (.int 10 581), (.str (S "\\\n") 585)⟩, ⟨13, (.int 13 587), (.str (S "\\\x0d") 591)⟩, ⟨11, (.int 11 593), (.str (S "\\\x0b") 597)⟩, ⟨12, (.int 12 599), (.str (S "\\\x0c") 603)⟩] 24), #[]⟩
noncomputable def o110B (P : Params) : Obj := ⟨(.type "dict"), .none, (.dict #[] 2), #[]⟩
noncomputable def o111B (P : Params) : Obj := ⟨(.type "tuple"), .none, (.seq #[] 0), #[]⟩
noncomputable def o112B (P : Params) : Obj := ⟨(.type "StopIteration"), .none, (.fields #[(.ref 111), .none, .none, .none, (.bool .false), .none]), #[]⟩
noncomputable def treeB (P : Params) : BT := (N (o0I P) (N (o1I P) (N (o3B P) (N (o7I P) (N (o15I P) (N (o31I P) (N (o63A P) E E) (N (o95A P) E E)) (N (o47A P) (N (o79A P) E E) (N (o111B P) E E))) (N (o23I P) (N (o39A P) (N (o71A P) E E) (N (o103A P) E E)) (N (o55A P) (N (o87A P) E E) E))) (N (o11Z P) (N (o19I P) (N (o35A P) (N (o67A P) E E) (N (o99A P) E E)) (N (o51A P) (N (o83A P) E E) E)) (N (o27I P) (N (o43A P) (N (o75A P) E E) (N (o107A P) E E)) (N (o59A P) (N (o91A P) E E) E)))) (N (o5I P) (N (o9I P) (N (o17I P) (N (o33I P) (N (o65A P) E E) (N (o97A P) E E)) (N (o49A P) (N (o81A P) E E) E)) (N (o25I P) (N (o41A P) (N (o73A P) E E) (N (o105A P) E E)) (N (o57A P) (N (o89A P) E E) E))) (N (o13I P) (N (o21I P) (N (o37P P) (N (o69A P) E E) (N (o101A P) E E)) (N (o53A P) (N (o85A P) E E) E)) (N (o29Z P) (N (o45A P) (N (o77A P) E E) (N (o109B P) E E)) (N (o61A P) (N (o93A P) E E) E))))) (N (o2A P) (N (o4I P) (N (o8I P) (N (o16I P) (N (o32I P) (N (o64A P) E E) (N (o96A P) E E)) (N (o48A P) (N (o80A P) E E) (N (o112B P) E E))) (N (o24I P) (N (o40A P) (N (o72A P) E E) (N (o104A P) E E)) (N (o56A P) (N (o88A P) E E) E))) (N (o12I P) (N (o20I P) (N (o36P P) (N (o68A P) E E) (N (o100A P) E E)) (N (o52A P) (N (o84A P) E E) E)) (N (o28I P) (N (o44A P) (N (o76A P) E E) (N (o108B P) E E)) (N (o60A P) (N (o92A P) E E) E)))) (N (o6I P) (N (o10I P) (N (o18I P) (N (o34P P) (N (o66A P) E E) (N (o98A P) E E)) (N (o50A P) (N (o82A P) E E) E)) (N (o26I P) (N (o42A P) (N (o74A P) E E) (N (o106A P) E E)) (N (o58A P) (N (o90A P) E E) E))) (N (o14I P) (N (o22I P) (N (o38A P) (N (o70A P) E E) (N (o102A P) E E)) (N (o54A P) (N (o86A P) E E) E)) (N (o30I P) (N (o46A P) (N (o78A P) E E) (N (o110B P) E E)) (N (o62A P) (N (o94A P) E E) E))))))
-- state B: n 113 toks 606
@[reducible] noncomputable def fa5 : {b : Arguments // fA 5 = b} := by refine' ⟨_, _⟩; rotate_left; conv => lhs; whnf
@[reducible] noncomputable def fb5 : {b : List Stmt // fB 5 = b} := by refine' ⟨_, _⟩; rotate_left; conv => lhs; whnf
@[reducible] noncomputable def fs5 : {b : Scope // fS 5 = b} := by refine' ⟨_, _⟩; rotate_left; conv => lhs; whnf
@[reducible] noncomputable def fa6 : {b : Arguments // fA 6 = b} := by refine' ⟨_, _⟩; rotate_left; conv => lhs; whnf
@[reducible] noncomputable def fb6 : {b : List Stmt // fB 6 = b} := by refine' ⟨_, _⟩; rotate_left; conv => lhs; whnf
@[reducible] noncomputable def fs6 : {b : Scope // fS 6 = b} := by refine' ⟨_, _⟩; rotate_left; conv => lhs; whnf
@[reducible] noncomputable def fa9 : {b : Arguments // fA 9 = b} := by refine' ⟨_, _⟩; rotate_left; conv => lhs; whnf
@[reducible] noncomputable def fb9 : {b : List Stmt // fB 9 = b} := by refine' ⟨_, _⟩; rotate_left; conv => lhs; whnf
@[reducible] noncomputable def fs9 : {b : Scope // fS 9 = b} := by refine' ⟨_, _⟩; rotate_left; conv => lhs; whnf
@[reducible] noncomputable def fa12 : {b : Arguments // fA 12 = b} := by refine' ⟨_, _⟩; rotate_left; conv => lhs; whnf
@[reducible] noncomputable def fb12 : {b : List Stmt // fB 12 = b} := by refine' ⟨_, _⟩; rotate_left; conv => lhs; whnf
@[reducible] noncomputable def fs12 : {b : Scope // fS 12 = b} := by refine' ⟨_, _⟩; rotate_left; conv => lhs; whnf
@[reducible] noncomputable def fa14 : {b : Arguments // fA 14 = b} := by refine' ⟨_, _⟩; rotate_left; conv => lhs; whnf
@[reducible] noncomputable def fb14 : {b : List Stmt // fB 14 = b} := by refine' ⟨_, _⟩; rotate_left; conv => lhs; whnf
@[reducible] noncomputable def fs14 : {b : Scope // fS 14 = b} := by refine' ⟨_, _⟩; rotate_left; conv => lhs; whnf
@[reducible] noncomputable def fa15 : {b : Arguments // fA 15 = b} := by refine' ⟨_, _⟩; rotate_left; conv => lhs; whnf
@[reducible] noncomputable def fb15 : {b : List Stmt // fB 15 = b} := by refine' ⟨_, _⟩; rotate_left; conv => lhs; whnf
@[reducible] noncomputable def fs15 : {b : Scope // fS 15 = b} := by refine' ⟨_, _⟩; rotate_left; conv => lhs; whnf
@[reducible] noncomputable def fa19 : {b : Arguments // fA 19 = b} := by refine' ⟨_, _⟩; rotate_left; conv => lhs; whnf
@[reducible] noncomputable def fb19 : {b : List Stmt // fB 19 = b} := by refine' ⟨_, _⟩; rotate_left; conv => lhs; whnf
@[reducible] noncomputable def fs19 : {b : Scope // fS 19 = b} := by refine' ⟨_, _⟩; rotate_left; conv => lhs; whnf
@[reducible] noncomputable def ma21x1 : {b : Arguments // mA 21 1 = b} := by refine' ⟨_, _⟩; rotate_left; conv => lhs; whnf
@[reducible] noncomputable def mb21x1 : {b : List Stmt // mB 21 1 = b} := by refine' ⟨_, _⟩; rotate_left; conv => lhs; whnf
@[reducible] noncomputable def ms21x1 : {b : Scope // mS 21 1 = b} := by refine' ⟨_, _⟩; rotate_left; conv => lhs; whnf
@[reducible] noncomputable def ma25x1 : {b : Arguments // mA 25 1 = b} := by refine' ⟨_, _⟩; rotate_left; conv => lhs; whnf
@[reducible] noncomputable def mb25x1 : {b : List Stmt // mB 25 1 = b} := by refine' ⟨_, _⟩; rotate_left; conv => lhs; whnf
@[reducible] noncomputable def ms25x1 : {b : Scope // mS 25 1 = b} := by refine' ⟨_, _⟩; rotate_left; conv => lhs; whnf
@[reducible] noncomputable def ma25x2 : {b : Arguments // mA 25 2 = b} := by refine' ⟨_, _⟩; rotate_left; conv => lhs; whnf
@[reducible] noncomputable def mb25x2 : {b : List Stmt // mB 25 2 = b} := by refine' ⟨_, _⟩; rotate_left; conv => lhs; whnf
@[reducible] noncomputable def ms25x2 : {b : Scope // mS 25 2 = b} := by refine' ⟨_, _⟩; rotate_left; conv => lhs; whnf
@[reducible] noncomputable def ma25x3 : {b : Arguments // mA 25 3 = b} := by refine' ⟨_, _⟩; rotate_left; conv => lhs; whnf
@[reducible] noncomputable def mb25x3 : {b : List Stmt // mB 25 3 = b} := by refine' ⟨_, _⟩; rotate_left; conv => lhs; whnf
@[reducible] noncomputable def ms25x3 : {b : Scope // mS 25 3 = b} := by refine' ⟨_, _⟩; rotate_left; conv => lhs; whnf
@[reducible] noncomputable def ma25x25 : {b : Arguments // mA 25 25 = b} := by refine' ⟨_, _⟩; rotate_left; conv => lhs; whnf
@[reducible] noncomputable def mb25x25 : {b : List Stmt // mB 25 25 = b} := by refine' ⟨_, _⟩; rotate_left; conv => lhs; whnf
@[reducible] noncomputable def ms25x25 : {b : Scope // mS 25 25 = b} := by refine' ⟨_, _⟩; rotate_left; conv => lhs; whnf
@[reducible] noncomputable def fa31 : {b : Arguments // fA 31 = b} := by refine' ⟨_, _⟩; rotate_left; conv => lhs; whnf
@[reducible] noncomputable def fb31 : {b : List Stmt // fB 31 = b} := by refine' ⟨_, _⟩; rotate_left; conv => lhs; whnf
@[reducible] noncomputable def fs31 : {b : Scope // fS 31 = b} := by refine' ⟨_, _⟩; rotate_left; conv => lhs; whnf
@[reducible] noncomputable def ma35x0 : {b : Arguments // mA 35 0 = b} := by refine' ⟨_, _⟩; rotate_left; conv => lhs; whnf
@[reducible] noncomputable def mb35x0 : {b : List Stmt // mB 35 0 = b} := by refine' ⟨_, _⟩; rotate_left; conv => lhs; whnf
@[reducible] noncomputable def ms35x0 : {b : Scope // mS 35 0 = b} := by refine' ⟨_, _⟩; rotate_left; conv => lhs; whnf
@[reducible] noncomputable def ma35x1 : {b : Arguments // mA 35 1 = b} := by refine' ⟨_, _⟩; rotate_left; conv => lhs; whnf
@[reducible] noncomputable def mb35x1 : {b : List Stmt // mB 35 1 = b} := by refine' ⟨_, _⟩; rotate_left; conv => lhs; whnf
@[reducible] noncomputable def ms35x1 : {b : Scope // mS 35 1 = b} := by refine' ⟨_, _⟩; rotate_left; conv => lhs; whnf
@[reducible] noncomputable def ma35x5 : {b : Arguments // mA 35 5 = b} := by refine' ⟨_, _⟩; rotate_left; conv => lhs; whnf
@[reducible] noncomputable def mb35x5 : {b : List Stmt // mB 35 5 = b} := by refine' ⟨_, _⟩; rotate_left; conv => lhs; whnf
@[reducible] noncomputable def ms35x5 : {b : Scope // mS 35 5 = b} := by refine' ⟨_, _⟩; rotate_left; conv => lhs; whnf
@[reducible] noncomputable def ma35x6 : {b : Arguments // mA 35 6 = b} := by refine' ⟨_, _⟩; rotate_left; conv => lhs; whnf
@[reducible] noncomputable def mb35x6 : {b : List Stmt // mB 35 6 = b} := by refine' ⟨_, _⟩; rotate_left; conv => lhs; whnf
@[reducible] noncomputable def ms35x6 : {b : Scope // mS 35 6 = b} := by refine' ⟨_, _⟩; rotate_left; conv => lhs; whnf
@[reducible] noncomputable def ma35x9 : {b : Arguments // mA 35 9 = b} := by refine' ⟨_, _⟩; rotate_left; conv => lhs; whnf
@[reducible] noncomputable def mb35x9 : {b : List Stmt // mB 35 9 = b} := by refine' ⟨_, _⟩; rotate_left; conv => lhs; whnf
@[reducible] noncomputable def ms35x9 : {b : Scope // mS 35 9 = b} := by refine' ⟨_, _⟩; rotate_left; conv => lhs; whnf
@[reducible] noncomputable def ma35x10 : {b : Arguments // mA 35 10 = b} := by refine' ⟨_, _⟩; rotate_left; conv => lhs; whnf
@[reducible] noncomputable def mb35x10 : {b : List Stmt // mB 35 10 = b} := by refine' ⟨_, _⟩; rotate_left; conv => lhs; whnf
@[reducible] noncomputable def ms35x10 : {b : Scope // mS 35 10 = b} := by refine' ⟨_, _⟩; rotate_left; conv => lhs; whnf
@[reducible] noncomputable def fa36 : {b : Arguments // fA 36 = b} := by refine' ⟨_, _⟩; rotate_left; conv => lhs; whnf
@[reducible] noncomputable def fb36 : {b : List Stmt // fB 36 = b} := by refine' ⟨_, _⟩; rotate_left; conv => lhs; whnf
@[reducible] noncomputable def fs36 : {b : Scope // fS 36 = b} := by refine' ⟨_, _⟩; rotate_left; conv => lhs; whnf
@[reducible] noncomputable def fa37 : {b : Arguments // fA 37 = b} := by refine' ⟨_, _⟩; rotate_left; conv => lhs; whnf
@[reducible] noncomputable def fb37 : {b : List Stmt // fB 37 = b} := by refine' ⟨_, _⟩; rotate_left; conv => lhs; whnf
@[reducible] noncomputable def fs37 : {b : Scope // fS 37 = b} := by refine' ⟨_, _⟩; rotate_left; conv => lhs; whnf
@[reducible] noncomputable def fa40 : {b : Arguments // fA 40 = b} := by refine' ⟨_, _⟩; rotate_left; conv => lhs; whnf
@[reducible] noncomputable def fb40 : {b : List Stmt // fB 40 = b} := by refine' ⟨_, _⟩; rotate_left; conv => lhs; whnf
@[reducible] noncomputable def fs40 : {b : Scope // fS 40 = b} := by refine' ⟨_, _⟩; rotate_left; conv => lhs; whnf
@[reducible] noncomputable def fa42 : {b : Arguments // fA 42 = b} := by refine' ⟨_, _⟩; rotate_left; conv => lhs; whnf
@[reducible] noncomputable def fb42 : {b : List Stmt // fB 42 = b} := by refine' ⟨_, _⟩; rotate_left; conv => lhs; whnf
@[reducible] noncomputable def fs42 : {b : Scope // fS 42 = b} := by refine' ⟨_, _⟩; rotate_left; conv => lhs; whnf
@[reducible] noncomputable def fa43 : {b : Arguments // fA 43 = b} := by refine' ⟨_, _⟩; rotate_left; conv => lhs; whnf
@[reducible] noncomputable def fb43 : {b : List Stmt // fB 43 = b} := by refine' ⟨_, _⟩; rotate_left; conv => lhs; whnf
@[reducible] noncomputable def fs43 : {b : Scope // fS 43 = b} := by refine' ⟨_, _⟩; rotate_left; conv => lhs; whnf
@[reducible] noncomputable def fa44 : {b : Arguments // fA 44 = b} := by refine' ⟨_, _⟩; rotate_left; conv => lhs; whnf
@[reducible] noncomputable def fb44 : {b : List Stmt // fB 44 = b} := by refine' ⟨_, _⟩; rotate_left; conv => lhs; whnf
@[reducible] noncomputable def fs44 : {b : Scope // fS 44 = b} := by refine' ⟨_, _⟩; rotate_left; conv => lhs; whnf
@[reducible] noncomputable def fa45 : {b : Arguments // fA 45 = b} := by refine' ⟨_, _⟩; rotate_left; conv => lhs; whnf
@[reducible] noncomputable def fb45 : {b : List Stmt // fB 45 = b} := by refine' ⟨_, _⟩; rotate_left; conv => lhs; whnf
@[reducible] noncomputable def fs45 : {b : Scope // fS 45 = b} := by refine' ⟨_, _⟩; rotate_left; conv => lhs; whnf
@[reducible] noncomputable def fa46 : {b : Arguments // fA 46 = b} := by refine' ⟨_, _⟩; rotate_left; conv => lhs; whnf
@[reducible] noncomputable def fb46 : {b : List Stmt // fB 46 = b} := by refine' ⟨_, _⟩; rotate_left; conv => lhs; whnf
@[reducible] noncomputable def fs46 : {b : Scope // fS 46 = b} := by refine' ⟨_, _⟩; rotate_left; conv => lhs; whnf
@[reducible] noncomputable def fa47 : {b : Arguments // fA 47 = b} := by refine' ⟨_, _⟩; rotate_left; conv => lhs; whnf
@[reducible] noncomputable def fb47 : {b : List Stmt // fB 47 = b} := by refine' ⟨_, _⟩; rotate_left; conv => lhs; whnf
@[reducible] noncomputable def fs47 : {b : Scope // fS 47 = b} := by refine' ⟨_, _⟩; rotate_left; conv => lhs; whnf
@[reducible] noncomputable def fa48 : {b : Arguments // fA 48 = b} := by refine' ⟨_, _⟩; rotate_left; conv => lhs; whnf
@[reducible] noncomputable def fb48 : {b : List Stmt // fB 48 = b} := by refine' ⟨_, _⟩; rotate_left; conv => lhs; whnf
@[reducible] noncomputable def fs48 : {b : Scope // fS 48 = b} := by refine' ⟨_, _⟩; rotate_left; conv => lhs; whnf
@[reducible] noncomputable def fa49 : {b : Arguments // fA 49 = b} := by refine' ⟨_, _⟩; rotate_left; conv => lhs; whnf
@[reducible] noncomputable def fb49 : {b : List Stmt // fB 49 = b} := by refine' ⟨_, _⟩; rotate_left; conv => lhs; whnf
@[reducible] noncomputable def fs49 : {b : Scope // fS 49 = b} := by refine' ⟨_, _⟩; rotate_left; conv => lhs; whnf
noncomputable def KF (P : Params) : Frag :=
(nat_lit 2, ⟨.none, .none, (.dict #[⟨(PySem.PyData.keyHash P (Str.ofString "\x69mport.loaded._sre")), (.str (Str.ofString "\x69mport.loaded._sre") 183), (.bool .true)⟩, ⟨(PySem.PyData.keyHash P (Str.ofString "class._frozen_importlib.BuiltinImporter")), (.str (Str.ofString "class._frozen_importlib.BuiltinImporter") 185), (.ref 14)⟩, ⟨(PySem.PyData.keyHash P (Str.ofString "watched.\x69mport")), (.str (Str.ofString "watched.\x69mport") 206), (.ref 18)⟩, ⟨(PySem.PyData.keyHash P (Str.ofString "class._frozen_importlib.ModuleSpec")), (.str (Str.ofString "class._frozen_importlib.ModuleSpec") 216), (.ref 22)⟩, ⟨(PySem.PyData.keyHash P (Str.ofString "sys.modules.booked-epoch")), (.str (Str.ofString "sys.modules.booked-epoch") 245), (.int 4 0)⟩, ⟨(PySem.PyData.keyHash P (Str.ofString "\x69mport.later-laid._sre")), (.str (Str.ofString "\x69mport.later-laid._sre") 270), (.bool .true)⟩, ⟨(PySem.PyData.keyHash P (Str.ofString "watched.library")), (.str (Str.ofString "watched.library") 272), (.ref 27)⟩, ⟨(PySem.PyData.keyHash P (Str.ofString "watched.library-objects")), (.str (Str.ofString "watched.library-objects") 0), (.str (Str.ofString "\x0c\x1e") 0)⟩, ⟨(PySem.PyData.keyHash P (Str.ofString "watched.library-deep._sre")), (.str (Str.ofString "watched.library-deep._sre") 273), (.str (Str.ofString "\x04\x00\x00\x0b\x04\x00\x00\x0b\x04\x00\x00\x03\x04\x00\x00\x0b\x08\x04dict\x02") 0)⟩, ⟨(PySem.PyData.keyHash P (Str.ofString "\x69mport.loaded._collections")), (.str (Str.ofString "\x69mport.loaded._collections") 280), (.bool .true)⟩, ⟨(PySem.PyData.keyHash P (Str.ofString "sys.modules.landed._collections")), (.str (Str.ofString "sys.modules.landed._collections") 294), (.bool .true)⟩, ⟨(PySem.PyData.keyHash P (Str.ofString "\x69mport.later-laid._collections")), (.str (Str.ofString "\x69mport.later-laid._collections") 309), (.bool .true)⟩, ⟨(PySem.PyData.keyHash P (Str.ofString "watched.library-deep._collections")), (.str (Str.ofString "watched.library-deep._collections") 311), (.str (Str.ofString "\x04\x00\x00\x1d\x04\x00\x00\x1d\x04\x00\x00\x03\x04\x00\x00\x1d\x08\x04dict\x02") 0)⟩, ⟨(PySem.PyData.keyHash P (Str.ofString "type.__subclasses__.Exception.0")), (.str (Str.ofString "type.__subclasses__.Exception.0") 349), (.int 54 0)⟩, ⟨(PySem.PyData.keyHash P (Str.ofString "type.__subclasses__.Exception.n")), (.str (Str.ofString "type.__subclasses__.Exception.n") 350), (.int 1 0)⟩, ⟨(PySem.PyData.keyHash P (Str.ofString "type.__subclasses__.OSError.0")), (.str (Str.ofString "type.__subclasses__.OSError.0") 723), (.int 162 0)⟩, ⟨(PySem.PyData.keyHash P (Str.ofString "type.__subclasses__.OSError.n")), (.str (Str.ofString "type.__subclasses__.OSError.n") 724), (.int 1 0)⟩] 17), #[]⟩) ::
(nat_lit 3, ⟨(.type "dict"), .none, (.dict #[⟨(PySem.PyData.keyHash P (Str.ofString "__name__")), (.str (Str.ofString "__name__") 165), (.str (Str.ofString "law_kt0089_01") 1571)⟩, ⟨(PySem.PyData.keyHash P (Str.ofString "__doc__")), (.str (Str.ofString "__doc__") 166), .none⟩, ⟨(PySem.PyData.keyHash P (Str.ofString "__package__")), (.str (Str.ofString "__package__") 167), .none⟩, ⟨(PySem.PyData.keyHash P (Str.ofString "__loader__")), (.str (Str.ofString "__loader__") 168), (.builtin "__main__.__loader__#opaque")⟩, ⟨(PySem.PyData.keyHash P (Str.ofString "__spec__")), (.str (Str.ofString "__spec__") 169), .none⟩, ⟨(PySem.PyData.keyHash P (Str.ofString "__annotations__")), (.str (Str.ofString "__annotations__") 170), (.ref 6)⟩, ⟨(PySem.PyData.keyHash P (Str.ofString "__builtins__")), (.str (Str.ofString "__builtins__") 171), (.ref 4)⟩, ⟨(PySem.PyData.keyHash P (Str.ofString "__file__")), (.str (Str.ofString "__file__") 173), (.str (Str.ofString "/claim/cut.py") 172)⟩, ⟨(PySem.PyData.keyHash P (Str.ofString "__cached__")), (.str (Str.ofString "__cached__") 174), .none⟩, ⟨(PySem.PyData.keyHash P (Str.ofString "_sre")), (.str (Str.ofString "_sre") 275), (.ref 12)⟩, ⟨(PySem.PyData.keyHash P (Str.ofString "deque")), (.str (Str.ofString "deque") 317), (.type "collections.deque")⟩, ⟨(PySem.PyData.keyHash P (Str.ofString "_wall")), (.str (Str.ofString "_wall") 330), (.ref 44)⟩, ⟨(PySem.PyData.keyHash P (Str.ofString "Error")), (.str (Str.ofString "Error") 352), (.ref 54)⟩, ⟨(PySem.PyData.keyHash P (Str.ofString "error_reply")), (.str (Str.ofString "error_reply") 368), (.ref 67)⟩, ⟨(PySem.PyData.keyHash P (Str.ofString "error_proto")), (.str (Str.ofString "error_proto") 384), (.ref 79)⟩, ⟨(PySem.PyData.keyHash P (Str.ofString "parse229")), (.str (Str.ofString "parse229") 397), (.ref 88)⟩, ⟨(PySem.PyData.keyHash P (Str.ofString "parse257")), (.str (Str.ofString "parse257") 408), (.ref 95)⟩, ⟨(PySem.PyData.keyHash P (Str.ofString "twin_re_1_fnmatch")), (.str (Str.ofString "twin_re_1_fnmatch") 448), (.ref 100)⟩, ⟨(PySem.PyData.keyHash P (Str.ofString "translate")), (.str (Str.ofString "translate") 457), (.ref 107)⟩, ⟨(PySem.PyData.keyHash P (Str.ofString "_special_chars_map")), (.str (Str.ofString "_special_chars_map") 605), (.ref 109)⟩, ⟨(PySem.PyData.keyHash P (Str.ofString "escape")), (.str (Str.ofString "escape") 612), (.ref 119)⟩, ⟨(PySem.PyData.keyHash P (Str.ofString "_translate")), (.str (Str.ofString "_translate") 633), (.ref 126)⟩, ⟨(PySem.PyData.keyHash P (Str.ofString "_join_translated_parts")), (.str (Str.ofString "_join_translated_parts") 646), (.ref 133)⟩, ⟨(PySem.PyData.keyHash P (Str.ofString "twin_re_1_shlex")), (.str (Str.ofString "twin_re_1_shlex") 686), (.ref 138)⟩, ⟨(PySem.PyData.keyHash P (Str.ofString "_whence")), (.str (Str.ofString "_whence") 696), (.ref 145)⟩, ⟨(PySem.PyData.keyHash P (Str.ofString "_index")), (.str (Str.ofString "_index") 704), (.ref 152)⟩, ⟨(PySem.PyData.keyHash P (Str.ofString "UnsupportedOperation")), (.str (Str.ofString "UnsupportedOperation") 726), (.ref 162)⟩, ⟨(PySem.PyData.keyHash P (Str.ofString "IOBase")), (.str (Str.ofString "IOBase") 758), (.ref 182)⟩, ⟨(PySem.PyData.keyHash P (Str.ofString "BufferedIOBase")), (.str (Str.ofString "BufferedIOBase") 776), (.ref 197)⟩, ⟨(PySem.PyData.keyHash P (Str.ofString "TextIOBase")), (.str (Str.ofString "TextIOBase") 794), (.ref 209)⟩, ⟨(PySem.PyData.keyHash P (Str.ofString "BytesIO")), (.str (Str.ofString "BytesIO") 1056), (.ref 439)⟩, ⟨(PySem.PyData.keyHash P (Str.ofString "StringIO")), (.str (Str.ofString "StringIO") 1343), (.ref 686)⟩, ⟨(PySem.PyData.keyHash P (Str.ofString "_kind")), (.str (Str.ofString "_kind") 1354), (.ref 695)⟩, ⟨(PySem.PyData.keyHash P (Str.ofString "_fspath")), (.str (Str.ofString "_fspath") 1363), (.ref 702)⟩, ⟨(PySem.PyData.keyHash P (Str.ofString "_check_arg_types")), (.str (Str.ofString "_check_arg_types") 1373), (.ref 709)⟩, ⟨(PySem.PyData.keyHash P (Str.ofString "isabs")), (.str (Str.ofString "isabs") 1380), (.ref 716)⟩, ⟨(PySem.PyData.keyHash P (Str.ofString "join")), (.str (Str.ofString "join") 1391), (.ref 840)⟩, ⟨(PySem.PyData.keyHash P (Str.ofString "join_path")), (.str (Str.ofString "join_path") 1392), (.ref 723)⟩, ⟨(PySem.PyData.keyHash P (Str.ofString "dirname")), (.str (Str.ofString "dirname") 1402), (.ref 730)⟩, ⟨(PySem.PyData.keyHash P (Str.ofString "shlex")), (.str (Str.ofString "shlex") 1543), (.ref 821)⟩, ⟨(PySem.PyData.keyHash P (Str.ofString "split")), (.str (Str.ofString "split") 1553), (.ref 833)⟩, ⟨(PySem.PyData.keyHash P (Str.ofString "join_shlex")), (.str (Str.ofString "join_shlex") 1561), (.ref 840)⟩, ⟨(PySem.PyData.keyHash P (Str.ofString "_find_unsafe")), (.str (Str.ofString "_find_unsafe") 1563), (.ref 841)⟩, ⟨(PySem.PyData.keyHash P (Str.ofString "quote")), (.str (Str.ofString "quote") 1570), (.ref 848)⟩, ⟨(PySem.PyData.keyHash P (Str.ofString "_law_barred")), (.str (Str.ofString "_law_barred") 1579), (.ref 855)⟩, ⟨(PySem.PyData.keyHash P (Str.ofString "_law_pieces")), (.str (Str.ofString "_law_pieces") 1591), (.ref 862)⟩, ⟨(PySem.PyData.keyHash P (Str.ofString "_law_takes")), (.str (Str.ofString "_law_takes") 1603), (.ref 869)⟩, ⟨(PySem.PyData.keyHash P (Str.ofString "_law_order")), (.str (Str.ofString "_law_order") 1613), (.ref 876)⟩, ⟨(PySem.PyData.keyHash P (Str.ofString "_law_signs")), (.str (Str.ofString "_law_signs") 1622), (.ref 883)⟩, ⟨(PySem.PyData.keyHash P (Str.ofString "_law_rounds")), (.str (Str.ofString "_law_rounds") 1633), (.ref 890)⟩, ⟨(PySem.PyData.keyHash P (Str.ofString "_law_read")), (.str (Str.ofString "_law_read") 1641), (.ref 897)⟩, ⟨(PySem.PyData.keyHash P (Str.ofString "law")), (.str (Str.ofString "law") 1647), (.ref 902)⟩] 52), #[]⟩) ::
(nat_lit 82, ⟨(.type "tuple"), .none, (.seq #[] 0), #[]⟩) ::
(nat_lit 84, ⟨(.type "tuple"), .none, (.seq #[(.str (Str.ofString "resp") 388), (.str (Str.ofString "peer") 389), (.str (Str.ofString "left") 390), (.str (Str.ofString "right") 391), (.str (Str.ofString "parts") 392), (.str (Str.ofString "host") 393), (.str (Str.ofString "port") 394)] 0), #[]⟩) ::
(nat_lit 85, ⟨(.type "tuple"), .none, (.seq #[] 0), #[]⟩) ::
(nat_lit 87, ⟨(.type "code"), .none, (.fields #[(.str (Str.ofString "parse229") 385), (.str (Str.ofString "parse229") 386), (.str (Str.ofString "/claim/cut.py") 387), (.int 13 0), (.int 2 0), (.int 0 0), (.int 0 0), (.int 3 0), (.ref 82), (.bool .true), (.int 318 0), (.ref 83), .none, (.ref 84), (.ref 85), (.ref 86), (.int 395 0), (.int 13 0), (.str (Str.ofString "/claim/cut.py") 396)]), #[]⟩) ::
(nat_lit 88, ⟨(.type "function"), .none, (.func ⟨(Str.ofString "parse229"), (Str.ofString "parse229"), fa5.1, (.stmts fb5.1), fs5.1, 3, [], .none, .none, .none, (.str (Str.ofString "cpy313.ftplib") 331), .none, (.ref 87), .none, 0⟩), #[]⟩) ::
(nat_lit 89, ⟨(.type "tuple"), .none, (.seq #[] 0), #[]⟩) ::
(nat_lit 91, ⟨(.type "tuple"), .none, (.seq #[(.str (Str.ofString "resp") 401), (.str (Str.ofString "dirname") 402), (.str (Str.ofString "i") 403), (.str (Str.ofString "n") 404), (.str (Str.ofString "c") 405)] 0), #[]⟩) ::
(nat_lit 92, ⟨(.type "tuple"), .none, (.seq #[] 0), #[]⟩) ::
(nat_lit 94, ⟨(.type "code"), .none, (.fields #[(.str (Str.ofString "parse257") 398), (.str (Str.ofString "parse257") 399), (.str (Str.ofString "/claim/cut.py") 400), (.int 30 0), (.int 1 0), (.int 0 0), (.int 0 0), (.int 3 0), (.ref 89), (.bool .true), (.int 318 0), (.ref 90), .none, (.ref 91), (.ref 92), (.ref 93), (.int 406 0), (.int 30 0), (.str (Str.ofString "/claim/cut.py") 407)]), #[]⟩) ::
(nat_lit 95, ⟨(.type "function"), .none, (.func ⟨(Str.ofString "parse257"), (Str.ofString "parse257"), fa6.1, (.stmts fb6.1), fs6.1, 3, [], .none, .none, .none, (.str (Str.ofString "cpy313.ftplib") 331), .none, (.ref 94), .none, 0⟩), #[]⟩) ::
(nat_lit 99, ⟨(.type "tuple"), .none, (.seq #[(.int 14 0), (.int 14 0), (.int 4 0), (.int 1 0), (.int 1 0), (.int 9 0), (.int 0 0), (.int 64 0), (.int 0 0), (.int 1342177280 0), (.int 0 0), (.int 0 0), (.int 0 0), (.int 0 0), (.int 0 0), (.int 17 0), (.int 0 0), (.int 13 0), (.int 11 0), (.int 9 0), (.int 0 0), (.int 64 0), (.int 0 0), (.int 1342177280 0), (.int 0 0), (.int 0 0), (.int 0 0), (.int 0 0), (.int 0 0), (.int 17 0), (.int 1 0), (.int 1 0)] 0), #[]⟩) ::
(nat_lit 100, ⟨(.type "re.Pattern"), .none, (.fields #[(.str (Str.ofString "([&~|])") 412), (.int 32 447), (.int 1 0), .none, .none, (.ref 99), (.int 0 0)]), #[]⟩) ::
(nat_lit 101, ⟨(.type "tuple"), .none, (.seq #[] 0), #[]⟩) ::
(nat_lit 103, ⟨(.type "tuple"), .none, (.seq #[(.str (Str.ofString "pat") 452), (.str (Str.ofString "STAR") 453), (.str (Str.ofString "parts") 454)] 0), #[]⟩) ::
(nat_lit 104, ⟨(.type "tuple"), .none, (.seq #[] 0), #[]⟩) ::
(nat_lit 106, ⟨(.type "code"), .none, (.fields #[(.str (Str.ofString "translate") 449), (.str (Str.ofString "translate") 450), (.str (Str.ofString "/claim/cut.py") 451), (.int 49 0), (.int 1 0), (.int 0 0), (.int 0 0), (.int 3 0), (.ref 101), (.bool .true), (.int 318 0), (.ref 102), .none, (.ref 103), (.ref 104), (.ref 105), (.int 455 0), (.int 49 0), (.str (Str.ofString "/claim/cut.py") 456)]), #[]⟩) ::
(nat_lit 107, ⟨(.type "function"), .none, (.func ⟨(Str.ofString "translate"), (Str.ofString "translate"), fa9.1, (.stmts fb9.1), fs9.1, 3, [], .none, .none, .none, (.str (Str.ofString "cpy313.fnmatch") 409), .none, (.ref 106), .none, 0⟩), #[]⟩) ::
(nat_lit 109, ⟨(.type "dict"), .none, (.dict #[⟨40, (.int 40 461), (.str (Str.ofString "\\(") 465)⟩, ⟨41, (.int 41 467), (.str (Str.ofString "\\)") 471)⟩, ⟨91, (.int 91 473), (.str (Str.ofString "\\[") 477)⟩, ⟨93, (.int 93 479), (.str (Str.ofString "\\]") 483)⟩, ⟨123, (.int 123 485), (.str (Str.ofString "\\{") 489)⟩, ⟨125, (.int 125 491), (.str (Str.ofString "\\}") 495)⟩, ⟨63, (.int 63 497), (.str (Str.ofString "\\?") 501)⟩, ⟨42, (.int 42 503), (.str (Str.ofString "\\*") 507)⟩, ⟨43, (.int 43 509), (.str (Str.ofString "\\+") 513)⟩, ⟨45, (.int 45 515), (.str (Str.ofString "\\-") 519)⟩, ⟨124, (.int 124 521), (.str (Str.ofString "\\|") 525)⟩, ⟨94, (.int 94 527), (.str (Str.ofString "\\^") 531)⟩, ⟨36, (.int 36 533), (.str (Str.ofString "\\$") 537)⟩, ⟨92, (.int 92 539), (.str (Str.ofString "\\\\") 543)⟩, ⟨46, (.int 46 545), (.str (Str.ofString "\\.") 549)⟩, ⟨38, (.int 38 551), (.str (Str.ofString "\\&") 555)⟩, ⟨126, (.int 126 557), (.str (Str.ofString "\\~") 561)⟩, ⟨35, (.int 35 563), (.str (Str.ofString "\\#") 567)⟩, ⟨32, (.int 32 569), (.str (Str.ofString "\\ ") 573)⟩, ⟨9, (.int 9 575), (.str (Str.ofString "\\\t") 579)⟩, ⟨10, (.int 10 581), (.str (Str.ofString "\\\n") 585)⟩, ⟨13, (.int 13 587), (.str (Str.ofString "\\\x0d") 591)⟩, ⟨11, (.int 11 593), (.str (Str.ofString "\\\x0b") 597)⟩, ⟨12, (.int 12 599), (.str (Str.ofString "\\\x0c") 603)⟩] 24), #[]⟩) ::
(nat_lit 113, ⟨(.type "tuple"), .none, (.seq #[] 0), #[]⟩) ::
(nat_lit 115, ⟨(.type "tuple"), .none, (.seq #[(.str (Str.ofString "pattern") 609)] 0), #[]⟩) ::
(nat_lit 116, ⟨(.type "tuple"), .none, (.seq #[] 0), #[]⟩) ::
(nat_lit 118, ⟨(.type "code"), .none, (.fields #[(.str (Str.ofString "escape") 606), (.str (Str.ofString "escape") 607), (.str (Str.ofString "/claim/cut.py") 608), (.int 55 0), (.int 1 0), (.int 0 0), (.int 0 0), (.int 3 0), (.ref 113), (.bool .true), (.int 318 0), (.ref 114), .none, (.ref 115), (.ref 116), (.ref 117), (.int 610 0), (.int 55 0), (.str (Str.ofString "/claim/cut.py") 611)]), #[]⟩) ::
(nat_lit 119, ⟨(.type "function"), .none, (.func ⟨(Str.ofString "escape"), (Str.ofString "escape"), fa12.1, (.stmts fb12.1), fs12.1, 3, [], .none, .none, .none, (.str (Str.ofString "re") 458), .none, (.ref 118), .none, 0⟩), #[]⟩) ::
(nat_lit 120, ⟨(.type "tuple"), .none, (.seq #[] 0), #[]⟩) ::
(nat_lit 122, ⟨(.type "tuple"), .none, (.seq #[(.str (Str.ofString "pat") 618), (.str (Str.ofString "STAR") 619), (.str (Str.ofString "QUESTION_MARK") 620), (.str (Str.ofString "res") 621), (.str (Str.ofString "add") 622), (.str (Str.ofString "i") 623), (.str (Str.ofString "n") 624), (.str (Str.ofString "c") 625), (.str (Str.ofString "j") 626), (.str (Str.ofString "stuff") 627), (.str (Str.ofString "chunks") 628), (.str (Str.ofString "k") 629), (.str (Str.ofString "chunk") 630)] 0), #[]⟩) ::
(nat_lit 123, ⟨(.type "tuple"), .none, (.seq #[] 0), #[]⟩) ::
(nat_lit 125, ⟨(.type "code"), .none, (.fields #[(.str (Str.ofString "_translate") 615), (.str (Str.ofString "_translate") 616), (.str (Str.ofString "/claim/cut.py") 617), (.int 62 0), (.int 3 0), (.int 0 0), (.int 0 0), (.int 3 0), (.ref 120), (.bool .true), (.int 318 0), (.ref 121), .none, (.ref 122), (.ref 123), (.ref 124), (.int 631 0), (.int 62 0), (.str (Str.ofString "/claim/cut.py") 632)]), #[]⟩) ::
(nat_lit 126, ⟨(.type "function"), .none, (.func ⟨(Str.ofString "_translate"), (Str.ofString "_translate"), fa14.1, (.stmts fb14.1), fs14.1, 3, [], .none, .none, .none, (.str (Str.ofString "cpy313.fnmatch") 613), .none, (.ref 125), .none, 0⟩), #[]⟩) ::
(nat_lit 127, ⟨(.type "tuple"), .none, (.seq #[] 0), #[]⟩) ::
(nat_lit 129, ⟨(.type "tuple"), .none, (.seq #[(.str (Str.ofString "inp") 637), (.str (Str.ofString "STAR") 638), (.str (Str.ofString "res") 639), (.str (Str.ofString "add") 640), (.str (Str.ofString "i") 641), (.str (Str.ofString "n") 642), (.str (Str.ofString "fixed") 643)] 0), #[]⟩) ::
(nat_lit 130, ⟨(.type "tuple"), .none, (.seq #[] 0), #[]⟩) ::
(nat_lit 132, ⟨(.type "code"), .none, (.fields #[(.str (Str.ofString "_join_translated_parts") 634), (.str (Str.ofString "_join_translated_parts") 635), (.str (Str.ofString "/claim/cut.py") 636), (.int 124 0), (.int 2 0), (.int 0 0), (.int 0 0), (.int 3 0), (.ref 127), (.bool .true), (.int 318 0), (.ref 128), .none, (.ref 129), (.ref 130), (.ref 131), (.int 644 0), (.int 124 0), (.str (Str.ofString "/claim/cut.py") 645)]), #[]⟩) ::
(nat_lit 133, ⟨(.type "function"), .none, (.func ⟨(Str.ofString "_join_translated_parts"), (Str.ofString "_join_translated_parts"), fa15.1, (.stmts fb15.1), fs15.1, 3, [], .none, .none, .none, (.str (Str.ofString "cpy313.fnmatch") 613), .none, (.ref 132), .none, 0⟩), #[]⟩) ::
(nat_lit 137, ⟨(.type "tuple"), .none, (.seq #[(.int 14 0), (.int 17 0), (.int 4 0), (.int 1 0), (.int 1 0), (.int 21 0), (.int 9 0), (.int 0 0), (.int 604043296 0), (.int 1 0), (.int 0 0), (.int 0 0), (.int 0 0), (.int 0 0), (.int 0 0), (.int 8 0), (.int 4 0), (.int 0 0), (.int 13 0), (.int 14 0), (.int 21 0), (.int 9 0), (.int 0 0), (.int 604043296 0), (.int 1 0), (.int 0 0), (.int 0 0), (.int 0 0), (.int 0 0), (.int 0 0), (.int 8 0), (.int 4 0), (.int 0 0), (.int 1 0)] 0), #[]⟩) ::
(nat_lit 138, ⟨(.type "re.Pattern"), .none, (.fields #[(.str (Str.ofString "[^\\w@%+=:,./-]") 648), (.int 256 685), (.int 0 0), .none, .none, (.ref 137), (.int 0 0)]), #[]⟩) ::
(nat_lit 146, ⟨(.type "tuple"), .none, (.seq #[] 0), #[]⟩) ::
(nat_lit 148, ⟨(.type "tuple"), .none, (.seq #[(.str (Str.ofString "n") 700), (.str (Str.ofString "what") 701)] 0), #[]⟩) ::
(nat_lit 149, ⟨(.type "tuple"), .none, (.seq #[] 0), #[]⟩) ::
(nat_lit 151, ⟨(.type "code"), .none, (.fields #[(.str (Str.ofString "_index") 697), (.str (Str.ofString "_index") 698), (.str (Str.ofString "/claim/cut.py") 699), (.int 158 0), (.int 2 0), (.int 0 0), (.int 0 0), (.int 3 0), (.ref 146), (.bool .true), (.int 318 0), (.ref 147), .none, (.ref 148), (.ref 149), (.ref 150), (.int 702 0), (.int 158 0), (.str (Str.ofString "/claim/cut.py") 703)]), #[]⟩) ::
(nat_lit 152, ⟨(.type "function"), .none, (.func ⟨(Str.ofString "_index"), (Str.ofString "_index"), fa19.1, (.stmts fb19.1), fs19.1, 3, [], .none, .none, .none, (.str (Str.ofString "io") 687), .none, (.ref 151), .none, 0⟩), #[]⟩) ::
(nat_lit 173, ⟨(.type "tuple"), .none, (.seq #[] 0), #[]⟩) ::
(nat_lit 175, ⟨(.type "tuple"), .none, (.seq #[(.str (Str.ofString "cls") 744), (.str (Str.ofString "args") 745), (.str (Str.ofString "kwargs") 746)] 0), #[]⟩) ::
(nat_lit 176, ⟨(.type "tuple"), .none, (.seq #[] 0), #[]⟩) ::
(nat_lit 178, ⟨(.type "code"), .none, (.fields #[(.str (Str.ofString "__new__") 741), (.str (Str.ofString "IOBase.__new__") 742), (.str (Str.ofString "/claim/cut.py") 743), (.int 170 0), (.int 1 0), (.int 1 0), (.int 0 0), (.int 15 0), (.ref 173), (.bool .true), (.int 318 0), (.ref 174), .none, (.ref 175), (.ref 176), (.ref 177), (.int 747 0), (.int 170 0), (.str (Str.ofString "/claim/cut.py") 748)]), #[]⟩) ::
(nat_lit 179, ⟨(.type "function"), .none, (.func ⟨(Str.ofString "__new__"), (Str.ofString "IOBase.__new__"), ma21x1.1, (.stmts mb21x1.1), ms21x1.1, 3, [], .none, .none, .none, (.str (Str.ofString "io") 687), .none, (.ref 178), .none, 0⟩), #[]⟩) ::
(nat_lit 181, ⟨(.type "dict"), .none, (.dict #[⟨(PySem.PyData.keyHash P (Str.ofString "__module__")), (.str (Str.ofString "__module__") 734), (.str (Str.ofString "io") 739)⟩, ⟨(PySem.PyData.keyHash P (Str.ofString "__firstlineno__")), (.str (Str.ofString "__firstlineno__") 738), (.int 167 737)⟩, ⟨(PySem.PyData.keyHash P (Str.ofString "__new__")), (.str (Str.ofString "__new__") 749), (.ref 183)⟩, ⟨(PySem.PyData.keyHash P (Str.ofString "__static_attributes__")), (.str (Str.ofString "__static_attributes__") 750), (.ref 180)⟩, ⟨(PySem.PyData.keyHash P (Str.ofString "__dict__")), (.str (Str.ofString "__dict__") 753), (.ref 184)⟩, ⟨(PySem.PyData.keyHash P (Str.ofString "__weakref__")), (.str (Str.ofString "__weakref__") 755), (.ref 185)⟩, ⟨(PySem.PyData.keyHash P (Str.ofString "__doc__")), (.str (Str.ofString "__doc__") 756), .none⟩] 4), #[]⟩) ::
(nat_lit 182, ⟨(.type "type"), .none, (.cls ⟨(Str.ofString "IOBase"), [(.type "object")], [(.ref 182), (.type "object")], 181, (Str.ofString "IOBase"), .true, [], [(.ref 197), (.ref 209)], .false, .none, .false⟩), #[.none, .none, (.some (.str (Str.ofString "IOBase") 727)), (.some (.str (Str.ofString "IOBase") 735)), (.some .none), (.some (.bool .true))]⟩) ::
(nat_lit 183, ⟨(.type "staticmethod"), .none, (.fields #[(.ref 179)]), #[]⟩) ::
(nat_lit 208, ⟨(.type "dict"), .none, (.dict #[⟨(PySem.PyData.keyHash P (Str.ofString "__module__")), (.str (Str.ofString "__module__") 784), (.str (Str.ofString "io") 789)⟩, ⟨(PySem.PyData.keyHash P (Str.ofString "__firstlineno__")), (.str (Str.ofString "__firstlineno__") 788), (.int 176 787)⟩, ⟨(PySem.PyData.keyHash P (Str.ofString "__static_attributes__")), (.str (Str.ofString "__static_attributes__") 791), (.ref 207)⟩, ⟨(PySem.PyData.keyHash P (Str.ofString "__doc__")), (.str (Str.ofString "__doc__") 792), .none⟩] 2), #[]⟩) ::
(nat_lit 209, ⟨(.type "type"), .none, (.cls ⟨(Str.ofString "TextIOBase"), [(.ref 182)], [(.ref 209), (.ref 182), (.type "object")], 208, (Str.ofString "TextIOBase"), .true, [], [(.ref 686)], .false, .none, .false⟩), #[(.some (.ref 200)), .none, (.some (.str (Str.ofString "TextIOBase") 777)), (.some (.str (Str.ofString "TextIOBase") 785)), (.some .none), (.some (.bool .true))]⟩) ::
(nat_lit 439, ⟨(.type "type"), .none, (.cls ⟨(Str.ofString "BytesIO"), [(.ref 197)], [(.ref 439), (.ref 197), (.ref 182), (.type "object")], 438, (Str.ofString "BytesIO"), .true, [], [], .false, .none, .false⟩), #[(.some (.ref 212)), .none, (.some (.str (Str.ofString "BytesIO") 795)), (.some (.str (Str.ofString "BytesIO") 803)), (.some .none), (.some (.bool .true))]⟩) ::
(nat_lit 449, ⟨(.type "tuple"), .none, (.seq #[(.str (Str.ofString "") 1071), (.str (Str.ofString "\n") 1072)] 0), #[]⟩) ::
(nat_lit 450, ⟨(.type "tuple"), .none, (.seq #[] 0), #[]⟩) ::
(nat_lit 452, ⟨(.type "tuple"), .none, (.seq #[(.str (Str.ofString "self") 1076), (.str (Str.ofString "initial_value") 1077), (.str (Str.ofString "newline") 1078)] 0), #[]⟩) ::
(nat_lit 453, ⟨(.type "tuple"), .none, (.seq #[] 0), #[]⟩) ::
(nat_lit 455, ⟨(.type "code"), .none, (.fields #[(.str (Str.ofString "__init__") 1073), (.str (Str.ofString "StringIO.__init__") 1074), (.str (Str.ofString "/claim/cut.py") 1075), (.int 351 0), (.int 3 0), (.int 0 0), (.int 0 0), (.int 3 0), (.ref 450), (.bool .true), (.int 318 0), (.ref 451), .none, (.ref 452), (.ref 453), (.ref 454), (.int 1079 0), (.int 351 0), (.str (Str.ofString "/claim/cut.py") 1080)]), #[]⟩) ::
(nat_lit 456, ⟨(.type "function"), .none, (.func ⟨(Str.ofString "__init__"), (Str.ofString "StringIO.__init__"), ma25x1.1, (.stmts mb25x1.1), ms25x1.1, 3, [], (.ref 449), .none, .none, (.str (Str.ofString "io") 687), .none, (.ref 455), .none, 0⟩), #[]⟩) ::
(nat_lit 457, ⟨(.type "tuple"), .none, (.seq #[] 0), #[]⟩) ::
(nat_lit 459, ⟨(.type "tuple"), .none, (.seq #[(.str (Str.ofString "self") 1085), (.str (Str.ofString "s") 1086), (.str (Str.ofString "newline") 1087)] 0), #[]⟩) ::
(nat_lit 460, ⟨(.type "tuple"), .none, (.seq #[] 0), #[]⟩) ::
(nat_lit 462, ⟨(.type "code"), .none, (.fields #[(.str (Str.ofString "__translated") 1082), (.str (Str.ofString "StringIO.__translated") 1083), (.str (Str.ofString "/claim/cut.py") 1084), (.int 364 0), (.int 2 0), (.int 0 0), (.int 0 0), (.int 3 0), (.ref 457), (.bool .true), (.int 318 0), (.ref 458), .none, (.ref 459), (.ref 460), (.ref 461), (.int 1088 0), (.int 364 0), (.str (Str.ofString "/claim/cut.py") 1089)]), #[]⟩) ::
(nat_lit 463, ⟨(.type "function"), .none, (.func ⟨(Str.ofString "__translated"), (Str.ofString "StringIO.__translated"), ma25x2.1, (.stmts mb25x2.1), ms25x2.1, 3, [], .none, .none, .none, (.str (Str.ofString "io") 687), .none, (.ref 462), .none, 0⟩), #[]⟩) ::
(nat_lit 464, ⟨(.type "tuple"), .none, (.seq #[] 0), #[]⟩) ::
(nat_lit 466, ⟨(.type "tuple"), .none, (.seq #[(.str (Str.ofString "self") 1094)] 0), #[]⟩) ::
(nat_lit 467, ⟨(.type "tuple"), .none, (.seq #[] 0), #[]⟩) ::
(nat_lit 469, ⟨(.type "code"), .none, (.fields #[(.str (Str.ofString "__check") 1091), (.str (Str.ofString "StringIO.__check") 1092), (.str (Str.ofString "/claim/cut.py") 1093), (.int 372 0), (.int 1 0), (.int 0 0), (.int 0 0), (.int 3 0), (.ref 464), (.bool .true), (.int 318 0), (.ref 465), .none, (.ref 466), (.ref 467), (.ref 468), (.int 1095 0), (.int 372 0), (.str (Str.ofString "/claim/cut.py") 1096)]), #[]⟩) ::
(nat_lit 470, ⟨(.type "function"), .none, (.func ⟨(Str.ofString "__check"), (Str.ofString "StringIO.__check"), ma25x3.1, (.stmts mb25x3.1), ms25x3.1, 3, [], .none, .none, .none, (.str (Str.ofString "io") 687), .none, (.ref 469), .none, 0⟩), #[]⟩) ::
(nat_lit 625, ⟨(.type "tuple"), .none, (.seq #[(.int (-1) 1264)] 0), #[]⟩) ::
(nat_lit 626, ⟨(.type "tuple"), .none, (.seq #[] 0), #[]⟩) ::
(nat_lit 628, ⟨(.type "tuple"), .none, (.seq #[(.str (Str.ofString "self") 1268), (.str (Str.ofString "size") 1269), (.str (Str.ofString "start") 1270), (.str (Str.ofString "stop") 1271)] 0), #[]⟩) ::
(nat_lit 629, ⟨(.type "tuple"), .none, (.seq #[] 0), #[]⟩) ::
(nat_lit 631, ⟨(.type "code"), .none, (.fields #[(.str (Str.ofString "read") 1265), (.str (Str.ofString "StringIO.read") 1266), (.str (Str.ofString "/claim/cut.py") 1267), (.int 494 0), (.int 2 0), (.int 2 0), (.int 0 0), (.int 3 0), (.ref 626), (.bool .true), (.int 318 0), (.ref 627), .none, (.ref 628), (.ref 629), (.ref 630), (.int 1272 0), (.int 494 0), (.str (Str.ofString "/claim/cut.py") 1273)]), #[]⟩) ::
(nat_lit 632, ⟨(.type "function"), .none, (.func ⟨(Str.ofString "read"), (Str.ofString "StringIO.read"), ma25x25.1, (.stmts mb25x25.1), ms25x25.1, 3, [], (.ref 625), .none, .none, (.str (Str.ofString "io") 687), .none, (.ref 631), .none, 0⟩), #[]⟩) ::
(nat_lit 685, ⟨(.type "dict"), .none, (.dict #[⟨(PySem.PyData.keyHash P (Str.ofString "__module__")), (.str (Str.ofString "__module__") 1064), (.str (Str.ofString "_io") 1069)⟩, ⟨(PySem.PyData.keyHash P (Str.ofString "__firstlineno__")), (.str (Str.ofString "__firstlineno__") 1068), (.int 348 1067)⟩, ⟨(PySem.PyData.keyHash P (Str.ofString "__init__")), (.str (Str.ofString "__init__") 1081), (.ref 456)⟩, ⟨(PySem.PyData.keyHash P (Str.ofString "_StringIO__translated")), (.str (Str.ofString "_StringIO__translated") 1090), (.ref 463)⟩, ⟨(PySem.PyData.keyHash P (Str.ofString "_StringIO__check")), (.str (Str.ofString "_StringIO__check") 1097), (.ref 470)⟩, ⟨(PySem.PyData.keyHash P (Str.ofString "_StringIO__check_dot")), (.str (Str.ofString "_StringIO__check_dot") 1104), (.ref 477)⟩, ⟨(PySem.PyData.keyHash P (Str.ofString "_StringIO__line")), (.str (Str.ofString "_StringIO__line") 1119), (.ref 484)⟩, ⟨(PySem.PyData.keyHash P (Str.ofString "closed")), (.str (Str.ofString "closed") 1127), (.ref 492)⟩, ⟨(PySem.PyData.keyHash P (Str.ofString "line_buffering")), (.str (Str.ofString "line_buffering") 1135), (.ref 500)⟩, ⟨(PySem.PyData.keyHash P (Str.ofString "newlines")), (.str (Str.ofString "newlines") 1143), (.ref 508)⟩, ⟨(PySem.PyData.keyHash P (Str.ofString "encoding")), (.str (Str.ofString "encoding") 1151), (.ref 516)⟩, ⟨(PySem.PyData.keyHash P (Str.ofString "errors")), (.str (Str.ofString "errors") 1159), (.ref 524)⟩, ⟨(PySem.PyData.keyHash P (Str.ofString "close")), (.str (Str.ofString "close") 1166), (.ref 531)⟩, ⟨(PySem.PyData.keyHash P (Str.ofString "__enter__")), (.str (Str.ofString "__enter__") 1173), (.ref 538)⟩, ⟨(PySem.PyData.keyHash P (Str.ofString "__exit__")), (.str (Str.ofString "__exit__") 1181), (.ref 545)⟩, ⟨(PySem.PyData.keyHash P (Str.ofString "readable")), (.str (Str.ofString "readable") 1188), (.ref 552)⟩, ⟨(PySem.PyData.keyHash P (Str.ofString "writable")), (.str (Str.ofString "writable") 1195), (.ref 559)⟩, ⟨(PySem.PyData.keyHash P (Str.ofString "seekable")), (.str (Str.ofString "seekable") 1202), (.ref 566)⟩, ⟨(PySem.PyData.keyHash P (Str.ofString "isatty")), (.str (Str.ofString "isatty") 1209), (.ref 573)⟩, ⟨(PySem.PyData.keyHash P (Str.ofString "flush")), (.str (Str.ofString "flush") 1216), (.ref 580)⟩, ⟨(PySem.PyData.keyHash P (Str.ofString "fileno")), (.str (Str.ofString "fileno") 1223), (.ref 587)⟩, ⟨(PySem.PyData.keyHash P (Str.ofString "detach")), (.str (Str.ofString "detach") 1230), (.ref 594)⟩, ⟨(PySem.PyData.keyHash P (Str.ofString "getvalue")), (.str (Str.ofString "getvalue") 1237), (.ref 601)⟩, ⟨(PySem.PyData.keyHash P (Str.ofString "tell")), (.str (Str.ofString "tell") 1244), (.ref 608)⟩, ⟨(PySem.PyData.keyHash P (Str.ofString "seek")), (.str (Str.ofString "seek") 1254), (.ref 616)⟩, ⟨(PySem.PyData.keyHash P (Str.ofString "truncate")), (.str (Str.ofString "truncate") 1262), (.ref 624)⟩, ⟨(PySem.PyData.keyHash P (Str.ofString "read")), (.str (Str.ofString "read") 1274), (.ref 632)⟩, ⟨(PySem.PyData.keyHash P (Str.ofString "readline")), (.str (Str.ofString "readline") 1284), (.ref 640)⟩, ⟨(PySem.PyData.keyHash P (Str.ofString "readlines")), (.str (Str.ofString "readlines") 1294), (.ref 648)⟩, ⟨(PySem.PyData.keyHash P (Str.ofString "__iter__")), (.str (Str.ofString "__iter__") 1301), (.ref 655)⟩, ⟨(PySem.PyData.keyHash P (Str.ofString "__next__")), (.str (Str.ofString "__next__") 1309), (.ref 662)⟩, ⟨(PySem.PyData.keyHash P (Str.ofString "write")), (.str (Str.ofString "write") 1321), (.ref 669)⟩, ⟨(PySem.PyData.keyHash P (Str.ofString "writelines")), (.str (Str.ofString "writelines") 1329), (.ref 676)⟩, ⟨(PySem.PyData.keyHash P (Str.ofString "__repr__")), (.str (Str.ofString "__repr__") 1336), (.ref 683)⟩, ⟨(PySem.PyData.keyHash P (Str.ofString "__static_attributes__")), (.str (Str.ofString "__static_attributes__") 1340), (.ref 684)⟩, ⟨(PySem.PyData.keyHash P (Str.ofString "__doc__")), (.str (Str.ofString "__doc__") 1341), .none⟩] 2), #[]⟩) ::
(nat_lit 686, ⟨(.type "type"), .none, (.cls ⟨(Str.ofString "StringIO"), [(.ref 209)], [(.ref 686), (.ref 209), (.ref 182), (.type "object")], 685, (Str.ofString "StringIO"), .true, [], [], .false, .none, .false⟩), #[(.some (.ref 442)), .none, (.some (.str (Str.ofString "StringIO") 1057)), (.some (.str (Str.ofString "StringIO") 1065)), (.some .none), (.some (.bool .true))]⟩) ::
(nat_lit 738, ⟨(.type "tuple"), .none, (.seq #[.none, .none, (.bool .false), (.bool .false)] 0), #[]⟩) ::
(nat_lit 739, ⟨(.type "tuple"), .none, (.seq #[] 0), #[]⟩) ::
(nat_lit 741, ⟨(.type "tuple"), .none, (.seq #[(.str (Str.ofString "self") 1420), (.str (Str.ofString "instream") 1421), (.str (Str.ofString "infile") 1422), (.str (Str.ofString "posix") 1423), (.str (Str.ofString "punctuation_chars") 1424), (.str (Str.ofString "t") 1425)] 0), #[]⟩) ::
(nat_lit 742, ⟨(.type "tuple"), .none, (.seq #[] 0), #[]⟩) ::
(nat_lit 744, ⟨(.type "code"), .none, (.fields #[(.str (Str.ofString "__init__") 1417), (.str (Str.ofString "shlex.__init__") 1418), (.str (Str.ofString "/claim/cut.py") 1419), (.int 620 0), (.int 5 0), (.int 0 0), (.int 0 0), (.int 3 0), (.ref 739), (.bool .true), (.int 318 0), (.ref 740), .none, (.ref 741), (.ref 742), (.ref 743), (.int 1426 0), (.int 620 0), (.str (Str.ofString "/claim/cut.py") 1427)]), #[]⟩) ::
(nat_lit 745, ⟨(.type "function"), .none, (.func ⟨(Str.ofString "__init__"), (Str.ofString "shlex.__init__"), ma35x0.1, (.stmts mb35x0.1), ms35x0.1, 3, [], (.ref 738), .none, .none, (.str (Str.ofString "cpy313.shlex") 1403), .none, (.ref 744), .none, 0⟩), #[]⟩) ::
(nat_lit 746, ⟨(.type "tuple"), .none, (.seq #[] 0), #[]⟩) ::
(nat_lit 748, ⟨(.type "tuple"), .none, (.seq #[(.str (Str.ofString "self") 1432)] 0), #[]⟩) ::
(nat_lit 749, ⟨(.type "tuple"), .none, (.seq #[] 0), #[]⟩) ::
(nat_lit 751, ⟨(.type "code"), .none, (.fields #[(.str (Str.ofString "punctuation_chars") 1429), (.str (Str.ofString "shlex.punctuation_chars") 1430), (.str (Str.ofString "/claim/cut.py") 1431), (.int 661 0), (.int 1 0), (.int 0 0), (.int 0 0), (.int 3 0), (.ref 746), (.bool .true), (.int 318 0), (.ref 747), .none, (.ref 748), (.ref 749), (.ref 750), (.int 1433 0), (.int 661 0), (.str (Str.ofString "/claim/cut.py") 1434)]), #[]⟩) ::
(nat_lit 752, ⟨(.type "function"), .none, (.func ⟨(Str.ofString "punctuation_chars"), (Str.ofString "shlex.punctuation_chars"), ma35x1.1, (.stmts mb35x1.1), ms35x9.1, 3, [], .none, .none, .none, (.str (Str.ofString "cpy313.shlex") 1403), .none, (.ref 751), .none, 0⟩), #[]⟩) ::
(nat_lit 753, ⟨(.type "property"), .none, (.fields #[(.ref 752), .none, .none, .none, (.str (Str.ofString "punctuation_chars") 1436), (.bool .false)]), #[]⟩) ::
(nat_lit 776, ⟨(.type "tuple"), .none, (.seq #[] 0), #[]⟩) ::
(nat_lit 778, ⟨(.type "tuple"), .none, (.seq #[(.str (Str.ofString "self") 1464), (.str (Str.ofString "tok") 1465), (.str (Str.ofString "raw") 1466), (.str (Str.ofString "spec") 1467), (.str (Str.ofString "newfile") 1468), (.str (Str.ofString "newstream") 1469)] 0), #[]⟩) ::
(nat_lit 779, ⟨(.type "tuple"), .none, (.seq #[] 0), #[]⟩) ::
(nat_lit 781, ⟨(.type "code"), .none, (.fields #[(.str (Str.ofString "get_token") 1461), (.str (Str.ofString "shlex.get_token") 1462), (.str (Str.ofString "/claim/cut.py") 1463), (.int 688 0), (.int 1 0), (.int 0 0), (.int 0 0), (.int 3 0), (.ref 776), (.bool .true), (.int 318 0), (.ref 777), .none, (.ref 778), (.ref 779), (.ref 780), (.int 1470 0), (.int 688 0), (.str (Str.ofString "/claim/cut.py") 1471)]), #[]⟩) ::
(nat_lit 782, ⟨(.type "function"), .none, (.func ⟨(Str.ofString "get_token"), (Str.ofString "shlex.get_token"), ma35x5.1, (.stmts mb35x5.1), ms35x5.1, 3, [], .none, .none, .none, (.str (Str.ofString "cpy313.shlex") 1403), .none, (.ref 781), .none, 0⟩), #[]⟩) ::
(nat_lit 783, ⟨(.type "tuple"), .none, (.seq #[] 0), #[]⟩) ::
(nat_lit 785, ⟨(.type "tuple"), .none, (.seq #[(.str (Str.ofString "self") 1476), (.str (Str.ofString "quoted") 1477), (.str (Str.ofString "escapedstate") 1478), (.str (Str.ofString "nextchar") 1479), (.str (Str.ofString "result") 1480)] 0), #[]⟩) ::
(nat_lit 786, ⟨(.type "tuple"), .none, (.seq #[] 0), #[]⟩) ::
(nat_lit 788, ⟨(.type "code"), .none, (.fields #[(.str (Str.ofString "read_token") 1473), (.str (Str.ofString "shlex.read_token") 1474), (.str (Str.ofString "/claim/cut.py") 1475), (.int 715 0), (.int 1 0), (.int 0 0), (.int 0 0), (.int 3 0), (.ref 783), (.bool .true), (.int 318 0), (.ref 784), .none, (.ref 785), (.ref 786), (.ref 787), (.int 1481 0), (.int 715 0), (.str (Str.ofString "/claim/cut.py") 1482)]), #[]⟩) ::
(nat_lit 789, ⟨(.type "function"), .none, (.func ⟨(Str.ofString "read_token"), (Str.ofString "shlex.read_token"), ma35x6.1, (.stmts mb35x6.1), ms35x6.1, 3, [], .none, .none, .none, (.str (Str.ofString "cpy313.shlex") 1403), .none, (.ref 788), .none, 0⟩), #[]⟩) ::
(nat_lit 805, ⟨(.type "tuple"), .none, (.seq #[] 0), #[]⟩) ::
(nat_lit 807, ⟨(.type "tuple"), .none, (.seq #[(.str (Str.ofString "self") 1504)] 0), #[]⟩) ::
(nat_lit 808, ⟨(.type "tuple"), .none, (.seq #[] 0), #[]⟩) ::
(nat_lit 810, ⟨(.type "code"), .none, (.fields #[(.str (Str.ofString "__iter__") 1501), (.str (Str.ofString "shlex.__iter__") 1502), (.str (Str.ofString "/claim/cut.py") 1503), (.int 862 0), (.int 1 0), (.int 0 0), (.int 0 0), (.int 3 0), (.ref 805), (.bool .true), (.int 318 0), (.ref 806), .none, (.ref 807), (.ref 808), (.ref 809), (.int 1505 0), (.int 862 0), (.str (Str.ofString "/claim/cut.py") 1506)]), #[]⟩) ::
(nat_lit 811, ⟨(.type "function"), .none, (.func ⟨(Str.ofString "__iter__"), (Str.ofString "shlex.__iter__"), ma35x9.1, (.stmts mb35x9.1), ms35x9.1, 3, [], .none, .none, .none, (.str (Str.ofString "cpy313.shlex") 1403), .none, (.ref 810), .none, 0⟩), #[]⟩) ::
(nat_lit 812, ⟨(.type "tuple"), .none, (.seq #[] 0), #[]⟩) ::
(nat_lit 814, ⟨(.type "tuple"), .none, (.seq #[(.str (Str.ofString "self") 1511), (.str (Str.ofString "token") 1512)] 0), #[]⟩) ::
(nat_lit 815, ⟨(.type "tuple"), .none, (.seq #[] 0), #[]⟩) ::
(nat_lit 817, ⟨(.type "code"), .none, (.fields #[(.str (Str.ofString "__next__") 1508), (.str (Str.ofString "shlex.__next__") 1509), (.str (Str.ofString "/claim/cut.py") 1510), (.int 865 0), (.int 1 0), (.int 0 0), (.int 0 0), (.int 3 0), (.ref 812), (.bool .true), (.int 318 0), (.ref 813), .none, (.ref 814), (.ref 815), (.ref 816), (.int 1513 0), (.int 865 0), (.str (Str.ofString "/claim/cut.py") 1514)]), #[]⟩) ::
(nat_lit 818, ⟨(.type "function"), .none, (.func ⟨(Str.ofString "__next__"), (Str.ofString "shlex.__next__"), ma35x10.1, (.stmts mb35x10.1), ms35x10.1, 3, [], .none, .none, .none, (.str (Str.ofString "cpy313.shlex") 1403), .none, (.ref 817), .none, 0⟩), #[]⟩) ::
(nat_lit 820, ⟨(.type "dict"), .none, (.dict #[⟨(PySem.PyData.keyHash P (Str.ofString "__module__")), (.str (Str.ofString "__module__") 1412), (.str (Str.ofString "cpy313.shlex") 1403)⟩, ⟨(PySem.PyData.keyHash P (Str.ofString "__firstlineno__")), (.str (Str.ofString "__firstlineno__") 1416), (.int 618 1415)⟩, ⟨(PySem.PyData.keyHash P (Str.ofString "__init__")), (.str (Str.ofString "__init__") 1428), (.ref 745)⟩, ⟨(PySem.PyData.keyHash P (Str.ofString "punctuation_chars")), (.str (Str.ofString "punctuation_chars") 1436), (.ref 753)⟩, ⟨(PySem.PyData.keyHash P (Str.ofString "push_token")), (.str (Str.ofString "push_token") 1444), (.ref 760)⟩, ⟨(PySem.PyData.keyHash P (Str.ofString "push_source")), (.str (Str.ofString "push_source") 1453), (.ref 768)⟩, ⟨(PySem.PyData.keyHash P (Str.ofString "pop_source")), (.str (Str.ofString "pop_source") 1460), (.ref 775)⟩, ⟨(PySem.PyData.keyHash P (Str.ofString "get_token")), (.str (Str.ofString "get_token") 1472), (.ref 782)⟩, ⟨(PySem.PyData.keyHash P (Str.ofString "read_token")), (.str (Str.ofString "read_token") 1483), (.ref 789)⟩, ⟨(PySem.PyData.keyHash P (Str.ofString "sourcehook")), (.str (Str.ofString "sourcehook") 1491), (.ref 796)⟩, ⟨(PySem.PyData.keyHash P (Str.ofString "error_leader")), (.str (Str.ofString "error_leader") 1500), (.ref 804)⟩, ⟨(PySem.PyData.keyHash P (Str.ofString "__iter__")), (.str (Str.ofString "__iter__") 1507), (.ref 811)⟩, ⟨(PySem.PyData.keyHash P (Str.ofString "__next__")), (.str (Str.ofString "__next__") 1515), (.ref 818)⟩, ⟨(PySem.PyData.keyHash P (Str.ofString "__static_attributes__")), (.str (Str.ofString "__static_attributes__") 1536), (.ref 819)⟩, ⟨(PySem.PyData.keyHash P (Str.ofString "__dict__")), (.str (Str.ofString "__dict__") 1538), (.ref 822)⟩, ⟨(PySem.PyData.keyHash P (Str.ofString "__weakref__")), (.str (Str.ofString "__weakref__") 1540), (.ref 823)⟩, ⟨(PySem.PyData.keyHash P (Str.ofString "__doc__")), (.str (Str.ofString "__doc__") 1541), .none⟩] 4), #[]⟩) ::
(nat_lit 821, ⟨(.type "type"), .none, (.cls ⟨(Str.ofString "shlex"), [(.type "object")], [(.ref 821), (.type "object")], 820, (Str.ofString "shlex"), .true, [], [], .false, .none, .false⟩), #[.none, .none, (.some (.str (Str.ofString "shlex") 1405)), (.some (.str (Str.ofString "shlex") 1413)), (.some (.builtin "object.__new__")), (.some (.bool .true))]⟩) ::
(nat_lit 826, ⟨(.type "tuple"), .none, (.seq #[(.bool .false), (.bool .true)] 0), #[]⟩) ::
(nat_lit 827, ⟨(.type "tuple"), .none, (.seq #[] 0), #[]⟩) ::
(nat_lit 829, ⟨(.type "tuple"), .none, (.seq #[(.str (Str.ofString "s") 1547), (.str (Str.ofString "comments") 1548), (.str (Str.ofString "posix") 1549), (.str (Str.ofString "lex") 1550)] 0), #[]⟩) ::
(nat_lit 830, ⟨(.type "tuple"), .none, (.seq #[] 0), #[]⟩) ::
(nat_lit 832, ⟨(.type "code"), .none, (.fields #[(.str (Str.ofString "split") 1544), (.str (Str.ofString "split") 1545), (.str (Str.ofString "/claim/cut.py") 1546), (.int 870 0), (.int 3 0), (.int 0 0), (.int 0 0), (.int 3 0), (.ref 827), (.bool .true), (.int 318 0), (.ref 828), .none, (.ref 829), (.ref 830), (.ref 831), (.int 1551 0), (.int 870 0), (.str (Str.ofString "/claim/cut.py") 1552)]), #[]⟩) ::
(nat_lit 833, ⟨(.type "function"), .none, (.func ⟨(Str.ofString "split"), (Str.ofString "split"), fa36.1, (.stmts fb36.1), fs36.1, 3, [], (.ref 826), .none, .none, (.str (Str.ofString "cpy313.shlex") 1403), .none, (.ref 832), .none, 0⟩), #[]⟩) ::
(nat_lit 834, ⟨(.type "tuple"), .none, (.seq #[] 0), #[]⟩) ::
(nat_lit 836, ⟨(.type "tuple"), .none, (.seq #[(.str (Str.ofString "split_command") 1557)] 0), #[]⟩) ::
(nat_lit 837, ⟨(.type "tuple"), .none, (.seq #[] 0), #[]⟩) ::
(nat_lit 839, ⟨(.type "code"), .none, (.fields #[(.str (Str.ofString "join") 1554), (.str (Str.ofString "join") 1555), (.str (Str.ofString "/claim/cut.py") 1556), (.int 878 0), (.int 1 0), (.int 0 0), (.int 0 0), (.int 3 0), (.ref 834), (.bool .true), (.int 318 0), (.ref 835), .none, (.ref 836), (.ref 837), (.ref 838), (.int 1558 0), (.int 878 0), (.str (Str.ofString "/claim/cut.py") 1559)]), #[]⟩) ::
(nat_lit 840, ⟨(.type "function"), .none, (.func ⟨(Str.ofString "join"), (Str.ofString "join"), fa37.1, (.stmts fb37.1), fs37.1, 3, [], .none, .none, .none, (.str (Str.ofString "cpy313.shlex") 1403), .none, (.ref 839), .none, 0⟩), #[]⟩) ::
(nat_lit 841, ⟨(.type "builtin_function_or_method"), .none, (.fields #[(.builtin "re.Pattern.search"), (.ref 138)]), #[]⟩) ::
(nat_lit 842, ⟨(.type "tuple"), .none, (.seq #[] 0), #[]⟩) ::
(nat_lit 844, ⟨(.type "tuple"), .none, (.seq #[(.str (Str.ofString "s") 1567)] 0), #[]⟩) ::
(nat_lit 845, ⟨(.type "tuple"), .none, (.seq #[] 0), #[]⟩) ::
(nat_lit 847, ⟨(.type "code"), .none, (.fields #[(.str (Str.ofString "quote") 1564), (.str (Str.ofString "quote") 1565), (.str (Str.ofString "/claim/cut.py") 1566), (.int 882 0), (.int 1 0), (.int 0 0), (.int 0 0), (.int 3 0), (.ref 842), (.bool .true), (.int 318 0), (.ref 843), .none, (.ref 844), (.ref 845), (.ref 846), (.int 1568 0), (.int 882 0), (.str (Str.ofString "/claim/cut.py") 1569)]), #[]⟩) ::
(nat_lit 848, ⟨(.type "function"), .none, (.func ⟨(Str.ofString "quote"), (Str.ofString "quote"), fa40.1, (.stmts fb40.1), fs40.1, 3, [], .none, .none, .none, (.str (Str.ofString "cpy313.shlex") 1403), .none, (.ref 847), .none, 0⟩), #[]⟩) ::
(nat_lit 849, ⟨(.type "tuple"), .none, (.seq #[] 0), #[]⟩) ::
(nat_lit 851, ⟨(.type "tuple"), .none, (.seq #[(.str (Str.ofString "sign") 1576)] 0), #[]⟩) ::
(nat_lit 852, ⟨(.type "tuple"), .none, (.seq #[] 0), #[]⟩) ::
(nat_lit 854, ⟨(.type "code"), .none, (.fields #[(.str (Str.ofString "_law_barred") 1573), (.str (Str.ofString "_law_barred") 1574), (.str (Str.ofString "/claim/cut.py") 1575), (.int 889 0), (.int 1 0), (.int 0 0), (.int 0 0), (.int 3 0), (.ref 849), (.bool .true), (.int 318 0), (.ref 850), .none, (.ref 851), (.ref 852), (.ref 853), (.int 1577 0), (.int 889 0), (.str (Str.ofString "/claim/cut.py") 1578)]), #[]⟩) ::
(nat_lit 855, ⟨(.type "function"), .none, (.func ⟨(Str.ofString "_law_barred"), (Str.ofString "_law_barred"), fa42.1, (.stmts fb42.1), fs42.1, 3, [], .none, .none, .none, (.str (Str.ofString "law_kt0089_01") 1571), .none, (.ref 854), .none, 0⟩), #[]⟩) ::
(nat_lit 856, ⟨(.type "tuple"), .none, (.seq #[] 0), #[]⟩) ::
(nat_lit 858, ⟨(.type "tuple"), .none, (.seq #[(.str (Str.ofString "text") 1583), (.str (Str.ofString "body") 1584), (.str (Str.ofString "pieces") 1585), (.str (Str.ofString "stand") 1586), (.str (Str.ofString "at") 1587), (.str (Str.ofString "fence") 1588)] 0), #[]⟩) ::
(nat_lit 859, ⟨(.type "tuple"), .none, (.seq #[] 0), #[]⟩) ::
(nat_lit 861, ⟨(.type "code"), .none, (.fields #[(.str (Str.ofString "_law_pieces") 1580), (.str (Str.ofString "_law_pieces") 1581), (.str (Str.ofString "/claim/cut.py") 1582), (.int 891 0), (.int 1 0), (.int 0 0), (.int 0 0), (.int 3 0), (.ref 856), (.bool .true), (.int 318 0), (.ref 857), .none, (.ref 858), (.ref 859), (.ref 860), (.int 1589 0), (.int 891 0), (.str (Str.ofString "/claim/cut.py") 1590)]), #[]⟩) ::
(nat_lit 862, ⟨(.type "function"), .none, (.func ⟨(Str.ofString "_law_pieces"), (Str.ofString "_law_pieces"), fa43.1, (.stmts fb43.1), fs43.1, 3, [], .none, .none, .none, (.str (Str.ofString "law_kt0089_01") 1571), .none, (.ref 861), .none, 0⟩), #[]⟩) ::
(nat_lit 863, ⟨(.type "tuple"), .none, (.seq #[] 0), #[]⟩) ::
(nat_lit 865, ⟨(.type "tuple"), .none, (.seq #[(.str (Str.ofString "pieces") 1595), (.str (Str.ofString "name") 1596), (.str (Str.ofString "at") 1597), (.str (Str.ofString "piece") 1598), (.str (Str.ofString "place") 1599), (.str (Str.ofString "behind") 1600)] 0), #[]⟩) ::
(nat_lit 866, ⟨(.type "tuple"), .none, (.seq #[] 0), #[]⟩) ::
(nat_lit 868, ⟨(.type "code"), .none, (.fields #[(.str (Str.ofString "_law_takes") 1592), (.str (Str.ofString "_law_takes") 1593), (.str (Str.ofString "/claim/cut.py") 1594), (.int 923 0), (.int 2 0), (.int 0 0), (.int 0 0), (.int 3 0), (.ref 863), (.bool .true), (.int 318 0), (.ref 864), .none, (.ref 865), (.ref 866), (.ref 867), (.int 1601 0), (.int 923 0), (.str (Str.ofString "/claim/cut.py") 1602)]), #[]⟩) ::
(nat_lit 869, ⟨(.type "function"), .none, (.func ⟨(Str.ofString "_law_takes"), (Str.ofString "_law_takes"), fa44.1, (.stmts fb44.1), fs44.1, 3, [], .none, .none, .none, (.str (Str.ofString "law_kt0089_01") 1571), .none, (.ref 868), .none, 0⟩), #[]⟩) ::
(nat_lit 870, ⟨(.type "tuple"), .none, (.seq #[] 0), #[]⟩) ::
(nat_lit 872, ⟨(.type "tuple"), .none, (.seq #[(.str (Str.ofString "numbers") 1607), (.str (Str.ofString "rest") 1608), (.str (Str.ofString "order") 1609), (.str (Str.ofString "x") 1610)] 0), #[]⟩) ::
(nat_lit 873, ⟨(.type "tuple"), .none, (.seq #[] 0), #[]⟩) ::
(nat_lit 875, ⟨(.type "code"), .none, (.fields #[(.str (Str.ofString "_law_order") 1604), (.str (Str.ofString "_law_order") 1605), (.str (Str.ofString "/claim/cut.py") 1606), (.int 938 0), (.int 1 0), (.int 0 0), (.int 0 0), (.int 3 0), (.ref 870), (.bool .true), (.int 318 0), (.ref 871), .none, (.ref 872), (.ref 873), (.ref 874), (.int 1611 0), (.int 938 0), (.str (Str.ofString "/claim/cut.py") 1612)]), #[]⟩) ::
(nat_lit 876, ⟨(.type "function"), .none, (.func ⟨(Str.ofString "_law_order"), (Str.ofString "_law_order"), fa45.1, (.stmts fb45.1), fs45.1, 3, [], .none, .none, .none, (.str (Str.ofString "law_kt0089_01") 1571), .none, (.ref 875), .none, 0⟩), #[]⟩) ::
(nat_lit 877, ⟨(.type "tuple"), .none, (.seq #[] 0), #[]⟩) ::
(nat_lit 879, ⟨(.type "tuple"), .none, (.seq #[(.str (Str.ofString "numbers") 1617), (.str (Str.ofString "signs") 1618), (.str (Str.ofString "k") 1619)] 0), #[]⟩) ::
(nat_lit 880, ⟨(.type "tuple"), .none, (.seq #[] 0), #[]⟩) ::
(nat_lit 882, ⟨(.type "code"), .none, (.fields #[(.str (Str.ofString "_law_signs") 1614), (.str (Str.ofString "_law_signs") 1615), (.str (Str.ofString "/claim/cut.py") 1616), (.int 944 0), (.int 1 0), (.int 0 0), (.int 0 0), (.int 3 0), (.ref 877), (.bool .true), (.int 318 0), (.ref 878), .none, (.ref 879), (.ref 880), (.ref 881), (.int 1620 0), (.int 944 0), (.str (Str.ofString "/claim/cut.py") 1621)]), #[]⟩) ::
(nat_lit 883, ⟨(.type "function"), .none, (.func ⟨(Str.ofString "_law_signs"), (Str.ofString "_law_signs"), fa46.1, (.stmts fb46.1), fs46.1, 3, [], .none, .none, .none, (.str (Str.ofString "law_kt0089_01") 1571), .none, (.ref 882), .none, 0⟩), #[]⟩) ::
(nat_lit 884, ⟨(.type "tuple"), .none, (.seq #[] 0), #[]⟩) ::
(nat_lit 886, ⟨(.type "tuple"), .none, (.seq #[(.str (Str.ofString "ports") 1626), (.str (Str.ofString "rounds") 1627), (.str (Str.ofString "seen") 1628), (.str (Str.ofString "start") 1629), (.str (Str.ofString "place") 1630)] 0), #[]⟩) ::
(nat_lit 887, ⟨(.type "tuple"), .none, (.seq #[] 0), #[]⟩) ::
(nat_lit 889, ⟨(.type "code"), .none, (.fields #[(.str (Str.ofString "_law_rounds") 1623), (.str (Str.ofString "_law_rounds") 1624), (.str (Str.ofString "/claim/cut.py") 1625), (.int 952 0), (.int 1 0), (.int 0 0), (.int 0 0), (.int 3 0), (.ref 884), (.bool .true), (.int 318 0), (.ref 885), .none, (.ref 886), (.ref 887), (.ref 888), (.int 1631 0), (.int 952 0), (.str (Str.ofString "/claim/cut.py") 1632)]), #[]⟩) ::
(nat_lit 890, ⟨(.type "function"), .none, (.func ⟨(Str.ofString "_law_rounds"), (Str.ofString "_law_rounds"), fa47.1, (.stmts fb47.1), fs47.1, 3, [], .none, .none, .none, (.str (Str.ofString "law_kt0089_01") 1571), .none, (.ref 889), .none, 0⟩), #[]⟩) ::
(nat_lit 891, ⟨(.type "tuple"), .none, (.seq #[] 0), #[]⟩) ::
(nat_lit 893, ⟨(.type "tuple"), .none, (.seq #[(.str (Str.ofString "line") 1637), (.str (Str.ofString "fault") 1638)] 0), #[]⟩) ::
(nat_lit 894, ⟨(.type "tuple"), .none, (.seq #[] 0), #[]⟩) ::
(nat_lit 896, ⟨(.type "code"), .none, (.fields #[(.str (Str.ofString "_law_read") 1634), (.str (Str.ofString "_law_read") 1635), (.str (Str.ofString "/claim/cut.py") 1636), (.int 963 0), (.int 1 0), (.int 0 0), (.int 0 0), (.int 3 0), (.ref 891), (.bool .true), (.int 318 0), (.ref 892), .none, (.ref 893), (.ref 894), (.ref 895), (.int 1639 0), (.int 963 0), (.str (Str.ofString "/claim/cut.py") 1640)]), #[]⟩) ::
(nat_lit 897, ⟨(.type "function"), .none, (.func ⟨(Str.ofString "_law_read"), (Str.ofString "_law_read"), fa48.1, (.stmts fb48.1), fs48.1, 3, [], .none, .none, .none, (.str (Str.ofString "law_kt0089_01") 1571), .none, (.ref 896), .none, 0⟩), #[]⟩) ::
(nat_lit 898, ⟨(.type "tuple"), .none, (.seq #[] 0), #[]⟩) ::
(nat_lit 901, ⟨(.type "code"), .none, (.fields #[(.str (Str.ofString "law") 1642), (.str (Str.ofString "law") 1643), (.str (Str.ofString "/claim/cut.py") 1644), (.int 968 0), (.int 1 0), (.int 0 0), (.int 0 0), (.int 3 0), (.ref 898), (.bool .true), (.int 318 0), (.ref 899), .none, .none, .none, (.ref 900), (.int 1645 0), (.int 968 0), (.str (Str.ofString "/claim/cut.py") 1646)]), #[]⟩) ::
(nat_lit 902, ⟨(.type "function"), .none, (.func ⟨(Str.ofString "law"), (Str.ofString "law"), fa49.1, (.stmts fb49.1), fs49.1, 3, [], .none, .none, .none, (.str (Str.ofString "law_kt0089_01") 1571), .none, (.ref 901), .none, 0⟩), #[]⟩) :: []
noncomputable def KH (P : Params) : Frag := (nat_lit 121, ⟨.none, .none, (.fields #[]), #[]⟩) :: (nat_lit 835, ⟨.none, .none, (.fields #[]), #[]⟩) :: KF P
noncomputable def KA : List Addr := [nat_lit 121, nat_lit 835, nat_lit 2, nat_lit 3, nat_lit 82, nat_lit 84, nat_lit 85, nat_lit 87, nat_lit 88, nat_lit 89, nat_lit 91, nat_lit 92, nat_lit 94, nat_lit 95, nat_lit 99, nat_lit 100, nat_lit 101, nat_lit 103, nat_lit 104, nat_lit 106, nat_lit 107, nat_lit 109, nat_lit 113, nat_lit 115, nat_lit 116, nat_lit 118, nat_lit 119, nat_lit 120, nat_lit 122, nat_lit 123, nat_lit 125, nat_lit 126, nat_lit 127, nat_lit 129, nat_lit 130, nat_lit 132, nat_lit 133, nat_lit 137, nat_lit 138, nat_lit 146, nat_lit 148, nat_lit 149, nat_lit 151, nat_lit 152, nat_lit 173, nat_lit 175, nat_lit 176, nat_lit 178, nat_lit 179, nat_lit 181, nat_lit 182, nat_lit 183, nat_lit 208, nat_lit 209, nat_lit 439, nat_lit 449, nat_lit 450, nat_lit 452, nat_lit 453, nat_lit 455, nat_lit 456, nat_lit 457, nat_lit 459, nat_lit 460, nat_lit 462, nat_lit 463, nat_lit 464, nat_lit 466, nat_lit 467, nat_lit 469, nat_lit 470, nat_lit 625, nat_lit 626, nat_lit 628, nat_lit 629, nat_lit 631, nat_lit 632, nat_lit 685, nat_lit 686, nat_lit 738, nat_lit 739, nat_lit 741, nat_lit 742, nat_lit 744, nat_lit 745, nat_lit 746, nat_lit 748, nat_lit 749, nat_lit 751, nat_lit 752, nat_lit 753, nat_lit 776, nat_lit 778, nat_lit 779, nat_lit 781, nat_lit 782, nat_lit 783, nat_lit 785, nat_lit 786, nat_lit 788, nat_lit 789, nat_lit 805, nat_lit 807, nat_lit 808, nat_lit 810, nat_lit 811, nat_lit 812, nat_lit 814, nat_lit 815, nat_lit 817, nat_lit 818, nat_lit 820, nat_lit 821, nat_lit 826, nat_lit 827, nat_lit 829, nat_lit 830, nat_lit 832, nat_lit 833, nat_lit 834, nat_lit 836, nat_lit 837, nat_lit 839, nat_lit 840, nat_lit 841, nat_lit 842, nat_lit 844, nat_lit 845, nat_lit 847, nat_lit 848, nat_lit 849, nat_lit 851, nat_lit 852, nat_lit 854, nat_lit 855, nat_lit 856, nat_lit 858, nat_lit 859, nat_lit 861, nat_lit 862, nat_lit 863, nat_lit 865, nat_lit 866, nat_lit 868, nat_lit 869, nat_lit 870, nat_lit 872, nat_lit 873, nat_lit 875, nat_lit 876, nat_lit 877, nat_lit 879, nat_lit 880, nat_lit 882, nat_lit 883, nat_lit 884, nat_lit 886, nat_lit 887, nat_lit 889, nat_lit 890, nat_lit 891, nat_lit 893, nat_lit 894, nat_lit 896, nat_lit 897, nat_lit 898, nat_lit 901, nat_lit 902]
end Mine
namespace Mine
-- MHead
open PySem PySem.W PyProof.Rows
set_option maxHeartbeats 0
noncomputable abbrev tDen : Code → Sem Fin := PySem.W.Fast.tw11892475500146522536 PySem.W.Fast.tw14364793385576792824
noncomputable abbrev tStep := PySem.W.Fast.tw10156331382660048174 tDen
theorem tden_eq : denote treeTable = tDen := congr PySem.W.Fast.te11892475500146522536 PySem.W.Fast.te14364793385576792824
theorem tstep_eq : stepT (denote treeTable) = tStep := congr PySem.W.Fast.te10156331382660048174 tden_eq
noncomputable abbrev tOk := PySem.W.Fast.tw6613529449190102663
theorem tok_eq : stepOk = tOk := PySem.W.Fast.te6613529449190102663
noncomputable abbrev tSeg := PySem.W.Fast.tw10110043849684766642 PySem.W.Fast.tw14364793385576792824
theorem tseg_eq : segRunT treeTable = tSeg := congr PySem.W.Fast.te10110043849684766642 PySem.W.Fast.te14364793385576792824
noncomputable abbrev tExit := PySem.W.Fast.tw3805553451399329143
theorem exit_eq : Thread.atExitBegin = tExit := PySem.W.Fast.te3805553451399329143

noncomputable def impF (ex : Thread → Option (List Value)) (st : SharedT → Thread → Option (SharedT × Thread)) : Nat → SharedT → Thread → Option SharedT
  | 0, _, _ => none
  | n + 1, s, t => match ex t with
    | some [] => some s
    | some (_ :: _) => none
    | none => match st s t with
      | some (s', t') => impF ex st n s' t'
      | none => none
theorem impF_of {tb : String → Option Builtin} {p : Program} {w : World} : ∀ {n : Nat} {s s' : SharedT} {t : Thread}, impF Thread.atExitBegin (stepT (denote tb) p w) n s t = some s' → importEnds tb p w n s.abs t = some s'.abs
  | 0, _, _, _, h => by cases h
  | n + 1, s, s', t, h => by
    unfold impF at h
    unfold importEnds
    cases he : t.atExitBegin with
    | some l =>
      rw [he] at h
      cases l with
      | nil => cases h; rfl
      | cons => cases h
    | none =>
      rw [he] at h
      cases hs : stepT (denote tb) p w s t with
      | none => rw [hs] at h; cases h
      | some r => obtain ⟨s₂, t₂⟩ := r; rw [hs] at h; dsimp only; rw [stepT_spec hs]; exact impF_of h
noncomputable def runF (ok thr : Thread → Bool) (st : SharedT → Thread → Option (SharedT × Thread)) : Nat → SharedT → Thread → Option SharedT
  | 0, _, _ => none
  | n + 1, s, t => match thr t with
    | true => some s
    | false => match ok t with
      | false => none
      | true => match st s t with
        | some (s', t') => runF ok thr st n s' t'
        | none => none
theorem runF_of {tb : String → Option Builtin} {p : Program} {w : World} {n₀ : Nat} {ann : Option Value} : ∀ {n : Nat} {s s' : SharedT} {t : Thread}, runF (stepOk n₀ ann) through (stepT (denote tb) p w) n s t = some s' → topRun tb p w n₀ ann n s.abs t = some s'.abs
  | 0, _, _, _, h => by cases h
  | n + 1, s, s', t, h => by
    unfold runF at h
    unfold topRun
    cases he : through t with
    | true => rw [he] at h; cases h; rfl
    | false =>
      rw [he] at h
      cases hk : stepOk n₀ ann t with
      | false => rw [hk] at h; cases h
      | true =>
        rw [hk] at h
        cases hs : stepT (denote tb) p w s t with
        | none => rw [hs] at h; cases h
        | some r => obtain ⟨s₂, t₂⟩ := r; rw [hs] at h; dsimp only; rw [stepT_spec hs]; exact runF_of h
noncomputable def goF (ok thr : Thread → Bool) (st : SharedT → Thread → Option (SharedT × Thread)) : Nat → SharedT → Thread → Option (SharedT × Thread)
  | 0, s, t => some (s, t)
  | n + 1, s, t => match thr t with
    | true => none
    | false => match ok t with
      | false => none
      | true => match st s t with
        | some (s', t') => goF ok thr st n s' t'
        | none => none
theorem goF_of {tb : String → Option Builtin} {p : Program} {w : World} {n₀ : Nat} {ann : Option Value} : ∀ {n : Nat} {s s' : SharedT} {t t' : Thread}, goF (stepOk n₀ ann) through (stepT (denote tb) p w) n s t = some (s', t') → topGo tb p w n₀ ann n s.abs t = some (s'.abs, t')
  | 0, _, _, _, _, h => by cases h; rfl
  | n + 1, s, s', t, t', h => by
    unfold goF at h
    unfold topGo
    cases he : through t with
    | true => rw [he] at h; cases h
    | false =>
      rw [he] at h
      cases hk : stepOk n₀ ann t with
      | false => rw [hk] at h; cases h
      | true =>
        rw [hk] at h
        cases hs : stepT (denote tb) p w s t with
        | none => rw [hs] at h; cases h
        | some r => obtain ⟨s₂, t₂⟩ := r; rw [hs] at h; dsimp only; rw [stepT_spec hs]; exact goF_of h

noncomputable abbrev st (T : BT) (n toks : Nat) (os : OsState) : SharedT := ⟨T, n, {}, #[], {}, toks, os⟩
noncomputable abbrev op := opening pw
noncomputable abbrev p00 : Pos := ⟨0, 0, 0, 0⟩
noncomputable abbrev envT : Env := { scope := pw.main.scope, locals := mainNs, globals := mainNs, cells := [], code := .ref 36, frame := some 37 }
noncomputable abbrev cE : Code := .body (behindTheImports pw) envT
noncomputable abbrev BF : List Frame := [topFrame p00]
noncomputable abbrev annT : Option Value := some (.ref 6)
noncomputable abbrev bd : List Stmt := behindTheImports pw
noncomputable def cut (i n : Nat) : List Stmt := (bd.drop i).take n
theorem t_pre (w : World) (os : OsState) : goF (tOk 34 annT) through (tStep pw w) 12 (st (treeZ w.params) 34 318 os) (topStub pw) = some (st (treeP w.params) 38 324 os, ⟨tDen cE, cE, p00, BF⟩) := by kernel_rfl
theorem t_blk (w : World) (os : OsState) : tSeg pw w 34 annT 1 1 (st (treeP w.params) 38 324 os) (blockOf bd envT cE p00 BF) = some (.next, st (treeP w.params) 38 324 os, cE, p00) := by kernel_rfl
theorem pre_ok (w : World) (os : OsState) : topGo treeTable pw w 34 annT 12 (st (treeZ w.params) 34 318 os).abs (topStub pw) = some ((st (treeP w.params) 38 324 os).abs, ⟨denote treeTable cE, cE, p00, BF⟩) := by
  refine goF_of ?_
  rw [tstep_eq, tok_eq, tden_eq]
  exact t_pre w os
theorem blk_ok (w : World) (os : OsState) : segRun treeTable pw w 34 annT 1 1 (st (treeP w.params) 38 324 os).abs (blockOf bd envT cE p00 BF) = some (.next, (st (treeP w.params) 38 324 os).abs, cE, p00) := by
  refine segRun_of ?_
  rw [tseg_eq]
  exact t_blk w os
noncomputable abbrev pA : Pos := ⟨53, 0, 53, 8⟩
noncomputable abbrev pB : Pos := ⟨54, 0, 54, 18⟩
theorem t_B (b c : Bool) (w : World) (os : OsState) : tSeg pw ((w.withFollow "comprehension-iter-twice" b).withFollow "special-get-raises" c) 34 annT 1 1400 (st (treeA w.params) 108 460 os) (piecesOf (cut 11 1) envT cE pA BF) = some (.next, st (treeB w.params) 113 606 os, cE, pB) := by
  cases b <;> cases c <;> kernel_rfl
theorem t_A (w : World) (os : OsState) : tSeg pw w 34 annT 1 859 (st (treeP w.params) 38 324 os) (piecesOf (cut 0 11) envT cE p00 BF) = some (.next, st (treeA w.params) 108 460 os, cE, pA) := by kernel_rfl
end Mine
namespace Mine
-- MLeft
open PySem PySem.W PyProof.Rows
set_option maxHeartbeats 0
noncomputable abbrev H0P (P : Params) : Heap := absHeap (treeZ P) 34 {}
theorem t_imp (w : World) : impF tExit (tStep op w) 1100 (st .nil 0 1 (start op).1.os) (start op).2 = some (st (treeI w.params) 34 318 (start op).1.os) := by kernel_rfl
theorem t_fence (w : World) : (fun os => (fenceModules? pw ⟨absHeap (treeI w.params) 34 {}, #[], {}, 318, os⟩).map (fun s => (s.heap, s.gens, s.drawn, s.toks))) = fun _ => some (H0P w.params, (#[] : Array GenState), ({} : Drawn), 318) := by kernel_rfl
theorem t_size (w : World) : ((H0P w.params).isNs mainGlobals && (#[] : Array GenState).size == 0, (H0P w.params).objs.size, (H0P w.params).nsMap mainGlobals "__annotations__") = (true, 34, annT) := by kernel_rfl
theorem imp_ok (w : World) : importEnds treeTable op w 1100 (start op).1 (start op).2 = some ⟨absHeap (treeI w.params) 34 {}, #[], {}, 318, (start op).1.os⟩ := by
  have h : impF Thread.atExitBegin (stepT (denote treeTable) op w) 1100 (st .nil 0 1 (start op).1.os) (start op).2 = some (st (treeI w.params) 34 318 (start op).1.os) := by
    rw [tstep_eq, exit_eq]
    exact t_imp w
  have h2 := impF_of h
  exact h2
theorem open_ok (N : Nat) (hN : Nat.ble 1100 N = true) (w : World) : (fencedOpening treeTable pw w N).map (fun s => (s.heap, s.gens, s.drawn, s.toks)) = some (H0P w.params, (#[] : Array GenState), ({} : Drawn), 318) :=
  open_cut (He := fun P => absHeap (treeI P) 34 {}) (H₀ := H0P) (M := 1100) imp_ok hN t_fence w
noncomputable abbrev qv : Program := view pw [0, 1, 51]
noncomputable def looseL : List Str := [S "_wall", S "Error", S "error_reply", S "error_proto", S "parse229", S "parse257", S "twin_re_1_fnmatch", S "translate", S "_special_chars_map", S "escape", S "_translate", S "_join_translated_parts", S "twin_re_1_shlex", S "_whence", S "_index", S "UnsupportedOperation", S "IOBase", S "BufferedIOBase", S "TextIOBase", S "BytesIO", S "StringIO", S "_kind", S "_fspath", S "_check_arg_types", S "isabs", S "join", S "join_path", S "dirname", S "shlex", S "split", S "join_shlex", S "_find_unsafe", S "quote", S "_law_barred", S "_law_pieces", S "_law_takes", S "_law_order", S "_law_signs", S "_law_rounds", S "_law_read"]
noncomputable abbrev rowR : OpenRow := OpenLaw.row PySem.Challenge.rw_kt0089_01
noncomputable abbrev mdsL : List Str := importedModules pw.main.body
noncomputable abbrev XtF (s : Shared) : Bool := xlAt qv [] s && recOk (RowW.records rowR.toRowW) s
noncomputable abbrev tSeen := PySem.W.Fast.tw4187177175401517315
theorem seen_eq : @openSeen = tSeen := PySem.W.Fast.te4187177175401517315
noncomputable abbrev obsQ (w : World) (s : Shared) := (staticsOk mdsL (H0P w.params) s.heap && namesBound pw s.heap && gensDone s && laidKept (H0P w.params) s.heap, tSeen qv looseL mdsL XtF true s, KA.map s.heap.get?)
noncomputable abbrev goodQ (w : World) := (true, openGood qv looseL, (KH w.params).map fun p => some p.2)
theorem t_fin (w : World) (os : OsState) : (runF (tOk 34 annT) through (tStep pw w) 5600 (st (treeB w.params) 113 606 os) (restOf (bd.drop 12) envT cE pB BF)).map (fun s => obsQ w s.abs) = some (goodQ w) := by kernel_rfl
theorem A_ok (w : World) (os : OsState) : segRun treeTable pw w 34 annT 1 859 (st (treeP w.params) 38 324 os).abs (piecesOf (cut 0 11) envT cE p00 BF) = some (.next, (st (treeA w.params) 108 460 os).abs, cE, pA) := by
  refine segRun_of ?_
  rw [tseg_eq]
  exact t_A w os
theorem B_ok (w : World) (os : OsState) : segRun treeTable pw w 34 annT 1 1400 (st (treeA w.params) 108 460 os).abs (piecesOf (cut 11 1) envT cE pA BF) = some (.next, (st (treeB w.params) 113 606 os).abs, cE, pB) := by
  refine segRun_of ?_
  rw [tseg_eq]
  have key : ∀ w : World, ∀ b : Bool, tSeg pw (w.withFollow "comprehension-iter-twice" b) 34 annT 1 1400 (st (treeA w.params) 108 460 os) (piecesOf (cut 11 1) envT cE pA BF) = some (.next, st (treeB w.params) 113 606 os, cE, pB) := by
    intro w b
    have h := fun c => t_B b c w os
    have e := World.withFollow_self (w.withFollow "comprehension-iter-twice" b) "special-get-raises"
    have h' := h ((w.withFollow "comprehension-iter-twice" b).params.followText "special-get-raises")
    rw [e] at h'
    exact h'
  have h := key w (w.params.followText "comprehension-iter-twice")
  rw [World.withFollow_self] at h
  exact h
theorem cut_eq {α : Type} (l : List α) : (l.drop 0).take 11 ++ ((l.drop 11).take 1 ++ l.drop 12) = l := by
  rw [show l.drop 12 = (l.drop 11).drop 1 by rw [List.drop_drop], List.take_append_drop, List.drop_zero, List.take_append_drop]
theorem bd_eq : cut 0 11 ++ (cut 11 1 ++ bd.drop 12) = bd := cut_eq bd
noncomputable abbrev obsO (w : World) (s : Shared) := (staticsOk mdsL (H0P w.params) s.heap && namesBound pw s.heap && gensDone s && laidKept (H0P w.params) s.heap, openSeen qv looseL mdsL XtF true s, KA.map s.heap.get?)
theorem finH_ok (w : World) (os : OsState) : ∃ s : SharedT, runF (stepOk 34 annT) through (stepT (denote treeTable) pw w) 5600 (st (treeB w.params) 113 606 os) (restOf (bd.drop 12) envT cE pB BF) = some s ∧ obsO w s.abs = goodQ w := by
  obtain ⟨s, h1, h2⟩ := Option.map_eq_some_iff.mp (t_fin w os)
  refine ⟨s, ?_, ?_⟩
  · rw [tok_eq, tstep_eq]; exact h1
  · unfold obsO
    rw [seen_eq]
    exact h2
theorem run_ok (w : World) (os : OsState) : ∃ s : Shared, topRun treeTable pw w 34 annT (12 + (1 + (859 + (1400 + 5600)))) ⟨H0P w.params, #[], {}, 318, os⟩ (topStub pw) = some s ∧ obsO w s = goodQ w := by
  obtain ⟨s, h1, h2⟩ := finH_ok w os
  refine ⟨s.abs, ?_, h2⟩
  have r0 := runF_of h1
  have r1 := piece_app (B_ok w os) r0
  have r2 := piece_app (A_ok w os) r1
  rw [bd_eq] at r2
  have r3 := piece_block (blk_ok w os) r2
  exact go_top (pre_ok w os) r3
theorem leftO_of {p q : Program} {loose : List Str} {Xt : Shared → Bool} {α : Type} {Yf : Shared → α} {Ya : World → α} {N : Nat} {g0 : Bool} {H₀ : Params → Heap} {gs₀ : Array GenState} {d₀ : Drawn} {k₀ : Nat} {m₀ : Nat} {ann : Option Value} {M : Nat}
    (open_ : ∀ w : World, (fencedOpening treeTable p w N).map (fun s => (s.heap, s.gens, s.drawn, s.toks)) = some (H₀ w.params, gs₀, d₀, k₀))
    (size : ∀ w : World, ((H₀ w.params).isNs mainGlobals && gs₀.size == 0, (H₀ w.params).objs.size, (H₀ w.params).nsMap mainGlobals "__annotations__") = (true, m₀, ann))
    (run : ∀ (w : World) (os : OsState), ∃ s : Shared, topRun treeTable p w m₀ ann M ⟨H₀ w.params, gs₀, d₀, k₀, os⟩ (topStub p) = some s ∧
      (staticsOk (importedModules p.main.body) (H₀ w.params) s.heap && namesBound p s.heap && gensDone s && laidKept (H₀ w.params) s.heap, openSeen q loose (importedModules p.main.body) Xt g0 s, Yf s) = (true, openGood q loose, Ya w)) (le : Nat.ble M N = true) : LeftO p q loose Xt Yf Ya N g0 := fun w => by
  obtain ⟨⟨h, gs, d, k, os⟩, e, e'⟩ := Option.map_eq_some_iff.mp (open_ w)
  obtain ⟨rfl, rfl, rfl, rfl⟩ : h = H₀ w.params ∧ gs = gs₀ ∧ d = d₀ ∧ k = k₀ := by simpa using e'
  obtain ⟨z1, z2, z3⟩ : _ ∧ _ ∧ _ := by simpa only [Prod.mk.injEq] using size w
  obtain ⟨s, rs, ob⟩ := run w os
  have l1 := congrArg Prod.fst ob
  have l2 := congrArg (fun x => x.2.1) ob
  have l3 := congrArg (fun x => x.2.2) ob
  dsimp only at l1 l2 l3
  have r := topRun_mono (N - M) _ _ _ _ rs
  rw [show M + (N - M) = N by have := Nat.le_of_ble_eq_true le; omega] at r
  have t : topFrom treeTable p w N ⟨H₀ w.params, gs, d, k, os⟩ = some s := by
    unfold topFrom
    dsimp only
    rw [z1, z2, z3, r]
    show (match staticsOk (importedModules p.main.body) (H₀ w.params) s.heap && namesBound p s.heap && gensDone s && laidKept (H₀ w.params) s.heap with | true => _ | false => _) = _
    rw [l1]
  unfold openEnds
  rw [e]
  show (topFrom treeTable p w N _).map _ = _
  rw [t]
  exact congrArg some (Prod.ext l2 l3)
noncomputable abbrev HK : Hook := kHook KH KA (fun _ => by kernel_rfl)
theorem left_ok : LeftO pw qv looseL XtF (Hook.obs HK) (Hook.val HK) 8000 :=
  leftO_of (H₀ := H0P) (M := 12 + (1 + (859 + (1400 + 5600)))) (open_ok 8000 rfl) t_size run_ok rfl
noncomputable abbrev lawD : DefRec := ⟨Str.ofString "law", fa49.1, fb49.1, fs49.1, ⟨968, 0, 1001, 80⟩⟩
end Mine
namespace Mine
-- TopK
open PySem PySem.W PyProof.Rows
set_option maxHeartbeats 8000000
theorem def_ok : defOf qv rowR.name = some (lawD, []) := by kernel_rfl
theorem the_ok : rowR.prog.theDef rowR.name = some (lawD.params, lawD.body, lawD.scope) := by kernel_rfl
theorem kw_ok : kwWritten? lawD.params.kwonlyargs lawD.params.kw_defaults = some [] := by kernel_rfl
theorem promised_ok : rowR.toRowW.promised := ⟨[.list []], by decide +kernel, by decide +kernel⟩
theorem bare_ok : rowR.prog.bare := ⟨rfl, rfl, rfl, rfl, rfl, by decide +kernel⟩
theorem ok_ok : (chainsOk qv && opensWell rowR.prog && (frees rowR.toRowW && rowR.within.isEmpty)) = true := by decide +kernel
end Mine
namespace Mine
-- Said2
open PySem PySem.W PyProof.Rows
set_option maxHeartbeats 0
theorem said_ok : PySem.Challenge.rw_kt0089_01.wellSaid = true := by
  refine (congrFun PySem.W.Fast.te9446332074065402090 _).trans ?_
  delta PySem.W.Fast.tw9446332074065402090
  repeat' (with_reducible refine look_both ?_ ?_)
  delta PySem.W.Fast.tw17960256430627541270
  repeat' (with_reducible refine look_both ?_ ?_)
  delta PySem.W.Fast.tw2436336058641802641
  repeat' (with_reducible refine look_both ?_ ?_)
  delta PySem.W.Fast.tw12908688711261696721
  repeat' (with_reducible refine look_both ?_ ?_)
  all_goals decide +kernel
end Mine
namespace Mine
-- Base
open PySem PySem.W PyProof.Rows PySem.Spec PySem.Calls
set_option maxHeartbeats 8000000
theorem om_le {a n m : Nat} (h : a ≤ n) (k : Nat.ble n m = true) : a ≤ m := Nat.le_trans h (Nat.le_of_ble_eq_true k)
theorem om_lt {a n m : Nat} (h : a ≤ n) (k : Nat.ble (n + 1) m = true) : a < m := Nat.lt_of_le_of_lt h (Nat.le_of_ble_eq_true k)
theorem om_lt2 {a n m : Nat} (h : a < n) (k : Nat.ble n m = true) : a < m := Nat.lt_of_lt_of_le h (Nat.le_of_ble_eq_true k)
theorem om_le2 {a n m : Nat} (h : a < n) (k : Nat.ble n (m + 1) = true) : a ≤ m := Nat.le_of_lt_succ (Nat.lt_of_lt_of_le h (Nat.le_of_ble_eq_true k))
theorem om_add {a c n m : Nat} (h : a ≤ n) (k : Nat.ble (n + c) m = true) : a + c ≤ m := Nat.le_trans (Nat.add_le_add_right h c) (Nat.le_of_ble_eq_true k)
theorem om_room {a k n : Nat} (h : a + k < n) : a < n := Nat.lt_of_le_of_lt (Nat.le_add_right _ _) h
theorem om_room2 {a j k n : Nat} (h : a + k < n) (e : Nat.ble j k = true) : a + j < n := Nat.lt_of_le_of_lt (Nat.add_le_add_left (Nat.le_of_ble_eq_true e) a) h
theorem om_room3 {a i j k n : Nat} (h : a + k < n) (e : Nat.ble (i + j) k = true) : a + i + j < n := Nat.add_assoc a i j ▸ om_room2 h e
theorem om_ne1 {a b : Nat} (h : a < b) : b ≠ a := Nat.ne_of_gt h
theorem om_ne2 {a b : Nat} (h : a < b) : a ≠ b := Nat.ne_of_lt h
theorem om_il {a n m : Nat} (h : a ≤ n) (k : Nat.ble (n + 1) m = true) : (a : Int) < @OfNat.ofNat Int m instOfNat := Int.ofNat_lt.mpr (om_lt h k)
theorem om_il2 {a n m : Nat} (h : a < n) (k : Nat.ble n m = true) : (a : Int) < @OfNat.ofNat Int m instOfNat := Int.ofNat_lt.mpr (om_lt2 h k)
theorem om_ile {a n m : Nat} (h : a ≤ n) (k : Nat.ble n m = true) : (a : Int) ≤ @OfNat.ofNat Int m instOfNat := Int.ofNat_le.mpr (om_le h k)
theorem om_i0 (a : Nat) : (0 : Int) ≤ (a : Int) := Int.natCast_nonneg a
theorem om_in (a m : Nat) : -(@OfNat.ofNat Int m instOfNat) ≤ (a : Int) := Int.le_trans (Int.neg_nonpos_of_nonneg (Int.natCast_nonneg m)) (Int.natCast_nonneg a)
theorem om_in2 {a m : Nat} (k : Nat.ble 1 m = true) : -(@OfNat.ofNat Int m instOfNat) < (a : Int) := Int.lt_of_lt_of_le (Int.neg_neg_of_pos (Int.natCast_pos.mpr (Nat.le_of_ble_eq_true k))) (Int.natCast_nonneg a)
theorem om_ip {a n e : Nat} (h : a ≤ n) (k : Nat.ble (n + 1) (2 ^ e) = true) : (a : Int) < 2 ^ e := by
  have := om_lt h k
  have e2 : ((2 ^ e : Nat) : Int) = 2 ^ e := by simp
  rw [← e2]
  exact Int.ofNat_lt.mpr this
theorem om_ip2 {a n e : Nat} (h : a < n) (k : Nat.ble n (2 ^ e) = true) : (a : Int) < 2 ^ e := by
  have := om_lt2 h k
  have e2 : ((2 ^ e : Nat) : Int) = 2 ^ e := by simp
  rw [← e2]
  exact Int.ofNat_lt.mpr this
theorem om_two (i : Int) (a b c : Nat) (h : Nat.beq (a + b) c = true) : i + @OfNat.ofNat Int c instOfNat = i + @OfNat.ofNat Int a instOfNat + @OfNat.ofNat Int b instOfNat := by
  have e := Nat.eq_of_beq_eq_true h
  subst e
  exact (Int.add_assoc i a b).symm
noncomputable abbrev Led := List (Addr × Obj)
noncomputable abbrev CtrN (rd ru : Nat) (w : World) (p : Program) (loose : List Str) (mean : ExcName → Option Value) (mg mb : Str → Option Value) (f : Value) (news : Led) (vs : List Value) (Post : (Value → Led → Prop) → Prop) (Err : (Value → Heap → Led → Prop) → Prop) : Prop :=
  ∀ (dp un : Nat) (gd : Option (List Code)) (cn : Str) (cs : Scope) (a : Addr) (ccd : Value) (cl : List (Str × Addr)) (outer : List Env) (A₀ : Around) (base h₀ : Heap) (L : Addr) (m : Str → Option Value) (s : Shared) (Q E : Value → Shared → Prop),
    Below A₀ base outer h₀ → Fr h₀ L s.heap m → (KF w.params).In h₀ → News h₀ L s.heap news → Top p loose mean mg mb h₀ → cs.kind = .function → dp + rd < recursionLimit → un + ru < cLine →
    (Post fun v news' => ∀ (h' : Heap) (tk' : Nat), Fr h₀ L h' m → News h₀ L h' news' → Q v { s with heap := h', toks := tk' }) →
    (Err fun e h' news' => ∀ (tk' : Nat), Fr h₀ L h' m → News h₀ L h' news' → E e { s with heap := h', toks := tk' }) →
      wpAny (model pw w) (ktrTop dp un gd cn cs L a ccd cl outer) (call f vs) Q E s
noncomputable abbrev CtrG (w : World) (p : Program) (loose : List Str) (mean : ExcName → Option Value) (mg mb : Str → Option Value) (f : Value) (news : Led) (vs : List Value) (Post : (Value → Led → Prop) → Prop) (Err : (Value → Heap → Led → Prop) → Prop) : Prop :=
  ∀ (dp un : Nat) (gd : Option (List Code)) (cn : Str) (cs : Scope) (a : Addr) (ccd : Value) (cl : List (Str × Addr)) (outer : List Env) (A₀ : Around) (base h₀ : Heap) (L : Addr) (m : Str → Option Value) (s : Shared) (Q E : Value → Shared → Prop),
    Below A₀ base outer h₀ → Fr h₀ L s.heap m → (KF w.params).In h₀ → News h₀ L s.heap news → Top p loose mean mg mb h₀ → cs.kind = .function → dp + 40 < recursionLimit → un + 200 < cLine →
    (Post fun v news' => ∀ (h' : Heap) (tk' : Nat), Fr h₀ L h' m → News h₀ L h' news' → Q v { s with heap := h', toks := tk' }) →
    (Err fun e h' news' => ∀ (tk' : Nat), Fr h₀ L h' m → News h₀ L h' news' → E e { s with heap := h', toks := tk' }) →
      wpAny (model pw w) (ktrTop dp un gd cn cs L a ccd cl outer) (call f vs) Q E s
noncomputable abbrev CtrV (w : World) (p : Program) (loose : List Str) (mean : ExcName → Option Value) (mg mb : Str → Option Value) (f : Value) (news : Led) (vs : List Value) (R : Tok → Value) : Prop :=
  CtrG w p loose mean mg mb f news vs (fun k => ∀ t, k (R t) news) (fun _ => True)
noncomputable def Hold (P : Prop) : Prop := P
theorem hold {P : Prop} (h : Hold P) : P := h
theorem ite_no {c : Bool} {A B : Prop} (h : c = false) (b : B) : if c = true then A else B := by rw [if_neg (by rw [h]; exact Bool.false_ne_true)]; exact b
theorem ite_yes {c : Bool} {A B : Prop} (h : c = true) (a : A) : if c = true then A else B := by rw [if_pos h]; exact a
noncomputable def WEnd {σ : Type} (h₀ : Heap) (L : Addr) (s : Shared) (Ld : σ → Led) (ps : σ → List (Str × Value)) (P : σ → Prop) (μ : σ → Nat) (n : Nat) (s₂ : Shared) : Prop :=
  ∃ (c' : σ) (h' : Heap) (tk : Nat) (m' : Str → Option Value) (news' : Led), s₂ = { s with heap := h', toks := tk } ∧ Fr h₀ L h' m' ∧ News h₀ L h' news' ∧ (∀ p ∈ Ld c', p ∈ news') ∧ (∀ p ∈ ps c', m' p.1 = some p.2) ∧ P c' ∧ μ c' < n
noncomputable def WPost {σ : Type} (h₀ : Heap) (L : Addr) (s : Shared) (Ld : σ → Led) (ps : σ → List (Str × Value)) (P : σ → Prop) (μ : σ → Nat) (Q : Flow → Shared → Prop) (n : Nat) (f : Flow) (s₂ : Shared) : Prop :=
  match f with
  | .ret v => Q (.ret v) s₂
  | .brk => Q .next s₂
  | _ => WEnd h₀ L s Ld ps P μ n s₂
theorem wpost_next {σ : Type} {h₀ : Heap} {L : Addr} {s s₂ : Shared} {Ld : σ → Led} {ps : σ → List (Str × Value)} {P : σ → Prop} {μ : σ → Nat} {Q : Flow → Shared → Prop} {n : Nat} (h : WEnd h₀ L s Ld ps P μ n s₂) : WPost h₀ L s Ld ps P μ Q n .next s₂ := h
theorem wpost_cont {σ : Type} {h₀ : Heap} {L : Addr} {s s₂ : Shared} {Ld : σ → Led} {ps : σ → List (Str × Value)} {P : σ → Prop} {μ : σ → Nat} {Q : Flow → Shared → Prop} {n : Nat} (h : WEnd h₀ L s Ld ps P μ n s₂) : WPost h₀ L s Ld ps P μ Q n .cont s₂ := h
theorem wpost_ret {σ : Type} {h₀ : Heap} {L : Addr} {s s₂ : Shared} {Ld : σ → Led} {ps : σ → List (Str × Value)} {P : σ → Prop} {μ : σ → Nat} {Q : Flow → Shared → Prop} {n : Nat} {v : Value} (h : Q (.ret v) s₂) : WPost h₀ L s Ld ps P μ Q n (.ret v) s₂ := h
theorem wpost_brk {σ : Type} {h₀ : Heap} {L : Addr} {s s₂ : Shared} {Ld : σ → Led} {ps : σ → List (Str × Value)} {P : σ → Prop} {μ : σ → Nat} {Q : Flow → Shared → Prop} {n : Nat} (h : Q .next s₂) : WPost h₀ L s Ld ps P μ Q n .brk s₂ := h
theorem fold_wq {M : Model} {A : Around} {env : Env} {test : Expr} {body : List Stmt} {W Q : Flow → Shared → Prop} {E : Value → Shared → Prop} {s : Shared}
    (h : let q := W; wpAny M A (isTrue test env (eval test env)) (fun b s₂ => if b = true then wpAny M A (execs body env) q E s₂ else Q .next s₂) E s) :
    wpAny M A (isTrue test env (eval test env)) (fun b s₂ => if b = true then wpAny M A (execs body env) W E s₂ else Q .next s₂) E s := h
theorem fold_q {α : Type} {M : Model} {A : Around} {t : Sem α} {Q : α → Shared → Prop} {E : Value → Shared → Prop} {s : Shared} (h : let q := Q; wpAny M A t q E s) : wpAny M A t Q E s := h
theorem w_end {σ : Type} {h₀ : Heap} {L : Addr} {s : Shared} {Ld : σ → Led} {ps : σ → List (Str × Value)} {P : σ → Prop} {μ : σ → Nat} {n : Nat} {h' : Heap} {tk : Nat} {m' : Str → Option Value} {news' : Led} (c' : σ)
    (F : Fr h₀ L h' m') (N : News h₀ L h' news') (hn : ∀ p ∈ Ld c', p ∈ news') (hk : ∀ p ∈ ps c', m' p.1 = some p.2) (hp : P c') (hm : μ c' < n) :
    WEnd h₀ L s Ld ps P μ n { s with heap := h', toks := tk } := ⟨c', h', tk, m', news', rfl, F, N, hn, hk, hp, hm⟩
theorem w_while {σ : Type} {prog : Program} {w : World} {A : Around} {E : Value → Shared → Prop} {Q : Flow → Shared → Prop} {s : Shared} {env : Env} {h₀ : Heap} {L : Addr} {test : Expr} {body : List Stmt} {pos : Pos} {m₀ : Str → Option Value} {news : Led}
    (Ld : σ → Led) (ps : σ → List (Str × Value)) (P : σ → Prop) (μ : σ → Nat) (c₀ : σ)
    (F : Fr h₀ L s.heap m₀) (N : News h₀ L s.heap news) (hn : ∀ p ∈ Ld c₀, p ∈ news) (hk : ∀ p ∈ ps c₀, m₀ p.1 = some p.2) (hp : P c₀)
    (turn : ∀ (c : σ) (u : Str → Option Value) h tk, P c → Fr h₀ L h (kstB u (ps c)) → News h₀ L h (Ld c) →
      wpAny (model prog w) A (isTrue test env (eval test env)) (fun b s₂ =>
        if b = true then wpAny (model prog w) A (execs body env) (WPost h₀ L s Ld ps P μ Q (μ c)) E s₂ else Q .next s₂) E { s with heap := h, toks := tk })
    (hE : PassesOwn (model prog w) A env E := by passes_own) :
    wpAny (model prog w) A (exec (.While test body [] pos) env) Q E s := by
  refine While_inv2 (fun n m nx => ∃ c : σ, nx = Ld c ∧ μ c = n ∧ (∀ p ∈ ps c, m p.1 = some p.2) ∧ P c) (n₀ := μ c₀) F (fun p hp => N p (hn p hp)) ⟨c₀, rfl, rfl, hk, hp⟩ ?_ hE
  rintro n m₁ nx h tk F₁ N₁ ⟨c, hnx, hsz, h1, hp'⟩
  rw [hnx] at N₁
  rw [← hsz]
  have em : kstB m₁ (ps c) = m₁ := by
    funext y
    exact kstB_eq h1 fun _ => rfl
  refine wpAny_mono (turn c m₁ h tk hp' (em.symm ▸ F₁) N₁) (fun b s₂ p => ?_) fun _ _ x => x
  cases b with
  | false => simpa using p
  | true =>
    simp only [if_true] at p ⊢
    refine wpAny_mono p (fun f s₃ q => ?_) fun _ _ x => x
    cases f with
    | ret v => exact q
    | brk => exact q
    | next =>
      obtain ⟨c', h', tk', m', news', rfl, F', N', hn, hk9, hp9, hm9⟩ := q
      exact ⟨h', tk', m', Ld c', μ c', rfl, F', fun p hp => N' p (hn p hp), hm9, c', rfl, rfl, hk9, hp9⟩
    | cont =>
      obtain ⟨c', h', tk', m', news', rfl, F', N', hn, hk9, hp9, hm9⟩ := q
      exact ⟨h', tk', m', Ld c', μ c', rfl, F', fun p hp => N' p (hn p hp), hm9, c', rfl, rfl, hk9, hp9⟩
end Mine
namespace Mine
-- Plain1
open PySem PySem.W PyProof.Rows PySem.Spec PySem.Calls
theorem lines_Plain1_0 : True := by
  k_with_none
  k_with "lt" => first | with_reducible assumption | exact And.left (by with_reducible assumption) | exact And.left (And.right (by with_reducible assumption)) | exact And.left (And.right (And.right (by with_reducible assumption))) | exact And.left (And.right (And.right (And.right (by with_reducible assumption)))) | exact And.left (And.right (And.right (And.right (And.right (by with_reducible assumption)))))
  k_with "rl" => with_unfolding_all exact rfl
  k_with "omega" => first | (with_reducible exact om_room ‹_›) | (with_reducible exact om_le ‹_› (by k_extra "rl")) | (with_reducible exact om_ne1 (by k_extra "lt")) | lia
  trivial
theorem le_sz {n : Nat} (h : n ≤ 5000) : n ≤ sizeLine := Nat.le_trans h (by decide)
theorem le_sz2 {n : Nat} (h : n ≤ 5000) : n + 2 ≤ sizeLine := Nat.le_trans (Nat.add_le_add_right h 2) (by decide)
theorem len_mk (l : List Nat) : Str.length ⟨l.toArray⟩ = l.length := by simp [Str.length]
theorem len_app (x y : Str) : (x ++ y).length = x.length + y.length := by
  show (x.cps ++ y.cps).size = _
  simp [Str.length]
theorem len_it (x : Str) (i : Int) : (Txt.item x i).length = 1 := rfl
theorem len_one (c : Nat) : Str.length ⟨#[c]⟩ = 1 := rfl
theorem len_toList (x : Str) : x.length = x.cps.toList.length := by simp [Str.length]
theorem item_nat {x : Str} {i : Nat} {c : Nat} (h : x.cps.toList[i]? = some c) : Txt.item x (i : Int) = ⟨#[c]⟩ := by
  unfold Txt.item Txt.charAt
  have hi : i < x.cps.toList.length := by
    rcases Nat.lt_or_ge i x.cps.toList.length with h1 | h1
    · exact h1
    · rw [List.getElem?_eq_none h1] at h; cases h
  have : seqIndex? (i : Int) x.length = some i := by
    unfold seqIndex?
    have h0 : ¬ ((i : Int) < 0) := by omega
    simp only [if_neg h0]
    rw [if_pos (by rw [len_toList]; simp only [Bool.and_eq_true, decide_eq_true_eq]; omega)]
    rfl
  rw [this]
  simp at h ⊢
  rw [h]; rfl
theorem str_ext {a b : Str} (h : a.cps.toList = b.cps.toList) : a = b := by
  cases a; cases b; congr; exact Array.ext' h
theorem mk_app (l k : List Nat) : (⟨l.toArray⟩ : Str) ++ ⟨k.toArray⟩ = ⟨(l ++ k).toArray⟩ := str_ext (by show ((l.toArray ++ k.toArray : Array Nat)).toList = _; simp)
theorem one_beq (c d : Nat) : ((⟨#[c]⟩ : Str) == ⟨#[d]⟩) = decide (c = d) := by
  show decide ((⟨#[c]⟩ : Str) = ⟨#[d]⟩) = _
  congr 1; simp
theorem drop1 {h₀ h : Heap} {L : Addr} {a : Addr × Obj} {r : Led} (N : News h₀ L h (a :: r)) : News h₀ L h r := fun q hq => N q (List.Mem.tail _ hq)
theorem drop2 {h₀ h : Heap} {L : Addr} {a b : Addr × Obj} {r : Led} (N : News h₀ L h (a :: b :: r)) : News h₀ L h (a :: r) := fun q hq => by
  rcases List.mem_cons.mp hq with rfl | hq
  · exact N _ (List.Mem.head _)
  · exact N _ (List.Mem.tail _ (List.Mem.tail _ hq))
theorem swap2 {h₀ h : Heap} {L : Addr} {a b : Addr × Obj} {r : Led} (N : News h₀ L h (a :: b :: r)) : News h₀ L h (b :: a :: r) := fun q hq => by
  rcases List.mem_cons.mp hq with rfl | hq
  · exact N _ (List.Mem.tail _ (List.Mem.head _))
  · rcases List.mem_cons.mp hq with rfl | hq
    · exact N _ (List.Mem.head _)
    · exact N _ (List.Mem.tail _ (List.Mem.tail _ hq))
theorem slice_mid {x : Str} {i j : Int} (h : 0 ≤ i ∧ i ≤ j ∧ j ≤ x.cps.toList.length) : Txt.slice x (some i) (some j) = ⟨((x.cps.toList.drop i.toNat).take (j - i).toNat).toArray⟩ := eq_of_beq (slice_closes h)
theorem slice_to {x : Str} {j : Int} (h : 0 ≤ j ∧ j ≤ x.cps.toList.length) : Txt.slice x none (some j) = ⟨(x.cps.toList.take j.toNat).toArray⟩ := by
  have := eq_of_beq (slice_closes_to h)
  rw [this, Int.sub_zero]; rfl
theorem empty_of {Z : Str} (hZ : Z.length = 0) : Z = ⟨#[]⟩ := by
  obtain ⟨⟨l⟩⟩ := Z
  match l, hZ with
  | [], _ => rfl
theorem bne_self (x : Str) : (x != x) = false := by simp [bne]
theorem slice0 {nm Z : Str} (hZ : Z.length = 0) : (Txt.slice nm none (some ((0 : Nat) : Int)) != Z) = false := by
  rw [slice_to (j := ((0 : Nat) : Int)) ⟨Int.le_refl _, Int.natCast_nonneg _⟩, empty_of hZ]
  exact bne_self _
theorem sliceE {nm Z : Str} (hZ : Z.length = 0) : (Txt.slice nm (some (nm.length - ((0 : Nat) : Int))) none == Z) = true := by
  rw [slice_beyond (by omega), empty_of hZ]
  decide
theorem slc1 {x : Str} {body : List Nat} (hb : x.cps.toList = 50 :: 53 :: 55 :: 32 :: 34 :: body) : (Txt.slice x none (some 3) != Str.ofString "257") = false := by
  rw [slice_to ⟨by decide, by rw [hb]; simp; omega⟩, hb]
  exact bne_self _
theorem slc2 {x : Str} {body : List Nat} (hb : x.cps.toList = 50 :: 53 :: 55 :: 32 :: 34 :: body) : (Txt.slice x (some 3) (some 5) != Str.ofString " \"") = false := by
  rw [slice_mid ⟨by decide, by decide, by rw [hb]; simp; omega⟩, hb]
  exact bne_self _
end Mine
namespace Mine
-- ForL
open PySem PySem.W PyProof.Rows PySem.Spec PySem.Calls
theorem lines_ForL_0 : True := by
  k_with_none
  k_with "lt" => first | with_reducible assumption | exact And.left (by with_reducible assumption) | exact And.left (And.right (by with_reducible assumption)) | exact And.left (And.right (And.right (by with_reducible assumption))) | exact And.left (And.right (And.right (And.right (by with_reducible assumption)))) | exact And.left (And.right (And.right (And.right (And.right (by with_reducible assumption)))))
  k_with "rl" => with_unfolding_all exact rfl
  k_with "omega" => first | (with_reducible exact om_room ‹_›) | (with_reducible exact om_le ‹_› (by k_extra "rl")) | (with_reducible exact om_ne1 (by k_extra "lt")) | lia
  trivial
noncomputable def FEnd {σ : Type} (h₀ : Heap) (L : Addr) (s : Shared) (Ld : σ → Led) (ps : σ → List (Str × Value)) (P : σ → Prop) (I : Addr) (it : Obj) (s₂ : Shared) : Prop :=
  ∃ (c' : σ) (h' : Heap) (tk : Nat) (m' : Str → Option Value) (news' : Led), s₂ = { s with heap := h', toks := tk } ∧ Fr h₀ L h' m' ∧ News h₀ L h' news' ∧ (I, it) ∈ news' ∧ (∀ p ∈ Ld c', p ∈ news') ∧ (∀ p ∈ Ld c', p.1 ≠ I) ∧ (∀ p ∈ ps c', m' p.1 = some p.2) ∧ P c'
noncomputable def FPost {σ : Type} (h₀ : Heap) (L : Addr) (s : Shared) (Ld : σ → Led) (ps : σ → List (Str × Value)) (P : σ → Prop) (I : Addr) (it : Obj) (Q : Flow → Shared → Prop) (f : Flow) (s₂ : Shared) : Prop :=
  match f with
  | .ret v => Q (.ret v) s₂
  | .brk => Q .next s₂
  | _ => FEnd h₀ L s Ld ps P I it s₂
theorem fpost_next {σ : Type} {h₀ : Heap} {L : Addr} {s s₂ : Shared} {Ld : σ → Led} {ps : σ → List (Str × Value)} {P : σ → Prop} {I : Addr} {it : Obj} {Q : Flow → Shared → Prop} (h : FEnd h₀ L s Ld ps P I it s₂) : FPost h₀ L s Ld ps P I it Q .next s₂ := h
theorem fpost_cont {σ : Type} {h₀ : Heap} {L : Addr} {s s₂ : Shared} {Ld : σ → Led} {ps : σ → List (Str × Value)} {P : σ → Prop} {I : Addr} {it : Obj} {Q : Flow → Shared → Prop} (h : FEnd h₀ L s Ld ps P I it s₂) : FPost h₀ L s Ld ps P I it Q .cont s₂ := h
theorem fpost_ret {σ : Type} {h₀ : Heap} {L : Addr} {s s₂ : Shared} {Ld : σ → Led} {ps : σ → List (Str × Value)} {P : σ → Prop} {I : Addr} {it : Obj} {Q : Flow → Shared → Prop} {v : Value} (h : Q (.ret v) s₂) : FPost h₀ L s Ld ps P I it Q (.ret v) s₂ := h
theorem fpost_brk {σ : Type} {h₀ : Heap} {L : Addr} {s s₂ : Shared} {Ld : σ → Led} {ps : σ → List (Str × Value)} {P : σ → Prop} {I : Addr} {it : Obj} {Q : Flow → Shared → Prop} (h : Q .next s₂) : FPost h₀ L s Ld ps P I it Q .brk s₂ := h
theorem f_end {σ : Type} {h₀ : Heap} {L : Addr} {s : Shared} {Ld : σ → Led} {ps : σ → List (Str × Value)} {P : σ → Prop} {I : Addr} {it : Obj} {h' : Heap} {tk : Nat} {m' : Str → Option Value} {news' : Led} (c' : σ)
    (F : Fr h₀ L h' m') (N : News h₀ L h' news') (hi : (I, it) ∈ news') (hn : ∀ p ∈ Ld c', p ∈ news') (ho : ∀ p ∈ Ld c', p.1 ≠ I) (hk : ∀ p ∈ ps c', m' p.1 = some p.2) (hp : P c') :
    FEnd h₀ L s Ld ps P I it { s with heap := h', toks := tk } := ⟨c', h', tk, m', news', rfl, F, N, hi, hn, ho, hk, hp⟩
section
variable {σ : Type} {prog : Program} {w : World} {A : Around} {E : Value → Shared → Prop} {Q : Flow → Shared → Prop} {s : Shared} {env : Env} {h₀ : Heap} {x : Str} {body : List Stmt} {m₀ : Str → Option Value} {news : Led}
theorem kstB_self {m₁ : Str → Option Value} {ps : List (Str × Value)} (h : ∀ p ∈ ps, m₁ p.1 = some p.2) : kstB m₁ ps = m₁ := by
  funext y
  exact kstB_eq h fun _ => rfl
theorem my_for {px pos : Pos} {iter : Expr} {L : Addr} (F : Fr h₀ L s.heap m₀) (hx : env.kindOf x = some .local)
    (hp : (env.scope.kind == .class || (env.scope.kind == .module && env.locals != env.globals)) = false)
    (h : wpAny (model prog w) A (eval iter env) (fun xv s₁ => wpAny (model prog w) A (pyIter xv) (fun it s₂ => LoopAtV prog w A h₀ env x body Q E it s₂) E s₁) E s)
    (hs : ∀ x, foldedSetIterable iter env x = pure x := by intro _; rfl)
    (hE : PassesOwn (model prog w) A env E := by passes_own) :
    wpAny (model prog w) A (exec (.For (.Name x px) iter body [] pos) env) Q E s := For_invV h₀ hx hp h hs hE
theorem it_list {l : Addr} {vs : List Value} {cap : Nat} (Ld : σ → Led) (ps : σ → List (Str × Value)) (P : Nat → σ → Prop) (c₀ : σ)
    (hh : A.handled = none) (F : Fr h₀ env.locals s.heap m₀) (N : News h₀ env.locals s.heap news) (hl : (l, (⟨.type "list", none, .seq vs.toArray cap, #[]⟩ : Obj)) ∈ news)
    (hin : ∀ c, (l, (⟨.type "list", none, .seq vs.toArray cap, #[]⟩ : Obj)) ∈ Ld c) (hn : ∀ p ∈ Ld c₀, p ∈ news) (hk : ∀ p ∈ ps c₀, m₀ p.1 = some p.2) (hp : P 0 c₀)
    (turn : ∀ i v c u h tk I it, vs[i]? = some v → P i c → (∀ p ∈ Ld c, p.1 ≠ I) → Fr h₀ env.locals h (fun y => if y = x then some v else kstB u (ps c) y) → News h₀ env.locals h ((I, it) :: Ld c) →
      wpAny (model prog w) A (execs body env) (FPost h₀ env.locals s Ld ps (P (i + 1)) I it Q) E { s with heap := h, toks := tk })
    (done : ∀ c u h tk, P vs.length c → Fr h₀ env.locals h (kstB u (ps c)) → News h₀ env.locals h (Ld c) → Q .next { s with heap := h, toks := tk }) :
    wpAny (model prog w) A (pyIter (.ref l)) (fun it s₂ => LoopAtV prog w A h₀ env x body Q E it s₂) E s := by
  have hls : s.heap.IsList l vs.toArray := ⟨_, (N _ hl).1, rfl, ⟨_, rfl⟩⟩
  have hne : l ≠ s.heap.objs.size := Nat.ne_of_lt (Heap.lt_size (N _ hl).1)
  have hll : l ≠ env.locals := (N _ hl).2.1
  refine wpAny_pyIter_list hls ?_
  have W := Walks.list (prog := prog) (w := w) hh s.heap.objs.size l hne vs.toArray
  let J : Nat → (Str → Option Value) → Led → Prop := fun i m₁ nx => ∃ c, nx = Ld c ∧ (∀ p ∈ ps c, m₁ p.1 = some p.2) ∧ P i c
  have hlt : ∀ p ∈ news, p.1 < s.heap.objs.size := fun p hp => Heap.lt_size (N p hp).1
  refine ⟨_, _, _, vs.toArray.size, _, _, m₀, Ld c₀, J, rfl, W, ?_, ?_, ?_, ⟨⟨_, Heap.get?_push_size _ rfl, rfl, rfl⟩, hls.at fun o e => Heap.get?_push_of_some _ e⟩, F.push _, (fun p hp => ⟨Heap.get?_push_of_some _ (N p (hn p hp)).1, (N p (hn p hp)).2⟩), ⟨c₀, rfl, hk, hp⟩, ?_, ?_⟩
  · intro hm
    rcases List.mem_cons.mp hm with e | hm
    · exact absurd F.ns.lt (e ▸ Nat.lt_irrefl _)
    · exact hll (List.mem_singleton.mp hm).symm
  · intro b hb
    rw [List.mem_singleton.mp hb]
    exact next_is_new F
  · intro p hp hI
    exact absurd (hlt p (hn p hp)) ((List.mem_singleton.mp hI) ▸ Nat.lt_irrefl _)
  · rintro i v m₁ news₁ s₁ own ⟨hh', tk', rfl⟩ hi hP ⟨c, rfl, hkc, hPc⟩ hoff hown hget hall hst F₁ N₁
    obtain ⟨oI, hoI, _⟩ := hst.1
    have hIn : (s.heap.objs.size, oI) ∈ own := hall _ (by simp) (next_is_new F) oI hoI
    have hP' : vs[i]? = some v := by simpa using hP
    refine wpAny_mono (turn i v c m₁ hh' tk' s.heap.objs.size oI hP' hPc (fun p hp e => hoff p hp (by simp [e])) (by rw [kstB_self hkc]; exact F₁) (fun p hp => ?_)) (fun f s₂ q => ?_) fun _ _ e => e
    · rcases List.mem_cons.mp hp with rfl | hp
      · exact N₁ _ (List.mem_append_left _ hIn)
      · exact N₁ _ (List.mem_append_right _ hp)
    · have fin : FEnd h₀ env.locals s Ld ps (P (i + 1)) s.heap.objs.size oI s₂ → LoopStepU h₀ env.locals [s.heap.objs.size] own (J (i + 1)) { s with heap := hh', toks := tk' } .next s₂ := by
        rintro ⟨c', h', tk, m', news', rfl, F', N', hi', hn', ho', hk', hp'⟩
        refine ⟨rfl, h', tk, m', Ld c', rfl, F', fun p hp => ?_, fun p hp e => ho' p hp (List.mem_singleton.mp e), c', rfl, hk', hp'⟩
        rcases List.mem_append.mp hp with hp | hp
        · have h1 := hown p hp
          have h2 := hget p hp
          have h3 : p = (s.heap.objs.size, oI) ∨ p.1 = l := by
            rcases List.mem_cons.mp h1 with e | h1
            · left
              refine Prod.ext e ?_
              rw [e] at h2
              exact Option.some.inj (h2.symm.trans hoI)
            · exact .inr (List.mem_singleton.mp h1)
          rcases h3 with rfl | e
          · exact N' _ hi'
          · have h4 := N₁ _ (List.mem_append_right own (hin c))
            have e2 : p = (l, (⟨.type "list", none, .seq vs.toArray cap, #[]⟩ : Obj)) := by
              refine Prod.ext e ?_
              rw [e] at h2
              exact Option.some.inj (h2.symm.trans h4.1)
            rw [e2]
            exact N' _ (hn' _ (hin c'))
        · exact N' p (hn' p hp)
      cases f with
      | ret v => exact .ret q
      | brk => exact .brk q
      | next => exact .next (fin q)
      | cont => exact .cont (fin q)
  · rintro h' tk m' news' F' N' _ ⟨c, rfl, hkc, hPc⟩
    have : vs.toArray.size = vs.length := by simp
    rw [this] at hPc
    exact done c m' h' tk hPc (by rw [kstB_self hkc]; exact F') N'
theorem it_range {r : Addr} {a₀ b₀ : Int} {t₀ u₀ v₀ : Tok} {n : Nat} (Ld : σ → Led) (ps : σ → List (Str × Value)) (P : Nat → σ → Prop) (c₀ : σ)
    (hh : A.handled = none) (hr : IsRange s.heap r a₀ b₀ 1 t₀ u₀ v₀) (hsmall : Builtin.Range.small a₀ b₀ 1 = true) (hz : Builtin.Range.rangeSize a₀ b₀ 1 = (n : Int))
    (F : Fr h₀ env.locals s.heap m₀) (N : News h₀ env.locals s.heap news) (hn : ∀ p ∈ Ld c₀, p ∈ news) (hk : ∀ p ∈ ps c₀, m₀ p.1 = some p.2) (hp : P 0 c₀)
    (turn : ∀ i t c u h tk I it, i < n → P i c → (∀ p ∈ Ld c, p.1 ≠ I) → Fr h₀ env.locals h (fun y => if y = x then some (.int (a₀ + i) t) else kstB u (ps c) y) → News h₀ env.locals h ((I, it) :: Ld c) →
      wpAny (model prog w) A (execs body env) (FPost h₀ env.locals s Ld ps (P (i + 1)) I it Q) E { s with heap := h, toks := tk })
    (done : ∀ c u h tk, P n c → Fr h₀ env.locals h (kstB u (ps c)) → News h₀ env.locals h (Ld c) → Q .next { s with heap := h, toks := tk }) :
    wpAny (model prog w) A (pyIter (.ref r)) (fun it s₂ => LoopAtV prog w A h₀ env x body Q E it s₂) E s := by
  refine wpAny_pyIter_range hr hsmall ?_
  have W : Walks prog w A s.heap.objs.size [s.heap.objs.size] [s.heap.objs.size] n (fun i v => i < n ∧ ∃ t, v = .int (a₀ + i * 1) t)
      (fun i h => IsRangeIter h s.heap.objs.size (a₀ + (i : Nat) * 1) ((n : Int) - (i : Nat)) 1) := (Walks.range hh _ a₀ 1 n).bound
  let J : Nat → (Str → Option Value) → Led → Prop := fun i m₁ nx => ∃ c, nx = Ld c ∧ (∀ p ∈ ps c, m₁ p.1 = some p.2) ∧ P i c
  have hlt : ∀ p ∈ news, p.1 < s.heap.objs.size := fun p hp => Heap.lt_size (N p hp).1
  refine ⟨_, _, _, n, _, _, m₀, Ld c₀, J, rfl, W, ?_, ?_, ?_, (by show IsRangeIter _ _ _ _ _; rw [hz]; simpa using Heap.get?_push_size _ rfl), F.push _, (fun p hp => ⟨Heap.get?_push_of_some _ (N p (hn p hp)).1, (N p (hn p hp)).2⟩), ⟨c₀, rfl, hk, hp⟩, ?_, ?_⟩
  · intro hm
    exact absurd F.ns.lt ((List.mem_singleton.mp hm) ▸ Nat.lt_irrefl _)
  · intro b hb
    rw [List.mem_singleton.mp hb]
    exact next_is_new F
  · intro p hp hI
    exact absurd (hlt p (hn p hp)) ((List.mem_singleton.mp hI) ▸ Nat.lt_irrefl _)
  · rintro i v m₁ news₁ s₁ own ⟨hh', tk', rfl⟩ hi ⟨_, t, rfl⟩ ⟨c, rfl, hkc, hPc⟩ hoff hown hget hall hst F₁ N₁
    have hoI : ∃ oI, hh'.get? s.heap.objs.size = some oI := ⟨_, hst⟩
    obtain ⟨oI, hoI⟩ := hoI
    have hIn : (s.heap.objs.size, oI) ∈ own := hall _ (by simp) (next_is_new F) oI hoI
    refine wpAny_mono (turn i t c m₁ hh' tk' s.heap.objs.size oI hi hPc (fun p hp e => hoff p hp (by simp [e])) (by rw [kstB_self hkc]; rw [Int.mul_one] at F₁; exact F₁) (fun p hp => ?_)) (fun f s₂ q => ?_) fun _ _ e => e
    · rcases List.mem_cons.mp hp with rfl | hp
      · exact N₁ _ (List.mem_append_left _ hIn)
      · exact N₁ _ (List.mem_append_right _ hp)
    · have fin : FEnd h₀ env.locals s Ld ps (P (i + 1)) s.heap.objs.size oI s₂ → LoopStepU h₀ env.locals [s.heap.objs.size] own (J (i + 1)) { s with heap := hh', toks := tk' } .next s₂ := by
        rintro ⟨c', h', tk, m', news', rfl, F', N', hi', hn', ho', hk', hp'⟩
        refine ⟨rfl, h', tk, m', Ld c', rfl, F', fun p hp => ?_, fun p hp e => ho' p hp (List.mem_singleton.mp e), c', rfl, hk', hp'⟩
        rcases List.mem_append.mp hp with hp | hp
        · have h1 := List.mem_singleton.mp (hown p hp)
          have h2 := hget p hp
          have h3 : p = (s.heap.objs.size, oI) := by
            refine Prod.ext h1 ?_
            rw [h1] at h2
            exact Option.some.inj (h2.symm.trans hoI)
          rw [h3]
          exact N' _ hi'
        · exact N' p (hn' p hp)
      cases f with
      | ret v => exact .ret q
      | brk => exact .brk q
      | next => exact .next (fin q)
      | cont => exact .cont (fin q)
  · rintro h' tk m' news' F' N' _ ⟨c, rfl, hkc, hPc⟩
    exact done c m' h' tk hPc (by rw [kstB_self hkc]; exact F') N'
end

theorem ne_allLt {d : Addr} : ∀ {l : Led}, AllLt d l → ∀ p ∈ l, p.1 ≠ d
  | [], _ => fun _ h => nomatch h
  | q :: r, h => fun p hp => by
    rcases List.mem_cons.mp hp with rfl | hp
    · exact Nat.ne_of_lt h.1
    · exact ne_allLt h.2 p hp
theorem lt_allLt {d : Addr} : ∀ {l : Led}, AllLt d l → ∀ p ∈ l, p.1 < d
  | [], _ => fun _ h => nomatch h
  | q :: r, h => fun p hp => by
    rcases List.mem_cons.mp hp with rfl | hp
    · exact h.1
    · exact lt_allLt h.2 p hp
theorem cut_at : ∀ (l : List Value) (k : Nat) (y : Value), l[k]? = some y → kl_cut l k = some (l.take k, y, l.drop (k + 1))
  | [], _, _, h => by simp at h
  | x :: r, 0, y, h => by simp at h; subst h; rfl
  | x :: r, k + 1, y, h => by
    have := cut_at r k y (by simpa using h)
    show (match kl_cut r k with | some (p, y, q) => some (x :: p, y, q) | none => none) = _
    rw [this]; rfl
theorem ints_erase : ∀ {vs : List Value} {ns : List Int}, IntsAre vs ns → ∀ k, IntsAre (vs.eraseIdx k) (ns.eraseIdx k)
  | _, _, .nil, _ => .nil
  | _, _, .cons _ _ h, 0 => h
  | _, _, .cons n t h, k + 1 => .cons n t (ints_erase h k)
theorem ints_snoc {x : Int} {t : Tok} : ∀ {vs : List Value} {ns : List Int}, IntsAre vs ns → IntsAre (vs ++ [.int x t]) (ns ++ [x])
  | _, _, .nil => .cons _ _ .nil
  | _, _, .cons n t h => .cons n t (ints_snoc h)
section
variable {prog : Program} {w : World} {A : Around} {E : Value → Shared → Prop} {s : Shared} {h₀ : Heap} {L D : Addr} {m : Str → Option Value} {news news' : Led} {n : Nat}
theorem seq_at {k : Int} {len : Nat} (h0 : 0 ≤ k) (h1 : k < len) : seqIndex? k len = some k.toNat := by
  unfold seqIndex?
  have q : ¬ (k < 0) := by omega
  simp only [if_neg q]
  rw [if_pos (by simp only [Bool.and_eq_true, decide_eq_true_eq]; exact ⟨h0, h1⟩)]
theorem fits_at {k : Int} (h0 : 0 ≤ k) (h1 : k < 5001) : Builtin.List.listFitsIndex k = true := by
  unfold Builtin.List.listFitsIndex
  simp only [Bool.and_eq_true, decide_eq_true_eq]
  omega
theorem pop_ints {vr : List Value} {rs : List Int} {i : Int} {u : Tok} {Q : Value → Shared → Prop} (F : Fr h₀ L s.heap m) (N : News h₀ L s.heap news) (hr : IntsAre vr rs) (h0 : 0 ≤ i) (h1 : i < rs.length) (hz : rs.length ≤ 5000)
    (U : Upd D (listOf vr.toArray n) (listOf (vr.eraseIdx i.toNat).toArray (n + 1)) news news')
    (h : ∀ t h', Fr h₀ L h' m → News h₀ L h' news' → Q (.int (rs.getD i.toNat 0) t) { s with heap := h' }) : wpAny (model prog w) A (call (.builtin "list.pop") [.ref D, .int i u]) Q E s := by
  have hl : vr.length = rs.length := hr.length
  have hk : i.toNat < rs.length := by omega
  obtain ⟨t, hg⟩ := hr.get i.toNat rs[i.toNat] (List.getElem?_eq_getElem hk)
  have e := cut_at vr i.toNat _ hg
  rw [List.eraseIdx_eq_take_drop_succ] at U
  refine kl_popAt F N (fits_at h0 (by omega)) (seq_at h0 (by simp; omega)) (by simpa using e) U (by simp; exact le_sz (by omega)) fun h' F' N' => ?_
  have := h t h' F' N'
  rw [List.getD_eq_getElem?_getD, List.getElem?_eq_getElem hk] at this
  exact this
end
end Mine
namespace Mine
-- Bm
open PySem PySem.W PyProof.Rows PySem.Spec PySem.Calls
set_option maxHeartbeats 0
theorem bm_get : typeLookup (.type "method_descriptor") "__get__" = pure (some (.builtin "method_descriptor.__get__")) := by rw [typeLookup_type, builtinLookup_eq_fast]; kernel_rfl
theorem bm_set : typeLookup (.type "method_descriptor") "__set__" = pure none := am_miss_of_fast (by kernel_rfl)
theorem bm_delete : typeLookup (.type "method_descriptor") "__delete__" = pure none := am_miss_of_fast (by kernel_rfl)
theorem bm_slot : Slot "method_descriptor" "__get__" "method_descriptor.__get__" :=
  .of (owner := "method_descriptor") (n := "__get__") (by rw [typeLookup_type, builtinLookup_eq_fast]; kernel_rfl) (by decide +kernel) (by decide +kernel) (by decide +kernel)
    (by first | exact .inl (by decide +kernel) | exact .inr (by decide +kernel)) (by rw [isSubtype_type]; kernel_rfl)
theorem bm_entry : entryFor table "method_descriptor.__get__" = some Builtin.«method_descriptor.__get__» := entryFor_of_tree (by kernel_rfl)
theorem owner_md : Manifest.owners.lookup (String.ofList "method_descriptor".toList.reverse.reverse) = some Manifest.sig_method_descriptor := by kernel_rfl
theorem bm_args (a b c : Value) : argsOk "method_descriptor.__get__" ⟨[a, b, c], []⟩ := by
  unfold argsOk; rw [signature?_of (id := "method_descriptor.__get__") (n := "__get__".toList.reverse) (o := "method_descriptor".toList.reverse) (by kernel_rfl) owner_md]; kernel_rfl
theorem bm_told : Manifest.toldItsClass.contains "list.append" = false := by decide +kernel
theorem bm_owner : (".".intercalate ("list.append".cutAt '.').dropLast) = "list" := by
  have e0 : "list.append".cutAt '.' = ["list", "append"] := by first | rfl | decide +kernel
  rw [e0]; decide +kernel
theorem bm_sub : isSubtype (.type "list") (.type (".".intercalate ("list.append".cutAt '.').dropLast)) = pure true := by rw [bm_owner, isSubtype_type]; kernel_rfl
theorem meets_get (a : Addr) (dat : Data) :
    Meets (Builtin.«method_descriptor.__get__» ⟨[.builtin "list.append", .ref a, .type "list"], []⟩) (fun A R s => s.heap.get? a = some ⟨.type "list", none, dat, #[]⟩ ∧ (∀ h' tk f, (∀ b o, s.heap.get? b = some o → h'.get? b = some o) → f = s.heap.objs.size → h'.get? f = some ⟨.type "builtin_function_or_method", none, .fields #[.builtin "list.append", .ref a], #[]⟩ → R (.ok (.ret (.ref f))) { s with heap := h', toks := tk })) :=
  Meets.of_wp fun prog w A R s hs => by
    obtain ⟨hp, g, d, tk, os⟩ := s
    obtain ⟨hx, hs⟩ := hs
    have hT : (⟨hp, g, d, tk, os⟩ : Shared).TypeIs (.ref a) "list" := ⟨_, hx, rfl⟩
    have hc := bm_told
    have hs1 := bm_sub
    unfold Builtin.«method_descriptor.__get__»
    repeat (any_goals (first | assumption | wp_step))
    exact ⟨_, rfl, hs _ _ _ (fun _ _ e => Heap.get?_push_of_some _ e) rfl (Heap.get?_push_size _ rfl)⟩
theorem meets_append (a : Addr) (xs : Array Value) (k : Nat) (u : Tok) :
    Meets (Builtin.«object.__getattribute__» ⟨[.ref a, .str "append" u], []⟩) (fun A R s => s.heap.get? a = some ⟨.type "list", none, .seq xs k, #[]⟩ ∧ (∀ h' tk f, (∀ b o, s.heap.get? b = some o → h'.get? b = some o) → f = s.heap.objs.size → h'.get? f = some ⟨.type "builtin_function_or_method", none, .fields #[.builtin "list.append", .ref a], #[]⟩ → R (.ok (.ret (.ref f))) { s with heap := h', toks := tk })) :=
  Meets.of_wp fun prog w A R s hs => by
    obtain ⟨hp, g, d, tk, os⟩ := s
    obtain ⟨hx, hs⟩ := hs
    have hT : (⟨hp, g, d, tk, os⟩ : Shared).TypeIs (.ref a) "list" := ⟨_, hx, rfl⟩
    have f1 := F.slot_list_append.lookup
    have f2 := F.type_list_append
    have f3 := bm_get
    have f4 := bm_set
    have f5 := bm_delete
    unfold Builtin.«object.__getattribute__»
    repeat (any_goals (first | assumption | ((with_reducible show wpAny _ _ (call (Value.builtin "method_descriptor.__get__") _ _) _ _ _); refine call_meets bm_slot F.type_list_append bm_entry (bm_args _ _ _) (meets_get a (.seq xs k)) ⟨hx, fun h' tk' f hk hf hg => ?_⟩) | wp_step))
    exact wpAny_pure ⟨_, rfl, hs _ _ _ hk hf hg⟩
theorem getAttr_append {prog : Program} {w : World} {A : Around} {E : Value → Shared → Prop} {s : Shared} {a : Addr} {xs : Array Value} {k : Nat} {Q : Value → Shared → Prop}
    (hx : s.heap.get? a = some ⟨.type "list", none, .seq xs k, #[]⟩)
    (h : ∀ h' tk f, (∀ b o, s.heap.get? b = some o → h'.get? b = some o) → f = s.heap.objs.size → h'.get? f = some ⟨.type "builtin_function_or_method", none, .fields #[.builtin "list.append", .ref a], #[]⟩ → Q (.ref f) { s with heap := h', toks := tk }) :
    wpAny (model prog w) A (getAttr (.ref a) "append" true) Q E s := by
  obtain ⟨hp, g, d, tk, os⟩ := s
  have hT : ∀ tk', (⟨hp, g, d, tk', os⟩ : Shared).TypeIs (.ref a) "list" := fun _ => ⟨_, hx, rfl⟩
  have f3 := F.slot_list_getattribute.lookup
  have f4 := F.slot_list_getattribute.bind (.ref a)
  have f5 := am_list_getattr_none
  unfold getAttr getAttrBy
  repeat (any_goals (first | assumption | exact hT _ | ((with_reducible show wpAny _ _ (call (Value.builtin "list.__getattribute__") _ _) _ _ _); refine call_meets F.slot_list_getattribute (hT _) am_entry_list_getattribute (F.args_list_getattribute_2 _ _) (meets_append a xs k _) ⟨hx, fun h' tk' f hk hf hg => ?_⟩) | wp_step))
  exact wpAny_pure (h _ _ _ hk hf hg)
end Mine
namespace Mine
-- Bm2
open PySem PySem.W PyProof.Rows PySem.Spec PySem.Calls
set_option maxHeartbeats 0
noncomputable abbrev bmObj (a : Addr) : Obj := ⟨.type "builtin_function_or_method", none, .fields #[.builtin "list.append", .ref a], #[]⟩
theorem bk_append : builtinKind "list.append" = some .method := by rw [builtinKind_eq_fast]; kernel_rfl
theorem bc_ok (a v : Value) : (match Manifest.signature? "list.append" with | some sig => Bind.checkArgs "list.append" { sig with full := "list.append" } ⟨[a, v], []⟩ | none => pure ()) = pure () := by
  rw [signature?_of (id := "list.append") (n := ['d', 'n', 'e', 'p', 'p', 'a']) (o := ['t', 's', 'i', 'l']) (by kernel_rfl) F.owner_list]; kernel_rfl
theorem lastOf_append : Bind.lastOf "list.append" = "append" := by decide +kernel
theorem lastOf_list : Bind.lastOf "list" = "list" := by decide +kernel
theorem sub_list_module : isSubtype (.type "list") (.type "module") = pure false := by rw [isSubtype_type]; kernel_rfl
theorem sub_list_type : isSubtype (.type "list") (.type "type") = pure false := by rw [isSubtype_type]; kernel_rfl
theorem var_append : Manifest.varargsMethods.contains "list.append" = false := by decide +kernel
theorem wpAny_isType_no {M : Model} {A : Around} {E : Value → Shared → Prop} {s : Shared} {a : Addr} {o : Obj} {Q : Bool → Shared → Prop} (ho : s.heap.get? a = some o) (hd : (match o.data with | .cls _ => true | _ => false) = false) (h : Q false s) : wpAny M A (isType (.ref a)) Q E s := by
  unfold isType
  refine wpAny_bind (wpAny_loadPart ho (wpAny_pure ?_))
  generalize o.data = dt at hd
  cases dt <;> first | exact h | cases hd
theorem checkBound {M : Model} {A : Around} {E : Value → Shared → Prop} {s : Shared} {a : Addr} {v : Value} {Q : Unit → Shared → Prop} {its : Array Value} {n : Nat} (hl : s.heap.get? a = some (listOf its n)) (h : Q () s) : wpAny M A (checkBoundCall "list.append" ⟨[.ref a, v], []⟩) Q E s := by
  have hT : s.TypeIs (.ref a) "list" := ⟨_, hl, rfl⟩
  have hb := bc_ok (.ref a) v
  unfold checkBoundCall
  cases hs : Manifest.signature? "list.append" with
  | none => exact wpAny_pure h
  | some sig =>
    rw [hs] at hb
    simp only [bk_append, lastOf_append, var_append]
    have f1 := sub_list_type
    have f2 := sub_list_module
    have f3 := lastOf_list
    refine wpAny_bind (wpAny_isInstance hT sub_list_module ?_)
    rw [Bool.or_false, if_neg Bool.false_ne_true]
    refine wpAny_bind (wpAny_isType_no hl rfl ?_)
    rw [if_neg Bool.false_ne_true]
    refine wpAny_bind (wpAny_typeOf hT ?_)
    dsimp only
    rw [f3]
    exact wpAny_of_eq hb h
theorem call_bound {prog : Program} {w : World} {A : Around} {E : Value → Shared → Prop} {s : Shared} {lo f : Addr} {v : Value} {its : Array Value} {n : Nat} {Q : Value → Shared → Prop}
    (hf : s.heap.get? f = some (bmObj lo)) (hl : s.heap.get? lo = some (listOf its n)) (hsz : its.size ≤ sizeLine)
    (h : ∀ h', h'.get? lo = some (listOf (its.push v) (n + 1)) → Heap.SameBut lo s.heap h' → Q .none { s with heap := h' }) : wpAny (model prog w) A (call (.ref f) [v]) Q E s := by
  refine wpAny_call (codeAny_of_tree ?_)
  show wpAny _ A.in1 (callAny (.ref f) ⟨[v], []⟩) _ _ s
  simp only [callAny]
  refine wpAny_bind (wpAny_load hf ?_)
  dsimp only
  rw [if_pos (by decide)]
  show wpAny _ A.in1 (do checkBoundCall "list.append" ⟨[.ref lo, v], []⟩; again (.builtin "list.append" ⟨[.ref lo, v], []⟩)) _ _ s
  refine wpAny_bind (checkBound hl (wpAny_pure (And.intro (plainId_quiet F.slot_list_append.plain _) (codeAny_builtin F.entry_list_append ?_))))
  rw [Around.under_plainId F.slot_list_append.plain]
  show wpAny _ _ (updateSeq lo (·.push v) >>= fun _ => ret .none) _ _ s
  refine wpAny_bind (wpAny_updateSeq hl rfl (wpAny_pure (h _ ?_ (Heap.SameBut.update ..))))
  rw [Heap.get?_update_self _ hl (by rw [Obj.mapSeq_push_plain]; rfl), Obj.mapSeq_push_plain]
section
variable {prog : Program} {w : World} {A : Around} {E : Value → Shared → Prop} {s : Shared} {h₀ : Heap} {L lo f : Addr} {m : Str → Option Value} {news news' : Led} {its : Array Value} {n : Nat} {Q : Value → Shared → Prop}
theorem getAttr_append_K (F : Fr h₀ L s.heap m) (N : News h₀ L s.heap news) (hm : (lo, listOf its n) ∈ news)
    (h : ∀ f h' tk, Fr h₀ L h' m → News h₀ L h' ((f, bmObj lo) :: news) → (∀ q ∈ news, q.1 < f) → Q (.ref f) { s with heap := h', toks := tk }) :
    wpAny (model prog w) A (getAttr (.ref lo) "append" true) Q E s := by
  refine getAttr_append (N _ hm).1 fun h' tk f hk hf hg => ?_
  have hLs : L < f := hf ▸ F.ns.lt
  refine h f h' tk (F.keeps hk) (fun q hq => ?_) fun q hq => hf ▸ Heap.lt_size (N q hq).1
  rcases List.mem_cons.mp hq with rfl | hq
  · exact ⟨hg, Nat.ne_of_gt hLs, Heap.get?_none_of_le (Nat.le_trans F.above (Nat.le_of_lt hLs))⟩
  · exact ⟨hk _ _ (N q hq).1, (N q hq).2⟩
theorem call_bound_K {x : Value} (F : Fr h₀ L s.heap m) (N : News h₀ L s.heap news) (hf : (f, bmObj lo) ∈ news) (U : Upd lo (listOf its n) (listOf (its.push x) (n + 1)) news news') (hsz : its.size ≤ sizeLine)
    (h : ∀ h', Fr h₀ L h' m → News h₀ L h' news' → Q .none { s with heap := h' }) : wpAny (model prog w) A (call (.ref f) [x]) Q E s := by
  obtain ⟨pre, post, rfl, rfl, a, b⟩ := U.split
  have z := N (lo, listOf its n) (List.mem_append.mpr (.inr (.head _)))
  exact call_bound (N _ hf).1 z.1 hsz fun h' ho' hs => h h' (F.change hs z.2.1 z.2.2) (news_set N a b hs ho')
end
end Mine
namespace Mine
-- Re1
open PySem PySem.W PyProof.Rows PySem.Spec PySem.Calls
set_option maxHeartbeats 8000000
open PySem.Builtin PySem.Builtin.Re
section
variable {M : Model} {A : Around} {E : Value → Shared → Prop} {s : Shared}
theorem reDrive_one {m : Sre.M} {n : Nat} {Q : Sre.M → Shared → Prop} (ho : (m.runFor 4).outcome.isSome = true) (h : Q (m.runFor 4) s) : wpAny M A (reDrive (n + 1) m) Q E s := by
  unfold reDrive
  show wpAny M A (if (m.runFor 4).outcome.isSome = true then pure (m.runFor 4) else _) Q E s
  rw [if_pos ho]
  exact wpAny_pure h
theorem rules_loop (c : Nat → Bool) (l : List Nat) {β : Type} {k : PUnit → Sem β} {Q : β → Shared → Prop} (h : wpAny M A (k ⟨⟩) Q E s) :
    wpAny M A ((forIn l PUnit.unit fun i _ => (if c i = true then (do rule (Sre.names.getD i ""); pure (ForInStep.yield PUnit.unit)) else pure (ForInStep.yield PUnit.unit))) >>= k) Q E s := by
  refine wpAny_bind ?_
  induction l with
  | nil => rw [List.forIn_nil]; exact wpAny_pure h
  | cons x r ih =>
    rw [List.forIn_cons]
    refine wpAny_bind ?_
    cases c x with
    | true =>
      rw [if_pos rfl]
      exact wpAny_bind (wpAny_rule (wpAny_pure ih))
    | false =>
      rw [if_neg Bool.false_ne_true]
      exact wpAny_pure ih
theorem reRun_failed {m : Sre.M} {Q : Option Sre.M → Shared → Prop} (ho : (m.runFor 4).outcome = some .failed) (h : Q none s) : wpAny M A (reRunToEnd m) Q E s := by
  unfold reRunToEnd
  refine wpAny_bind (reDrive_one (n := 2 ^ 64 - 1) (by rw [ho]; rfl) ?_)
  refine rules_loop _ _ ?_
  rw [ho]
  exact wpAny_pure h
theorem reRun_matched {m : Sre.M} {Q : Option Sre.M → Shared → Prop} (ho : (m.runFor 4).outcome = some .matched) (h : Q (some (m.runFor 4)) s) : wpAny M A (reRunToEnd m) Q E s := by
  unfold reRunToEnd
  refine wpAny_bind (reDrive_one (n := 2 ^ 64 - 1) (by rw [ho]; rfl) ?_)
  refine rules_loop _ _ ?_
  rw [ho]
  exact wpAny_pure h
end
end Mine
namespace Mine
-- Re2
open PySem PySem.W PyProof.Rows PySem.Spec PySem.Calls
set_option maxHeartbeats 8000000
open PySem.Builtin PySem.Builtin.Re
theorem sub_slot : Slot "re.Pattern" "sub" "re.Pattern.sub" :=
  .of (owner := "re.Pattern") (n := "sub") (by rw [typeLookup_type, builtinLookup_eq_fast]; kernel_rfl) (by decide +kernel) (by decide +kernel) (by decide +kernel)
    (by first | exact .inl (by decide +kernel) | exact .inr (by decide +kernel)) (by rw [isSubtype_type]; kernel_rfl)
theorem sub_entry : entryFor table "re.Pattern.sub" = some Builtin.«re.Pattern.sub» := entryFor_of_tree (by kernel_rfl)
theorem loop_entry : entryFor table "re.Pattern.sub.loop" = some Builtin.«re.Pattern.sub.loop» := entryFor_of_tree (by kernel_rfl)
theorem search_slot : Slot "re.Pattern" "search" "re.Pattern.search" :=
  .of (owner := "re.Pattern") (n := "search") (by rw [typeLookup_type, builtinLookup_eq_fast]; kernel_rfl) (by decide +kernel) (by decide +kernel) (by decide +kernel)
    (by first | exact .inl (by decide +kernel) | exact .inr (by decide +kernel)) (by rw [isSubtype_type]; kernel_rfl)
theorem search_entry : entryFor table "re.Pattern.search" = some Builtin.«re.Pattern.search» := entryFor_of_tree (by kernel_rfl)
theorem type_sub : typeOf (.builtin "re.Pattern.sub") = pure (.type "method_descriptor") := by show builtinType _ = _; rw [builtinType_eq_fast]; kernel_rfl
theorem owner_rep : Manifest.owners.lookup (String.ofList "re.Pattern".toList.reverse.reverse) = some Manifest.sig_re_Pattern := by kernel_rfl
theorem sub_args (a b c : Value) : argsOk "re.Pattern.sub" ⟨[a, b, c], []⟩ := by
  unfold argsOk; rw [signature?_of (id := "re.Pattern.sub") (n := "sub".toList.reverse) (o := "re.Pattern".toList.reverse) (by kernel_rfl) owner_rep]; kernel_rfl
theorem search_args (a b : Value) : argsOk "re.Pattern.search" ⟨[a, b], []⟩ := by
  unfold argsOk; rw [signature?_of (id := "re.Pattern.search") (n := "search".toList.reverse) (o := "re.Pattern".toList.reverse) (by kernel_rfl) owner_rep]; kernel_rfl
theorem fn_call : typeLookup (.type "function") "__call__" = pure (some (.builtin "function.__call__")) := by rw [typeLookup_type, builtinLookup_eq_fast]; kernel_rfl
theorem sub_str_ba : isSubtype (.type "str") (.type "bytearray") = pure false := by rw [isSubtype_type]; kernel_rfl
theorem sub_tuple : isSubtype (.type "tuple") (.type "tuple") = pure true := by rw [isSubtype_type]; kernel_rfl
theorem rp_getattribute : typeLookup (.type "re.Pattern") "__getattribute__" = pure (some (.builtin "object.__getattribute__")) := by rw [typeLookup_type, builtinLookup_eq_fast]; kernel_rfl
theorem rp_getattr : typeLookup (.type "re.Pattern") "__getattr__" = pure none := am_miss_of_fast (by kernel_rfl)
theorem rp_canon : Manifest.canonical "object.__getattribute__" = "object.__getattribute__" := by decide +kernel
end Mine
namespace Mine
-- Tr1
open PySem PySem.W PyProof.Rows PySem.Spec PySem.Calls
theorem sub_key : isSubtype (.type "KeyError") (.type "LookupError") = pure true := by rw [isSubtype_type]; kernel_rfl
section
variable {prog : Program} {w : World} {A : Around} {E : Value → Shared → Prop} {s : Shared} {d : Addr}
theorem lookup_keep {c : Nat} {f : Int → Option Value} {Q : Builtin.Str.Mapped → Shared → Prop} (hd : (d == sysModules) = false) (hh : A.handled = none) (hm : s.heap.MapOf (intKind prog w) d f) (hv : f (c : Int) = none)
    (h : ∀ h' tk, (∀ b o, s.heap.get? b = some o → h'.get? b = some o) → Q .keep { s with heap := h', toks := tk }) : wpAny (model prog w) A (Builtin.Str.tableLookup (.ref d) c) Q E s := by
  unfold Builtin.Str.tableLookup
  refine wpAny_bind (wpAny_attempt (wpAny_bind (wpAny_mkInt ?_)))
  refine wpAny_getItem_missing_of (knd := intKind prog w) (k := (c : Int)) ?_ hd hh hm hv ?_
  · simp [intKind, Value.isInt]
  · intro h' e ne
    obtain ⟨ob, t, ho, hc, _⟩ := ne.there
    show wpAny _ _ (isInstance (.ref e) (.type "LookupError") >>= _) _ _ _
    refine wpAny_bind (wpAny_isInstance (T := "KeyError") (b := true) ⟨ob, ho, hc⟩ sub_key ?_)
    exact wpAny_bind (wpAny_rule (wpAny_pure (h _ _ ne.keeps)))
theorem for_one {α β : Type} {M : Model} {A : Around} {c : α} {b : β} {f : α → β → Sem (ForInStep β)} {Q : β → Shared → Prop} {E : Value → Shared → Prop} {s : Shared}
    (h : wpAny M A (f c b) (fun r s' => match r with | .yield x => Q x s' | .done x => Q x s') E s) : wpAny M A (forIn [c] b f) Q E s := by
  rw [List.forIn_cons]
  refine wpAny_bind (wpAny_mono h (fun r s' q => ?_) fun _ _ x => x)
  cases r with
  | done x => exact wpAny_pure q
  | yield x =>
    show wpAny M A (forIn [] x f) Q E s'
    rw [List.forIn_nil]
    exact wpAny_pure q
theorem translate_one {c : Nat} {t : Tok} {f : Int → Option Value} {Q : Value → Shared → Prop} (hd : (d == sysModules) = false) (hh : A.handled = none) (hm : s.heap.MapOf (intKind prog w) d f) (hv : f (c : Int) = none)
    (h : ∀ h' tk t', (∀ b o, s.heap.get? b = some o → h'.get? b = some o) → Q (.str ⟨#[c]⟩ t') { s with heap := h', toks := tk }) : wpAny (model prog w) A (call (.builtin "str.translate") [.str ⟨#[c]⟩ t, .ref d]) Q E s := by
  refine wpAny_call_entry (s := s) (T := "str") PySem.F.slot_str_translate (typeIs_str _ _ _) PySem.F.entry_str_translate ?_ (PySem.F.args_str_translate_2 _ _)
  unfold Builtin.«str.translate»
  refine wpAny_bind (wpAny_of_eq (a := (Value.str ⟨#[c]⟩ t, (⟨#[c]⟩ : Str), Value.ref d)) (by rfl) ?_)
  dsimp only
  rw [if_neg (by simp [Str.length])]
  have hh1 : A.in1.handled = none := hh
  refine wpAny_bind ?_
  rw [← Array.forIn_toList]
  refine for_one ?_
  generalize (Array.all #[c] fun x => decide (x < 128)) = b3
  have e : (⟨List.foldl (fun acc (p : Str) => acc ++ p.cps) #[] [(⟨#[c]⟩ : Str)].reverse⟩ : Str) = ⟨#[c]⟩ := by simp
  cases b3 with
  | true =>
    refine wpAny_bind (lookup_keep hd hh1 hm hv fun h' tk hk => ?_)
    refine wpAny_bind (wpAny_pure (wpAny_pure ?_))
    refine wpAny_bind (wpAny_mkStr ?_ (le_sz (by simp [Str.length])))
    rw [e]
    exact wpAny_pure ⟨_, rfl, h _ _ _ hk⟩
  | false =>
    refine wpAny_bind (lookup_keep hd hh1 hm hv fun h' tk hk => ?_)
    refine wpAny_pure ?_
    refine wpAny_bind (wpAny_mkStr ?_ (le_sz (by simp [Str.length])))
    rw [e]
    exact wpAny_pure ⟨_, rfl, h _ _ _ hk⟩
end
end Mine
namespace Mine
-- Lam
open PySem PySem.W PyProof.Rows PySem.Spec PySem.Calls
set_option maxHeartbeats 8000000
noncomputable def TabOk (a b : Int) (ps : Array Value) : Prop := ps = #[] ∨ ∃ c' : Addr, ps = #[rawInt a, rawInt b, .ref c']
noncomputable abbrev lamObj (o : Obj) : Prop := ∃ d, o = ⟨.type "function", none, .func d, #[]⟩
section
variable {M : Model} {A : Around} {E : Value → Shared → Prop} {s : Shared} {h₀ : Heap} {L a c P : Addr} {m mg mb : Str → Option Value} {cn : Str} {cs : Scope} {ccd : Value} {cl : List (Str × Addr)} {news : List (Addr × Obj)} {g : Obj → List (Addr × Obj)}
  {p : Program} {loose : List Str} {mean : ExcName → Option Value} {params : Arguments} {body : Expr} {scope : Scope} {ps : Array Value} {pos : Pos} {clos : List (Str × Addr)}
theorem lam_K {Q : Value → Shared → Prop} (F : Fr h₀ L s.heap m) (N : News h₀ L s.heap news) (T : Top p loose mean mg mb h₀) (C : CodeHd h₀ c P) (hcd : ccd = .ref c) (U : UpdF P (tabObj ps) news g) (ht : TabOk pos.line pos.col ps)
    (hdef : defaultsOf params (envX cn cs L a ccd cl) = ([], []))
    (hcl : closureFor scope (envX cn cs L a ccd cl) = pure clos)
    (h : ∀ f fo h' tk ps', TabOk pos.line pos.col ps' → lamObj fo → Fr h₀ L h' m → News h₀ L h' ((f, fo) :: g (tabObj ps')) → (∀ q ∈ news, q.1 < f) → Q (.ref f) { s with heap := h', toks := tk }) :
    wpAny M A (eval (.Lambda params body scope pos) (envX cn cs L a ccd cl)) Q E s := by
  refine kla_eval hdef ?_
  rcases ht with rfl | ⟨c', rfl⟩
  · refine kla_nest F N T C hcd U (by simp [TriplesOk]) (by simp [codeAmong]) hcl fun f c' oc vs t ctv h' tk F' N' _ _ l1 l2 => ?_
    have N2 := drop2 N'
    rw [Array.empty_append] at N2
    exact h f _ h' tk _ (.inr ⟨c', rfl⟩) (by exact ⟨_, rfl⟩) F' N2 fun q hq => Nat.lt_trans (l1 q hq) l2
  · obtain ⟨own, rest, rfl, hgr, h1, h2⟩ := U.split
    refine kla_hit F N T C hcd (List.mem_append_right _ (.head _)) (by simp [TriplesOk, rawInt]) (by simp [codeAmong, rawInt]; rfl) hcl fun f ctv h' tk F' N' l1 => ?_
    rw [← hgr] at N'
    exact h f _ h' tk _ (.inr ⟨c', rfl⟩) (by exact ⟨_, rfl⟩) F' N' l1
end
theorem code_translate {w : World} {h₀ : Heap} (X : (KF w.params).In h₀) : CodeHd h₀ 125 121 := by
  have dummy : PySem.Challenge.rw_kt0089_01 = PySem.Challenge.rw_kt0089_01 ∧ KF = KF := by
    k_fill
    exact ⟨rfl, rfl⟩
  clear dummy
  exact ⟨_, _, _, _, _, _, _, _, _, X _ _ (by k_is), rfl, rfl, rfl, rfl, rfl, rfl, rfl, rfl, by decide⟩
end Mine
namespace Mine
-- Re4
open PySem PySem.W PyProof.Rows PySem.Spec PySem.Calls
set_option maxHeartbeats 8000000
open PySem.Builtin PySem.Builtin.Re
section
variable {prog : Program} {w : World} {A : Around} {E : Value → Shared → Prop} {s : Shared}
noncomputable def loopArgs (P f l : Addr) (b : Nat) (u : Tok) : Args := ⟨[.ref P, .str ⟨#[b]⟩ u, .ref f, rawInt 1, rawInt 0, rawInt 0, rawInt 0, rawInt 0, .bool false, .ref l, .bool false], []⟩
theorem sub_loop (P T f l : Addr) (d : FuncData) (b : Nat) (u : Tok) (v0 v1 : Value) (its : Array Value) (n0 n1 : Nat) {Q : Value → Shared → Prop} (hP : s.heap.get? P = some ⟨.type "re.Pattern", none, .fields #[v0, v1, .int 1 0, .none, .none, .ref T, .int 0 0], #[]⟩)
  (hT : s.heap.get? T = some ⟨.type "tuple", none, .seq its n0, #[]⟩) (hf : s.heap.get? f = some ⟨.type "function", none, .func d, #[]⟩) (hl : s.heap.get? l = some ⟨.type "list", none, .seq #[] n1, #[]⟩)
  (hM : ((Sre.forSearch ((its.map reRawOf).map (·.toNat)) #[b] 1 0 1 false).runFor 4).outcome = some .failed)
  (h : ∀ h' tk t' t'', h'.get? l = some ⟨.type "list", none, .seq #[.str ⟨#[b]⟩ t'] (n1 + 1), #[]⟩ → Heap.SameBut l s.heap h' → wpAny (model prog w) A.in1 (call (.builtin "str.join") [.str ⟨#[]⟩ t'', .ref l]) Q E { s with heap := h', toks := tk }) :
  codeAny (model prog w) A (.builtin "re.Pattern.sub.loop" (loopArgs P f l b u)) (fun r s' => match r with | .ok (.ret v) => Q v s' | .ok _ => False | .error e => E e s') s := by
  obtain ⟨hp, g, dr, tk, os⟩ := s
  have hTy : (⟨hp, g, dr, tk, os⟩ : Shared).TypeIs (.ref P) "re.Pattern" := ⟨_, hP, rfl⟩
  have hTt : (⟨hp, g, dr, tk, os⟩ : Shared).TypeIs (.ref T) "tuple" := ⟨_, hT, rfl⟩
  have hTl : (⟨hp, g, dr, tk, os⟩ : Shared).TypeIs (.ref l) "list" := ⟨_, hl, rfl⟩
  have hTf : (⟨hp, g, dr, tk, os⟩ : Shared).TypeIs (.ref f) "function" := ⟨_, hf, rfl⟩
  refine codeAny_builtin loop_entry ?_
  rw [Around.under_plainId (by decide +kernel)]
  unfold Builtin.«re.Pattern.sub.loop» reWholeTarget reTextOf loopArgs reNextFound
  repeat (any_goals (first | assumption | ((with_reducible show wpAny _ _ (reRunToEnd _) _ _ _); refine reRun_failed hM ?_) | ((with_reducible show wpAny _ _ (call (Value.builtin (ite _ _ _)) _ _) _ _ _); refine hold ?_) | wp_step))
  unfold Hold
  have hj := h (hp.update l (Obj.mapSeq (·.push (.str ⟨#[b]⟩ tk)))) (tk + 1 + 1) tk (tk + 1) (by rw [Heap.get?_update_self _ hl (by rw [Obj.mapSeq_push_plain]; rfl), Obj.mapSeq_push_plain]; rfl) (Heap.SameBut.update ..)
  exact wpAny_mono hj (fun v s' q => wpAny_pure q) fun _ _ e => e
theorem sub_none (P T f : Addr) (d : FuncData) (b : Nat) (u : Tok) (v0 v1 : Value) (its : Array Value) (n0 : Nat) {Q : Value → Shared → Prop} (hP : s.heap.get? P = some ⟨.type "re.Pattern", none, .fields #[v0, v1, .int 1 0, .none, .none, .ref T, .int 0 0], #[]⟩)
  (hT : s.heap.get? T = some ⟨.type "tuple", none, .seq its n0, #[]⟩) (hf : s.heap.get? f = some ⟨.type "function", none, .func d, #[]⟩)
  (hM : ((Sre.forSearch ((its.map reRawOf).map (·.toNat)) #[b] 1 0 1 false).runFor 4).outcome = some .failed)
  (h : ∀ h' tk t', (∀ a o, s.heap.get? a = some o → h'.get? a = some o) → Q (.str ⟨#[b]⟩ t') { s with heap := h', toks := tk }) : wpAny (model prog w) A (call (.builtin "re.Pattern.sub") [.ref P, .ref f, .str ⟨#[b]⟩ u]) Q E s := by
  obtain ⟨hp, g, dr, tk, os⟩ := s
  have hTy : (⟨hp, g, dr, tk, os⟩ : Shared).TypeIs (.ref P) "re.Pattern" := ⟨_, hP, rfl⟩
  have hTt : (⟨hp, g, dr, tk, os⟩ : Shared).TypeIs (.ref T) "tuple" := ⟨_, hT, rfl⟩
  have hTf : (⟨hp, g, dr, tk, os⟩ : Shared).TypeIs (.ref f) "function" := ⟨_, hf, rfl⟩
  have f1 := fn_call
  have f2 := sub_str_ba
  refine wpAny_call (codeAny_call_builtin sub_slot.plain sub_entry (sub_slot.check _ _ _ _ _ _ _ _ hTy (sub_args _ _ _) ?_))
  unfold Builtin.«re.Pattern.sub» reSubstitute reWholeTarget reTextOf
  repeat (any_goals (first | assumption | wp_step))
  refine ⟨plainId_quiet (by decide +kernel) _, ?_⟩
  have hlt : ∀ a o, hp.get? a = some o → (hp.push (⟨.type "list", none, .seq #[] 0, #[]⟩ : Obj)).get? a = some o := fun a o e => Heap.get?_push_of_some _ e
  refine sub_loop P T f hp.objs.size d b u v0 v1 its n0 0 (hlt _ _ hP) (hlt _ _ hT) (hlt _ _ hf) (Heap.get?_push_size _ rfl) hM fun h' tk' t' t'' hg hs => ?_
  refine join_list (ys := [⟨#[b]⟩]) ⟨_, hg, rfl, _, rfl⟩ (.cons _ _ .nil) (by show ([1].sum + 1 * 0 : Nat) ≤ 16777216; decide) fun t3 k3 => ?_
  have e : Txt.join ⟨#[]⟩ [⟨#[b]⟩] = ⟨#[b]⟩ := rfl
  rw [e]
  refine h h' k3 t3 fun a o ho => ?_
  exact (hs.2 a (Nat.ne_of_lt (Heap.lt_size ho))).trans (hlt a o ho)
end
theorem getMethod_sub {M : Model} {A : Around} {E : Value → Shared → Prop} {s : Shared} {l : Addr} {o : Obj} {pl : Sem Bool} {Q : Value × List Value → Shared → Prop} (ho : s.heap.get? l = some o) (hc : o.cls = .type "re.Pattern") (hd : o.dict = none)
    (h : Q (.builtin "re.Pattern.sub", [.ref l]) s) : wpAny M A (getMethod (.ref l) "sub" pl) Q E s := by
  have hT : s.TypeIs (.ref l) "re.Pattern" := ⟨o, ho, hc⟩
  unfold getMethod
  refine wpAny_bind (wpAny_specialOf hT rp_getattribute ?_)
  show wpAny M A (if (Manifest.canonical "object.__getattribute__" != "object.__getattribute__") = true then _ else _) Q E s
  rw [rp_canon, if_neg (by decide)]
  refine wpAny_bind (wpAny_specialOf hT rp_getattr ?_)
  refine wpAny_bind (wpAny_specialOf hT sub_slot.lookup ?_)
  refine wpAny_bind (wpAny_of_eq type_sub ?_)
  refine wpAny_bind (wpAny_load ho ?_)
  rw [hd]
  exact wpAny_bind (wpAny_rule (wpAny_pure h))
theorem sub_K {w : World} {A : Around} {E : Value → Shared → Prop} {s : Shared} {h₀ : Heap} {L f : Addr} {m : Str → Option Value} {news : Led} {fo : Obj} {b : Nat} {t : Tok} {Q : Value → Shared → Prop} (X : (KF w.params).In h₀) (F : Fr h₀ L s.heap m) (N : News h₀ L s.heap news) (hf : (f, fo) ∈ news) (hfo : lamObj fo) (hb : b = 42 ∨ b = 63 ∨ b = 91)
    (h : ∀ h' tk t', Fr h₀ L h' m → News h₀ L h' news → Q (.str ⟨#[b]⟩ t') { s with heap := h', toks := tk }) : wpAny (model pw w) A (call (.builtin "re.Pattern.sub") [.ref 100, .ref f, .str ⟨#[b]⟩ t]) Q E s := by
  have dummy : PySem.Challenge.rw_kt0089_01 = PySem.Challenge.rw_kt0089_01 ∧ KF = KF := by
    k_fill
    exact ⟨rfl, rfl⟩
  clear dummy
  obtain ⟨d, rfl⟩ := hfo
  refine sub_none 100 99 f d b t _ _ _ _ (F.keep _ _ (X _ _ (by k_is))) (F.keep _ _ (X _ _ (by k_is))) (N _ hf).1 ?_ fun h' tk t' hk => h h' tk t' (F.keeps hk) fun p hp => ⟨hk _ _ (N p hp).1, (N p hp).2⟩
  rcases hb with rfl | rfl | rfl <;> kernel_rfl
end Mine
namespace Mine
-- Strs
open PySem PySem.W PyProof.Rows PySem.Spec PySem.Calls
theorem lines_Strs_0 : True := by
  k_with_none
  k_with "lt" => first | with_reducible assumption | exact And.left (by with_reducible assumption) | exact And.left (And.right (by with_reducible assumption)) | exact And.left (And.right (And.right (by with_reducible assumption))) | exact And.left (And.right (And.right (And.right (by with_reducible assumption)))) | exact And.left (And.right (And.right (And.right (And.right (by with_reducible assumption)))))
  k_with "rl" => with_unfolding_all exact rfl
  k_with "omega" => first | (with_reducible exact om_room ‹_›) | (with_reducible exact om_le ‹_› (by k_extra "rl")) | (with_reducible exact om_ne1 (by k_extra "lt")) | lia
  trivial
noncomputable def ChAt (x : Str) (i : Int) (c : Nat) : Prop := 0 ≤ i ∧ i < x.length ∧ x.length ≤ 5000 ∧ x.cps.toList[i.toNat]? = some c
theorem ChAt.item {x : Str} {i : Int} {c : Nat} (h : ChAt x i c) : Txt.item x i = ⟨#[c]⟩ := by
  obtain ⟨h0, _, _, h1⟩ := h
  have := item_nat (x := x) (i := i.toNat) h1
  rwa [Int.toNat_of_nonneg h0] at this
section
variable {prog : Program} {w : World} {A : Around} {E : Value → Shared → Prop} {s : Shared} {value slice : Expr} {x y : Str} {t : Tok} {h₀ : Heap} {L : Addr} {m : Str → Option Value} {Q : Value → Shared → Prop} {news : Led}
theorem str_at {i : Int} {u : Tok} {c : Nat} (hc : ChAt x i c) (h : Q (.str ⟨#[c]⟩ s.toks) { s with toks := s.toks + 1 })
    (hs : subscripted slice false (.str x t) (.int i u) = operate [.str x t, .int i u] (getItem (.str x t) (.int i u)) := by with_unfolding_all rfl)
    (ht : ∀ r, letTemporaryGo value (.str x t) r = pure () := by intro _; with_unfolding_all rfl) :
    wpAny (model prog w) A (subscriptTail value slice (.str x t) (.int i u)) Q E s := by
  refine item_str ?_ ?_ hc.2.1 (fun _ => ?_) hs ht
  · obtain ⟨h1, h2, h3, _⟩ := hc
    unfold fitsSsize
    simp only [Bool.not_eq_true', Bool.or_eq_false_iff, decide_eq_false_iff_not]
    constructor <;> omega
  · obtain ⟨h1, h2, h3, _⟩ := hc
    omega
  · rw [hc.item]; exact h
theorem sl_ss {i j : Int} {ui uj : Tok} (hv : Txt.slice x (some i) (some j) = y) (hz : x.length ≤ 5000) (hI : Fr h₀ L s.heap m) (hN : News h₀ L s.heap news) (h : ∀ h' t' k, Fr h₀ L h' m → News h₀ L h' news → Q (.str y t') { s with heap := h', toks := k })
    (hs : subscripted slice false (.str x t) (.ref s.heap.objs.size) = operate [.ref s.heap.objs.size, .str x t] (getItem (.str x t) (.ref s.heap.objs.size)) := by with_unfolding_all rfl)
    (ht : ∀ r, letTemporaryGo value (.str x t) r = pure () := by intro _; with_unfolding_all rfl) :
    wpAny (model prog w) A (subscriptTail value slice (.str x t) (.ref s.heap.objs.size)) Q E { s with heap := s.heap.push { cls := .type "slice", data := .fields #[.int i ui, .int j uj, .none] } } :=
  slice_strN_ss hI hN (fun h' t' k F N => hv ▸ h h' t' k F N) hs ht (le_sz hz)
theorem sl_sn {i : Int} {ui : Tok} (hv : Txt.slice x (some i) none = y) (hz : x.length ≤ 5000) (hI : Fr h₀ L s.heap m) (hN : News h₀ L s.heap news) (h : ∀ h' t' k, Fr h₀ L h' m → News h₀ L h' news → Q (.str y t') { s with heap := h', toks := k })
    (hs : subscripted slice false (.str x t) (.ref s.heap.objs.size) = operate [.ref s.heap.objs.size, .str x t] (getItem (.str x t) (.ref s.heap.objs.size)) := by with_unfolding_all rfl)
    (ht : ∀ r, letTemporaryGo value (.str x t) r = pure () := by intro _; with_unfolding_all rfl) :
    wpAny (model prog w) A (subscriptTail value slice (.str x t) (.ref s.heap.objs.size)) Q E { s with heap := s.heap.push { cls := .type "slice", data := .fields #[.int i ui, .none, .none] } } :=
  slice_strN_sn hI hN (fun h' t' k F N => hv ▸ h h' t' k F N) hs ht (le_sz hz)
theorem sl_ns {j : Int} {uj : Tok} (hv : Txt.slice x none (some j) = y) (hz : x.length ≤ 5000) (hI : Fr h₀ L s.heap m) (hN : News h₀ L s.heap news) (h : ∀ h' t' k, Fr h₀ L h' m → News h₀ L h' news → Q (.str y t') { s with heap := h', toks := k })
    (hs : subscripted slice false (.str x t) (.ref s.heap.objs.size) = operate [.ref s.heap.objs.size, .str x t] (getItem (.str x t) (.ref s.heap.objs.size)) := by with_unfolding_all rfl)
    (ht : ∀ r, letTemporaryGo value (.str x t) r = pure () := by intro _; with_unfolding_all rfl) :
    wpAny (model prog w) A (subscriptTail value slice (.str x t) (.ref s.heap.objs.size)) Q E { s with heap := s.heap.push { cls := .type "slice", data := .fields #[.none, .int j uj, .none] } } :=
  slice_strN_ns hI hN (fun h' t' k F N => hv ▸ h h' t' k F N) hs ht (le_sz hz)
end
end Mine
namespace Mine
-- Bm3
open PySem PySem.W PyProof.Rows PySem.Spec PySem.Calls
theorem lines_Bm3_0 : True := by
  k_with_none
  k_with "lt" => first | with_reducible assumption | exact And.left (by with_reducible assumption) | exact And.left (And.right (by with_reducible assumption)) | exact And.left (And.right (And.right (by with_reducible assumption))) | exact And.left (And.right (And.right (And.right (by with_reducible assumption)))) | exact And.left (And.right (And.right (And.right (And.right (by with_reducible assumption)))))
  k_with "rl" => with_unfolding_all exact rfl
  k_with "omega" => first | (with_reducible exact om_room ‹_›) | (with_reducible exact om_le ‹_› (by k_extra "rl")) | (with_reducible exact om_ne1 (by k_extra "lt")) | lia
  trivial
noncomputable def BmAt (u : Addr) (h : Heap) : Prop := ∃ vs, h.get? u = some ⟨.type "builtin_function_or_method", none, .fields vs, #[]⟩
section
variable {prog : Program} {w : World} {A : Around} {E : Value → Shared → Prop} {s : Shared} {h₀ : Heap} {L u : Addr} {m : Str → Option Value} {news : Led}
theorem bm_of {lo : Addr} {h : Heap} (N : News h₀ L h news) (hm : (u, bmObj lo) ∈ news) : BmAt u h := ⟨_, (N _ hm).1⟩
theorem callWith_fields {M : Model} {pos : Pos} {first : List Value} {args : List (Bool × Sem Value)} {Q : Value → Shared → Prop} (hplain : args.any (·.1) = false)
    (h : wpAny M A (evalArgs (.ref u) true args []) (fun x s₁ => BmAt u s₁.heap ∧ wpAny M A (call (.ref u) (first ++ x.pos) x.kw) Q E s₁) E s) : wpAny M A (callWith pos (.ref u) first args []) Q E s := by
  unfold callWith
  refine wpAny_bind (wpAny_holding (wpAny_mono h (fun x s₁ h₁ => wpAny_bind (wpAny_standAt ?_)) fun _ _ x => x))
  obtain ⟨⟨vs, ho⟩, hcall⟩ := h₁
  simp only [hplain, List.any_nil, Bool.or_false]
  refine wpAny_bind (m := keeperOf (.ref u)) ?_
  unfold keeperOf
  refine wpAny_bind (wpAny_load ho ?_)
  simp only [show (Value.type "builtin_function_or_method" != Value.type "method") = true by decide, show (Value.type "builtin_function_or_method" == Value.type "builtin_function_or_method" || Value.type "builtin_function_or_method" == Value.type "method-wrapper") = true by decide, if_true]
  refine wpAny_pure ?_
  exact wpAny_bind (wpAny_mono hcall (fun r s₂ hr => wpAny_bind (wpAny_holding (wpAny_point (wpAny_pure hr)))) fun _ _ x => x)
theorem callWith_bm {M : Model} {pos : Pos} {lo : Addr} {first : List Value} {env : Env} {e : Expr} {rest : List Expr} {Q : Value → Shared → Prop} (_N : News h₀ L s.heap news) (_hm : (u, bmObj lo) ∈ news)
    (h : wpAny M A (spliced (backTo pos (starEach (e :: rest) env))) (fun vs s₁ => BmAt u s₁.heap ∧ wpAny M A (call (.ref u) (first ++ vs)) Q E s₁) E s)
    (he : starEach (e :: rest) env = (false, eval e env) :: starEach rest env := by rfl) (hplain : (backTo pos (starEach rest env)).any (·.1) = false := by rfl) :
    wpAny M A (callWith pos (.ref u) first (backTo pos (starEach (e :: rest) env)) []) Q E s := by
  rw [he] at h ⊢
  refine callWith_fields (by show (false || (backTo pos (starEach rest env)).any (·.1)) = false; rw [hplain]; rfl) ?_
  exact evalArgs_plain h
theorem truthy_L {l : Addr} {vs : List Value} {n : Nat} {b : Bool} {Q : Bool → Shared → Prop} (N : News h₀ L s.heap news) (hm : (l, listOf vs.toArray n) ∈ news) (hb : vs.isEmpty = b) (hz : vs.length ≤ 5000) (h : Q (!b) { s with toks := s.toks + 1 + 1 }) : wpAny (model prog w) A (truthy (.ref l)) Q E s := by
  refine wpAny_truthy_list (items := vs.toArray) ⟨_, (N _ hm).1, rfl, _, rfl⟩ (by simp; omega) ?_
  rw [List.isEmpty_toArray, hb]; exact h
theorem item_last {value slice : Expr} {l : Addr} {vs : List Value} {n : Nat} {v : Value} {t : Tok} {Q : Value → Shared → Prop} (N : News h₀ L s.heap news) (hm : (l, listOf vs.toArray n) ∈ news) (hv : vs.getLast? = some v) (hz : vs.length ≤ 5000) (h : Q v s)
    (hs : subscripted slice false (.ref l) (.int (-1) t) = operate [.ref l, .int (-1) t] (getItem (.ref l) (.int (-1) t)) := by with_unfolding_all rfl) (hg : ∀ r, letTemporaryGo value (.ref l) r = pure () := by intro _; with_unfolding_all rfl) :
    wpAny (model prog w) A (subscriptTail value slice (.ref l) (.int (-1) t)) Q E s := by
  have hne : vs ≠ [] := by rintro rfl; cases hv
  have hpos : 0 < vs.length := List.length_pos_iff.mpr hne
  have hl : s.heap.IsList l vs.toArray := ⟨_, (N _ hm).1, rfl, _, rfl⟩
  refine subscriptTail_builtin hl.typeIs slot_list_getitem.lookup (wpAny_getItem_list_neg hl (by omega) (by simp; omega) (by omega) ?_ h) hs hg
  have e : ((-1 : Int) + (vs.toArray.size : Nat)).toNat = vs.length - 1 := by simp; omega
  rw [e]
  rw [List.getLast?_eq_getElem?] at hv
  simpa using hv
end
section
variable {prog : Program} {w : World} {A : Around} {E : Value → Shared → Prop} {s : Shared} {x x' y z : Str} {t u v : Tok} {Q : Value → Shared → Prop}
theorem rep_none (h0 : (Builtin.Str.occurrences x y 0 x.length (x.length + 1)).isEmpty = true) (hq : ∀ t' k, Q (.str x t') { s with toks := k }) : wpAny (model prog w) A (call (.builtin "str.replace") [.str x t, .str y u, .str z v]) Q E s := by
  refine call_gives F.slot_str_replace (typeIs_str _ _ _) F.entry_str_replace (F.args_str_replace_3 _ _ _)
    (gives_str_replace x y z t u v fun h => ?_) ?_
  · rw [h0] at h; cases h
  · rw [h0]
    simp only [Bool.true_or, if_true]
    exact hq t s.toks
theorem notIn_at {c : Bool} (hv : Txt.contains x y = c) (h : Q (.bool (!c)) s) : wpAny (model prog w) A (compareOp .NotIn (.str y u) (.str x t)) Q E s := by
  subst hv
  exact P.notIn_str h
end
end Mine
namespace Mine
-- Small
open PySem PySem.W PyProof.Rows PySem.Spec PySem.Calls
theorem lines_Small_0 : True := by
  k_with_none
  k_with "lt" => first | with_reducible assumption | exact And.left (by with_reducible assumption) | exact And.left (And.right (by with_reducible assumption)) | exact And.left (And.right (And.right (by with_reducible assumption))) | exact And.left (And.right (And.right (And.right (by with_reducible assumption)))) | exact And.left (And.right (And.right (And.right (And.right (by with_reducible assumption)))))
  k_with "rl" => with_unfolding_all exact rfl
  k_with "omega" => first | (with_reducible exact om_room ‹_›) | (with_reducible exact om_le ‹_› (by k_extra "rl")) | (with_reducible exact om_ne1 (by k_extra "lt")) | lia
  trivial
theorem fold_env {M : Model} {A : Around} {env : Env} {body : List Stmt} {Q : Flow → Shared → Prop} {E : Value → Shared → Prop} {s : Shared} (h : let A' := A; let env' := env; wpAny M A' (execs body env') Q E s) : wpAny M A (execs body env) Q E s := h
theorem fold_sh {α : Type} {M : Model} {A : Around} {t : Sem α} {Q : α → Shared → Prop} {E : Value → Shared → Prop} {s : Shared} (h : let st := s; wpAny M A t Q E st) : wpAny M A t Q E s := h
noncomputable def SeqQ (M : Model) (A : Around) (rest : List Stmt) (env : Env) (Q : Flow → Shared → Prop) (E : Value → Shared → Prop) (f : Flow) (s : Shared) : Prop := match f with
  | .next => wpAny M A (execs rest env) Q E s
  | f => Q f s
noncomputable def IfQ (M : Model) (A : Around) (body orelse : List Stmt) (env : Env) (Q : Flow → Shared → Prop) (E : Value → Shared → Prop) (b : Bool) (s : Shared) : Prop := if b = true then wpAny M A (execs body env) Q E s else wpAny M A (execs orelse env) Q E s
section
variable {M : Model} {A : Around} {rest body orelse : List Stmt} {env : Env} {Q : Flow → Shared → Prop} {E : Value → Shared → Prop} {s : Shared} {st : Stmt} {test : Expr} {pos : Pos} {b : Bool} {v : Value}
theorem execs_seq (h : wpAny M A (exec st env) (SeqQ M A rest env Q E) E s) : wpAny M A (execs (st :: rest) env) Q E s := wpAny_execs_cons h
theorem exec_one (h : wpAny M A (exec st env) Q E s) : wpAny M A (execs [st] env) Q E s := wpAny_execs_cons (wpAny_mono h (fun f s' q => by cases f <;> first | exact q | exact wpAny_execs_nil q) fun _ _ x => x)
theorem seq_next (h : wpAny M A (execs rest env) Q E s) : SeqQ M A rest env Q E .next s := h
theorem seq_ret (h : Q (.ret v) s) : SeqQ M A rest env Q E (.ret v) s := h
theorem seq_brk (h : Q .brk s) : SeqQ M A rest env Q E .brk s := h
theorem seq_cont (h : Q .cont s) : SeqQ M A rest env Q E .cont s := h
theorem exec_if (h : wpAny M A (isTrue test env (eval test env)) (IfQ M A body orelse env Q E) E s) : wpAny M A (exec (.If test body orelse pos) env) Q E s := wpAny_If h
theorem ifq_yes (hb : b = true) (h : wpAny M A (execs body env) Q E s) : IfQ M A body orelse env Q E b s := by subst hb; exact h
theorem ifq_no (hb : b = false) (h : wpAny M A (execs orelse env) Q E s) : IfQ M A body orelse env Q E b s := by subst hb; exact h
end
theorem fr_let {h₀ h' : Heap} {L : Addr} {m : Str → Option Value} {P : Prop} (F : Fr h₀ L h' m) (k : let m' := m; Fr h₀ L h' m' → P) : P := k F
theorem names_cons {m : Str → Option Value} {n : Str} {v : Value} {r : List (Str × Value)} (h : m n = some v) (hr : ∀ p ∈ r, m p.1 = some p.2) : ∀ p ∈ (n, v) :: r, m p.1 = some p.2 := fun p hp => by
  rcases List.mem_cons.mp hp with rfl | hp
  · exact h
  · exact hr p hp
theorem names_nil {m : Str → Option Value} : ∀ p ∈ ([] : List (Str × Value)), m p.1 = some p.2 := fun _ h => nomatch h
section
variable {M : Model} {A : Around} {E : Value → Shared → Prop} {s : Shared} {h₀ : Heap} {L a : Addr} {m : Str → Option Value} {cn : Str} {cs : Scope} {ccd : Value} {cl : List (Str × Addr)} {news : Led} {x : Str} {v : Value}
theorem storeX_F {Q : Unit → Shared → Prop} (F : Fr h₀ L s.heap m) (N : News h₀ L s.heap news)
    (h : ∀ h', let m' := (fun y => if y = x then some v else m y); Fr h₀ L h' m' → News h₀ L h' news → Q () { s with heap := h', toks := s.toks + 1 })
    (hk : cs.kind = .function := by rfl) (hx : (envX cn cs L a ccd cl).kindOf x = some .local := by rfl) : wpAny M A (storeName (envX cn cs L a ccd cl) x v) Q E s := storeX_L F N h hk hx
theorem item_L {prog : Program} {w : World} {value slice : Expr} {l : Addr} {items : List Value} {n : Nat} {k : Int} {u : Tok} {x : Value} {Q : Value → Shared → Prop} (N : News h₀ L s.heap news) (hm : (l, listOf items.toArray n) ∈ news) (h0 : 0 ≤ k) (hfit : k < 2 ^ 63) (hx : items[k.toNat]? = some x) (h : Q x s)
    (hs : subscripted slice false (.ref l) (.int k u) = operate [.ref l, .int k u] (getItem (.ref l) (.int k u)) := by with_unfolding_all rfl) (hg : ∀ r, letTemporaryGo value (.ref l) r = pure () := by intro _; with_unfolding_all rfl) :
    wpAny (model prog w) A (subscriptTail value slice (.ref l) (.int k u)) Q E s := item_listL ⟨_, (N _ hm).1, rfl, _, rfl⟩ h0 hfit hx h hs hg
theorem join1 (sep x : Str) : Txt.join sep [x] = x := rfl
theorem join_L {prog : Program} {w : World} {l : Addr} {items : List Value} {n : Nat} {sep r : Str} {t : Tok} {ys : List Str} {Q : Value → Shared → Prop} (N : News h₀ L s.heap news) (hm : (l, listOf items.toArray n) ∈ news) (hs : StrsAre items ys) (hr : Txt.join sep ys = r) (hz : (ys.map (·.length)).sum ≤ 10000) (hn : ys.length ≤ 1000) (hsep : sep.length ≤ 10)
    (h : ∀ t' k, Q (.str r t') { s with toks := k }) : wpAny (model prog w) A (call (.builtin "str.join") [.str sep t, .ref l]) Q E s := by
  subst hr
  exact join_list (items := items.toArray) ⟨_, (N _ hm).1, rfl, _, rfl⟩ hs (by have := Nat.mul_le_mul hn hsep; omega) h
theorem in_two {prog : Program} {w : World} {D : Addr} {x y z : Str} {t t1 t2 : Tok} {n : Nat} {Q : Value → Shared → Prop} (N : News h₀ L s.heap news) (hm : (D, (⟨.type "tuple", none, .seq #[.str x t1, .str y t2] n, #[]⟩ : Obj)) ∈ news)
    (h : Q (.bool ([x, y].any fun q => q == z)) s) : wpAny (model prog w) A (compareOp .In (.str z t) (.ref D)) Q E s :=
  in_tuple_strs (News.isTup N hm) (.cons _ _ (.cons _ _ .nil)) h
end
end Mine
namespace Mine
-- K5
open PySem PySem.W PyProof.Rows PySem.Spec PySem.Calls
set_option maxHeartbeats 8000000
theorem fillK : PySem.Challenge.rw_kt0089_01 = PySem.Challenge.rw_kt0089_01 ∧ KF = KF := by
  k_fill
  exact ⟨rfl, rfl⟩
section
variable {w : World} {p : Program} {loose : List Str} {mean : ExcName → Option Value} {mg mb : Str → Option Value}
noncomputable def eraseAt (l : List Int) (j : Nat) : List Int := l.eraseIdx j
noncomputable def ordOf : List Int → List Int → List Int
  | [], _ => []
  | x :: xs, rs => rs.getD (x.fmod rs.length).toNat 0 :: ordOf xs (rs.eraseIdx (x.fmod rs.length).toNat)
theorem lines_K5_0 : True := by
  k_with_none
  k_with "lt" => first | with_reducible assumption | exact And.left (by with_reducible assumption) | exact And.left (And.right (by with_reducible assumption)) | exact And.left (And.right (And.right (by with_reducible assumption))) | exact And.left (And.right (And.right (And.right (by with_reducible assumption)))) | exact And.left (And.right (And.right (And.right (And.right (by with_reducible assumption)))))
  k_with "rl" => with_unfolding_all exact rfl
  k_with "omega" => first | (with_reducible exact om_room ‹_›) | (with_reducible exact om_le ‹_› (by k_extra "rl")) | (with_reducible exact om_ne1 (by k_extra "lt")) | lia
  k_with "k_all" => exact ne_allLt (by first | assumption | exact And.right (by assumption) | exact And.right (And.right (by assumption)) | exact And.right (And.right (And.right (by assumption))))
  k_with "kst_all" => repeat (first | exact names_nil | refine names_cons (by with_unfolding_all exact rfl) ?_)
  k_with "execs cons" => ((try k_gentoks); refine fold_sh ?_; intro _; first | (with_reducible refine exec_one ?_) | ((with_reducible refine execs_seq ?_); k_fold))
  k_with "SeqQ" => first | refine seq_next ?_ | refine seq_ret ?_ | refine seq_brk ?_ | refine seq_cont ?_
  k_with "exec If" => (with_reducible refine exec_if ?_)
  k_with "IfQ" => first | (refine ifq_no (by with_reducible assumption) ?_) | (refine ifq_yes (by with_reducible assumption) ?_) | (refine ifq_no (by decide) ?_) | (refine ifq_yes (by decide) ?_) | dsimp only [IfQ]
  k_with "storeName" => (k_dflt (refine' storeX_F ?Fzq ?Nzq ?_ ?azq ?bzq; (case Fzq => k_asm); (case Nzq => k_asm); (case azq => rfl); (case bzq => rfl); k_whole); intro _ _ _ _; (try k_sweep))
  k_with "exec For Name Name cons nil" => refine hold ?_
  k_with "exec While" => refine hold ?_
  k_with "call builtin:list.pop" => (k_dflt (refine' pop_ints ?Fzq ?Nzq ?rzq ?azq ?bzq ?zzq ?Uzq ?_; (case Fzq => k_asm); (case Nzq => k_asm); (case Uzq => k_upd); (case rzq => assumption); (case azq => assumption); (case bzq => assumption); (case zzq => omega)); intro _ _ _ _)
  k_with "call builtin:list.append" => (k_dflt (refine' append_K ?Fzq ?Nzq ?Uzq ?_ ?zzq; (case Fzq => k_asm); (case Nzq => k_asm); (case Uzq => k_upd); (case zzq => (simp only [List.size_toArray]; exact le_sz (by omega)))); intro _ _ _)
  k_with "pyIter ref" => refine hold ?_
  k_with "FPost" => first | refine fpost_next ?_ | refine fpost_ret ?_ | refine fpost_cont ?_ | refine fpost_brk ?_
  trivial
theorem c_order (l : Addr) (cap : Nat) (vs : List Value) (ns : List Int) (hv : IntsAre vs ns) (hn : ns.length ≤ 5) (news : Led) : CtrG w p loose mean mg mb (.ref 876) ((l, ⟨.type "list", none, .seq vs.toArray cap, #[]⟩) :: news) [.ref l]
    (fun k => ∀ D us c, IntsAre us (ordOf ns (rangeKs 0 ns.length)) → l < D → (∀ p ∈ news, p.1 < D) → k (.ref D) ((D, ⟨.type "list", none, .seq us.toArray c, #[]⟩) :: (l, ⟨.type "list", none, .seq vs.toArray cap, #[]⟩) :: news)) (fun _ => True) := by
  intro dp un gd cn cs a ccd cl outer A₀ base h₀ L m s Q E B F X N T hk hd hu hret _
  dsimp only at hret
  refine wpAny_call ?_
  k_dflt cell_enter
  refine fold_env ?_
  intro AA en
  k_steps
  unfold Hold
  rename Fr _ _ _ _ => F2
  rename News _ _ _ _ => N2
  rename_i Dr vr cr _ _ iR lD _ _ lo _ lL _ _ _
  refine my_for F2 rfl rfl ?_
  k_steps
  unfold Hold
  have hlenR : (rangeKs 0 ((ns.length : Int) - 0).toNat) = rangeKs 0 ns.length := by
    congr 1
  rw [hlenR] at iR
  have hkeep : Fr h₀ L h₀ m → True := fun _ => trivial
  refine' it_list (σ := (List Value × Nat) × (List Value × Nat)) (fun c => (lo, listOf c.1.1.toArray c.1.2) :: (Dr, listOf c.2.1.toArray c.2.2) :: (l, listOf vs.toArray cap) :: news)
    (fun c => [(Str.ofString "numbers", .ref l), (Str.ofString "rest", .ref Dr), (Str.ofString "order", .ref lo)])
    (fun i c => ∃ os rs, IntsAre c.1.1 os ∧ IntsAre c.2.1 rs ∧ os.length = i ∧ rs.length = ns.length - i ∧ os ++ ordOf (ns.drop i) rs = ordOf ns (rangeKs 0 ns.length)) ⟨([], 0), (vr, cr)⟩
    rfl F2 N2 ?hl ?hin ?hn ?hk ?hp ?turn ?done
  case hl => exact List.Mem.tail _ (List.Mem.tail _ (List.Mem.head _))
  case hin => exact fun c => List.Mem.tail _ (List.Mem.tail _ (List.Mem.head _))
  case hn => exact fun p hp => hp
  case hk => kst_all
  case hp => exact ⟨[], _, .nil, iR, rfl, by rw [rangeKs_length]; rfl, rfl⟩
  case turn =>
    rintro i v ⟨⟨vo, co⟩, ⟨vr', cr'⟩⟩ u h9 tk9 I it hvi ⟨os, rs, ho, hr, hol, hrl, hor⟩ hI F9 N9
    refine fold_q ?_
    intro q9
    have hvl : vs.length = ns.length := hv.length
    dsimp only at hI ho hr hrl hol hor N9
    try dsimp only at F9
    refine fr_let F9 ?_
    clear F9
    intro m9 F9
    simp only [List.forall_mem_cons] at hI
    obtain ⟨hI1, hI2, hI3, hI4⟩ := hI
    have hI1 : @Ne Nat lo I := hI1
    have hI2 : @Ne Nat Dr I := hI2
    have hI3 : @Ne Nat l I := hI3
    have hi : i < ns.length := by
      rw [← hvl]
      rcases Nat.lt_or_ge i vs.length with h1 | h1
      · exact h1
      · rw [List.getElem?_eq_none h1] at hvi; cases hvi
    obtain ⟨tv, hvt⟩ := hv.get i ns[i] (List.getElem?_eq_getElem hi)
    rw [hvi] at hvt
    cases hvt
    have hrl2 : vr'.length = rs.length := hr.length
    have hpos : 0 < rs.length := by omega
    have hvol : vo.length = os.length := ho.length
    have hj0 : 0 ≤ ns[i].fmod (rs.length : Int) := Int.fmod_nonneg_of_pos _ (by omega)
    have hj1 : ns[i].fmod (rs.length : Int) < rs.length := Int.fmod_lt_of_pos _ (by omega)
    k_steps
    rename Fr _ _ _ _ => F8
    rename News _ _ _ _ => N8
    simp only [List.push_toArray] at N8
    refine' f_end ⟨(_, _), (_, _)⟩ F8 N8 (List.Mem.head _) (fun p hp => List.Mem.tail _ hp) ?ho1 ?hk1 ?hp1
    case ho1 =>
      intro p hp
      rcases List.mem_cons.mp hp with rfl | hp
      · exact hI1
      rcases List.mem_cons.mp hp with rfl | hp
      · exact hI2
      rcases List.mem_cons.mp hp with rfl | hp
      · exact hI3
      · exact hI4 p hp
    case hk1 => kst_all
    case hp1 =>
      refine ⟨_, _, ints_snoc ho, ints_erase hr _, ?_, ?_, ?_⟩
      · rw [List.length_append, hol]; rfl
      · rw [List.length_eraseIdx_of_lt (by omega), hrl]; omega
      · rw [← hor, List.drop_eq_getElem_cons hi, List.append_assoc]; rfl
  case done =>
    rintro ⟨⟨vo, co⟩, ⟨vr', cr'⟩⟩ u h9 tk9 ⟨os, rs, ho, hr, hol, hrl, hor⟩ F9 N9
    dsimp only at ho hr hrl hol hor N9
    try dsimp only at F9
    rw [show vs.length = ns.length from hv.length, List.drop_length] at hor
    have hor2 : os = ordOf ns (rangeKs 0 ns.length) := by rw [← hor]; exact (List.append_nil os).symm
    rw [hor2] at ho
    k_steps
    exact hret lo vo co ho lL.2.1 (lt_allLt lL.2.2) _ _ (by assumption) (drop2 (by assumption))
end
end Mine
namespace Mine
-- K6
open PySem PySem.W PyProof.Rows PySem.Spec PySem.Calls
set_option maxHeartbeats 8000000
section
variable {w : World} {p : Program} {loose : List Str} {mean : ExcName → Option Value} {mg mb : Str → Option Value}
theorem lines_K6_0 : True := by
  k_with_none
  k_with "lt" => first | with_reducible assumption | exact And.left (by with_reducible assumption) | exact And.left (And.right (by with_reducible assumption)) | exact And.left (And.right (And.right (by with_reducible assumption))) | exact And.left (And.right (And.right (And.right (by with_reducible assumption)))) | exact And.left (And.right (And.right (And.right (And.right (by with_reducible assumption)))))
  k_with "rl" => with_unfolding_all exact rfl
  k_with "omega" => first | (with_reducible exact om_room ‹_›) | (with_reducible exact om_le ‹_› (by k_extra "rl")) | (with_reducible exact om_ne1 (by k_extra "lt")) | lia
  k_with "k_all" => exact ne_allLt (by first | assumption | exact And.right (by assumption) | exact And.right (And.right (by assumption)) | exact And.right (And.right (And.right (by assumption))))
  k_with "kst_all" => repeat (first | exact names_nil | refine names_cons (by with_unfolding_all exact rfl) ?_)
  k_with "execs cons" => ((try k_gentoks); refine fold_sh ?_; intro _; first | (with_reducible refine exec_one ?_) | ((with_reducible refine execs_seq ?_); k_fold))
  k_with "SeqQ" => first | refine seq_next ?_ | refine seq_ret ?_ | refine seq_brk ?_ | refine seq_cont ?_
  k_with "exec If" => (with_reducible refine exec_if ?_)
  k_with "IfQ" => first | (refine ifq_no (by with_reducible assumption) ?_) | (refine ifq_yes (by with_reducible assumption) ?_) | (refine ifq_no (by decide) ?_) | (refine ifq_yes (by decide) ?_) | dsimp only [IfQ]
  k_with "storeName" => (k_dflt (refine' storeX_F ?Fzq ?Nzq ?_ ?azq ?bzq; (case Fzq => k_asm); (case Nzq => k_asm); (case azq => rfl); (case bzq => rfl); k_whole); intro _ _ _ _; (try k_sweep))
  k_with "exec For Name Call cons nil" => refine hold ?_
  k_with "exec For Name Call cons nil nil" => refine hold ?_
  k_with "exec For" => refine hold ?_
  k_with "call builtin:list.append" => (k_dflt (refine' append_K ?Fzq ?Nzq ?Uzq ?_ ?zzq; (case Fzq => k_asm); (case Nzq => k_asm); (case Uzq => k_upd); (case zzq => (simp only [List.size_toArray]; exact le_sz (by omega)))); intro _ _ _)
  k_with "call builtin:chr" => refine chr_of_range (by assumption) (by assumption) ?_
  k_with "pyIter ref" => refine hold ?_
  k_with "FPost" => first | refine fpost_next ?_ | refine fpost_ret ?_ | refine fpost_cont ?_ | refine fpost_brk ?_
  trivial
noncomputable def signLit (k : Nat) : Nat := [34, 42, 91, 39, 63].getD k 0
noncomputable def signOf (k : Nat) (n : Int) : Str := if (n.fdiv 120).fmod 2 = 0 then ⟨#[signLit k]⟩ else ⟨#[(200 + 5 * n.fdiv 240 + k).toNat]⟩
theorem strs_snoc {x : Str} {t : Tok} : ∀ {vs : List Value} {ns : List Str}, StrsAre vs ns → StrsAre (vs ++ [.str x t]) (ns ++ [x])
  | _, _, .nil => .cons _ _ .nil
  | _, _, .cons n t h => .cons n t (strs_snoc h)
theorem lit_item {i : Nat} (h : i < 5) : Txt.item (Str.ofString "\"*['?") (0 + (i : Int)) = ⟨#[signLit i]⟩ := by
  rcases (by omega : i = 0 ∨ i = 1 ∨ i = 2 ∨ i = 3 ∨ i = 4) with rfl | rfl | rfl | rfl | rfl <;> decide
theorem chr_lo {n : Int} {i : Nat} (h0 : 0 ≤ n) (h1 : n < 1000000) (hi : i < 5) : 0 ≤ 200 + 5 * n.fdiv 240 + (0 + (i : Int)) ∧ 200 + 5 * n.fdiv 240 + (0 + (i : Int)) ≤ 1114111 := by
  rw [Int.fdiv_eq_ediv_of_nonneg _ (by decide)]
  omega
theorem c_signs (l : Addr) (cap : Nat) (vs : List Value) (ns : List Int) (hv : IntsAre vs ns) (hn : ns.length = 10) (hr : ∀ n ∈ ns, 0 ≤ n ∧ n < 1000000) (news : Led) : CtrG w p loose mean mg mb (.ref 883) ((l, ⟨.type "list", none, .seq vs.toArray cap, #[]⟩) :: news) [.ref l]
    (fun k => ∀ D us c, StrsAre us ((List.range 5).map fun i => signOf i (ns.getD i 0)) → l < D → (∀ p ∈ news, p.1 < D) → k (.ref D) ((D, ⟨.type "list", none, .seq us.toArray c, #[]⟩) :: (l, ⟨.type "list", none, .seq vs.toArray cap, #[]⟩) :: news)) (fun _ => True) := by
  intro dp un gd cn cs a ccd cl outer A₀ base h₀ L m s Q E B F X N T hk hd hu hret _
  dsimp only at hret
  refine wpAny_call ?_
  k_dflt cell_enter
  refine fold_env ?_
  intro AA en
  k_steps
  unfold Hold
  rename Fr _ _ _ _ => F2
  rename News _ _ _ _ => N2
  rename_i lo _ lL _ _ _
  refine my_for F2 rfl rfl ?_
  k_steps
  unfold Hold
  rename IsRange _ _ _ _ _ _ _ _ => hR
  rename Fr _ _ _ _ => F3
  rename News _ _ _ _ => N3
  refine' it_range (n := 5) (σ := List Value × Nat) (fun c => (lo, listOf c.1.toArray c.2) :: (l, listOf vs.toArray cap) :: news)
    (fun c => [(Str.ofString "numbers", .ref l), (Str.ofString "signs", .ref lo)])
    (fun i c => StrsAre c.1 ((List.range i).map fun j => signOf j (ns.getD j 0))) ⟨[], 0⟩
    rfl hR rfl rfl F3 N3 (fun p hp => hp) ?hk .nil ?turn ?done
  case hk => kst_all
  case turn =>
    rintro i t ⟨vo, co⟩ u h9 tk9 I it hi ho hI F9 N9
    refine fold_q ?_
    intro q9
    dsimp only at hI ho N9
    try dsimp only at F9
    refine fr_let F9 ?_
    clear F9
    intro m9 F9
    simp only [List.forall_mem_cons] at hI
    obtain ⟨hI1, hI3, hI4⟩ := hI
    have hI1 : @Ne Nat lo I := hI1
    have hI3 : @Ne Nat l I := hI3
    have hol : vo.length = i := by rw [ho.length]; simp
    have hq : ns.getD i 0 ∈ ns := by
      rw [List.getD_eq_getElem?_getD, List.getElem?_eq_getElem (by omega)]
      exact List.getElem_mem _
    have hb := hr _ hq
    have e0 : (0 + (i : Int)).toNat = i := by rw [Int.zero_add]; rfl
    obtain ⟨hc0, hc1⟩ := chr_lo (i := i) hb.1 hb.2 hi
    rw [← e0] at hc0 hc1
    rw [e0] at hc0 hc1
    have hc0' : 0 ≤ 200 + 5 * (ns.getD (0 + (i : Int)).toNat 0).fdiv 240 + (0 + (i : Int)) := by rw [e0]; exact hc0
    have hc1' : 200 + 5 * (ns.getD (0 + (i : Int)).toNat 0).fdiv 240 + (0 + (i : Int)) ≤ 1114111 := by rw [e0]; exact hc1
    clear hc0 hc1
    k_steps
    · have hz : ((ns.getD (0 + (i : Int)).toNat 0).fdiv 120).fmod 2 = 0 := by assumption
      rw [e0] at hz
      rename Fr _ _ _ _ => F8
      rename News _ _ _ _ => N8
      simp only [List.push_toArray] at N8
      refine' f_end ⟨_, _⟩ F8 N8 (List.Mem.head _) (fun p hp => List.Mem.tail _ hp) ?ho1 ?hk1 ?hp1
      case ho1 =>
        intro p hp
        rcases List.mem_cons.mp hp with rfl | hp
        · exact hI1
        rcases List.mem_cons.mp hp with rfl | hp
        · exact hI3
        · exact hI4 p hp
      case hk1 => kst_all
      case hp1 =>
        dsimp only
        rw [List.range_succ, List.map_append, lit_item hi]
        have : signOf i (ns.getD i 0) = ⟨#[signLit i]⟩ := by unfold signOf; rw [if_pos hz]
        rw [List.map_cons, List.map_nil, this]
        exact strs_snoc ho
    · have hz : ((ns.getD (0 + (i : Int)).toNat 0).fdiv 120).fmod 2 ≠ 0 := by assumption
      rw [e0] at hz
      rename Fr _ _ _ _ => F8
      rename News _ _ _ _ => N8
      simp only [List.push_toArray] at N8
      refine' f_end ⟨_, _⟩ F8 N8 (List.Mem.head _) (fun p hp => List.Mem.tail _ hp) ?ho2 ?hk2 ?hp2
      case ho2 =>
        intro p hp
        rcases List.mem_cons.mp hp with rfl | hp
        · exact hI1
        rcases List.mem_cons.mp hp with rfl | hp
        · exact hI3
        · exact hI4 p hp
      case hk2 => kst_all
      case hp2 =>
        dsimp only
        rw [List.range_succ, List.map_append, e0, Int.zero_add]
        have : signOf i (ns.getD i 0) = ⟨#[(200 + 5 * (ns.getD i 0).fdiv 240 + i).toNat]⟩ := by unfold signOf; rw [if_neg hz]
        rw [List.map_cons, List.map_nil, this]
        exact strs_snoc ho
  case done =>
    rintro ⟨vo, co⟩ u h9 tk9 ho F9 N9
    dsimp only at ho N9
    try dsimp only at F9
    k_steps
    exact hret lo vo co ho lL.1 (lt_allLt lL.2) _ _ (by assumption) (by assumption)
end
end Mine
namespace Mine
-- Lw0
open PySem PySem.W PyProof.Rows PySem.Spec PySem.Calls
set_option maxHeartbeats 8000000
theorem lines_Lw0_0 : True := by
  k_with_none
  k_with "lt" => first | with_reducible assumption | exact And.left (by with_reducible assumption) | exact And.left (And.right (by with_reducible assumption)) | exact And.left (And.right (And.right (by with_reducible assumption))) | exact And.left (And.right (And.right (And.right (by with_reducible assumption)))) | exact And.left (And.right (And.right (And.right (And.right (by with_reducible assumption)))))
  k_with "rl" => with_unfolding_all exact rfl
  k_with "omega" => first | (with_reducible exact om_room ‹_›) | (with_reducible exact om_le ‹_› (by k_extra "rl")) | (with_reducible exact om_ne1 (by k_extra "lt")) | lia
  trivial
noncomputable def lawSt (i : Nat) : Stmt := match fb49.1[i]? with
  | some s => s
  | none => .Pass ⟨0, 0, 0, 0⟩
@[reducible] noncomputable def ls0 : {b : Stmt // lawSt 0 = b} := by refine' ⟨_, _⟩; rotate_left; conv => lhs; whnf
noncomputable abbrev lawCl (cP cM cK cZ cS : Addr) : List (Str × Addr) := [(Str.ofString "ports", cP), (Str.ofString "more", cM), (Str.ofString "mark", cK), (Str.ofString "size", cZ), (Str.ofString "signs", cS)]
theorem ints_drop {vs : List Value} {ns : List Int} (h : IntsAre vs ns) : ∀ k, IntsAre (vs.drop k) (ns.drop k) := by
  induction h with
  | nil => intro k; cases k <;> exact .nil
  | cons n t h ih =>
    intro k
    cases k with
    | zero => exact .cons n t h
    | succ k => exact ih k
theorem ints_take {vs : List Value} {ns : List Int} (h : IntsAre vs ns) : ∀ k, IntsAre (vs.take k) (ns.take k) := by
  induction h with
  | nil => intro k; cases k <;> exact .nil
  | cons n t h ih =>
    intro k
    cases k with
    | zero => exact .nil
    | succ k => exact .cons n t (ih k)
noncomputable def numsOf (ns : List Int) : List Int := (ns.take 10).map (fun k => k.fmod 1000000) ++ [2, 0, 121, 1, 0, 1, 3, 2, 0, 0].drop ((ns.take 10).map fun k : Int => k.fmod 1000000).length
theorem nums_len (ns : List Int) : (numsOf ns).length = 10 := by
  unfold numsOf
  rw [List.length_append, List.length_drop, List.length_map, List.length_take]
  show min 10 ns.length + (10 - min 10 ns.length) = 10
  omega
theorem nums_ok (ns : List Int) : ∀ n ∈ numsOf ns, 0 ≤ n ∧ n < 1000000 := by
  intro n hn
  unfold numsOf at hn
  rcases List.mem_append.mp hn with h | h
  · obtain ⟨k, _, rfl⟩ := List.mem_map.mp h
    rw [Int.fmod_eq_emod_of_nonneg _ (by decide)]
    exact ⟨Int.emod_nonneg _ (by decide), Int.emod_lt_of_pos _ (by decide)⟩
  · have := List.mem_of_mem_drop h
    revert n
    intro n _ _ h
    simp only [List.mem_cons, List.not_mem_nil, or_false] at h
    omega
section
variable {prog : Program} {w : World} {A : Around} {E : Value → Shared → Prop} {s : Shared} {h₀ : Heap} {L l l2 : Addr} {m : Str → Option Value} {news : Led} {value slice : PySem.Expr} {vs ws zs : List Value} {n n2 : Nat} {vl vu : Value} {lo hi : Option Int} {Q : Value → Shared → Prop}
theorem slK (F : Fr h₀ L s.heap m) (N : News h₀ L s.heap news) (hl : s.heap.IsList l vs.toArray) (pl : IsPart vl lo) (pu : IsPart vu hi) (e : slicePick vs.toArray lo hi none = zs.toArray) (hz : vs.length ≤ 5000)
    (h : ∀ D h', Fr h₀ L h' m → News h₀ L h' ((D, listOf zs.toArray 0) :: news) → (∀ p ∈ news, p.1 < D) → Q (.ref D) { s with heap := h' })
    (hs : subscripted slice false (.ref l) (.ref s.heap.objs.size) = operate [.ref s.heap.objs.size, .ref l] (getItem (.ref l) (.ref s.heap.objs.size)) := by with_unfolding_all rfl) (ht : ∀ r, letTemporaryGo value (.ref l) r = pure () := by intro _; with_unfolding_all rfl) :
    wpAny (model prog w) A (subscriptTail value slice (.ref l) (.ref s.heap.objs.size)) Q E { s with heap := s.heap.push { cls := .type "slice", data := .fields #[vl, vu, .none] } } :=
  kmk_slice F N hl pl pu (fun D h' F' N' l1 => h D h' F' (e ▸ N') l1) hs ht (by rw [List.size_toArray]; exact le_sz hz)
end
end Mine
namespace Mine
-- Cmp
open PySem PySem.W PyProof.Rows PySem.Spec PySem.Calls
set_option maxHeartbeats 4000000
theorem lines_Cmp_0 : True := by
  k_with_none
  k_with "lt" => first | with_reducible assumption | exact And.left (by with_reducible assumption) | exact And.left (And.right (by with_reducible assumption)) | exact And.left (And.right (And.right (by with_reducible assumption))) | exact And.left (And.right (And.right (And.right (by with_reducible assumption)))) | exact And.left (And.right (And.right (And.right (And.right (by with_reducible assumption)))))
  k_with "rl" => with_unfolding_all exact rfl
  k_with "omega" => first | (with_reducible exact om_room ‹_›) | (with_reducible exact om_le ‹_› (by k_extra "rl")) | (with_reducible exact om_ne1 (by k_extra "lt")) | lia
  trivial
section
variable {prog : Program} {w : World} {A : Around} {h₀ : Heap} {L : Addr} {m : Str → Option Value} {env : Env} {elt : Expr} {x : Str} {scope : Scope} {cl : List (Str × Addr)} {s : Shared} {S : Led → Prop} {P : Nat → Value → Prop} {Fin : List Value → Led → Prop}
theorem comp_ind (Inv : Nat → List Value → Led → Prop) (n : Nat)
    (step : ∀ i ys news, i < n → Inv i ys news → ∀ v I oI C oC D m₂ h tk (E' : Value → Shared → Prop), P i v → LCg.NsObj oC m₂ → m₂ x = some v → Fr h₀ L h m → News h₀ L h ((I, oI) :: (C, oC) :: (D, LCg.lst ys) :: news) → LCg.Off3 I C D news →
      wpAny (model prog w) A (eval elt (compEnvC scope cl C env)) (LCg.CompEnd h₀ L m { s with heap := h, toks := tk } I oI C oC D (LCg.lst ys) S (fun y news' => Inv (i + 1) (ys ++ [y]) news')) E' { s with heap := h, toks := tk })
    (fin : ∀ ys news, Inv n ys news → Fin ys news) : ∀ k i ys news, i + k = n → Inv i ys news → LCg.CompRest prog w A h₀ L m env elt x scope cl s S P Fin k i ys news := by
  intro k
  induction k with
  | zero => intro i ys news hi h; subst hi; exact fin ys news h
  | succ k ih =>
    intro i ys news hi h
    refine LCg.CompRest.succ fun v I oI C oC D m₂ hh tk E' hv hC hx F N off _ => ?_
    refine wpAny_mono (step i ys news (by omega) h v I oI C oC D m₂ hh tk E' hv hC hx F N off) (fun y s' q => ?_) fun _ _ e => e
    obtain ⟨h', tk', news', e, F', N', off', hS, r⟩ := q
    exact ⟨h', tk', news', e, F', N', off', hS, ih (i + 1) _ news' (by omega) r⟩
end
end Mine
namespace Mine
-- LwA
open PySem PySem.W PyProof.Rows PySem.Spec PySem.Calls
set_option maxHeartbeats 8000000
theorem ints_get {vs : List Value} {ns : List Int} (h : IntsAre vs ns) : ∀ {i : Nat} {v : Value}, vs[i]? = some v → ∃ n t, ns[i]? = some n ∧ v = .int n t := by
  induction h with
  | nil => intro i v e; simp at e
  | cons n t h ih =>
    intro i v e
    cases i with
    | zero => simp at e; exact ⟨n, t, rfl, e.symm⟩
    | succ i => exact ih (by simpa using e)
theorem take_snoc {α : Type} {l : List α} : ∀ {i : Nat} {x : α}, l[i]? = some x → l.take (i + 1) = l.take i ++ [x] := by
  intro i x h
  rw [List.take_succ, h]; rfl
section
variable {w : World} {p : Program} {loose : List Str} {mean : ExcName → Option Value} {mg mb : Str → Option Value}
theorem lines_LwA_0 : True := by
  k_with_none
  k_with "lt" => first | with_reducible assumption | exact And.left (by with_reducible assumption) | exact And.left (And.right (by with_reducible assumption)) | exact And.left (And.right (And.right (by with_reducible assumption))) | exact And.left (And.right (And.right (And.right (by with_reducible assumption)))) | exact And.left (And.right (And.right (And.right (And.right (by with_reducible assumption)))))
  k_with "rl" => with_unfolding_all exact rfl
  k_with "omega" => first | (with_reducible exact om_room ‹_›) | (with_reducible exact om_le ‹_› (by k_extra "rl")) | (with_reducible exact om_ne1 (by k_extra "lt")) | lia
  k_with "exec Assign cons ListComp" => refine hold ?_
  k_with "CompSrc" => refine hold ?_
  k_with "CompEnd" => refine hold ?_
  trivial
theorem st0 (dp un : Nat) (gd : Option (List Code)) (cn : Str) (a : Addr) (ccd : Value) (cP cM cK cZ cS : Addr) (outer : List Env) (A₀ : Around) (base h₀ : Heap) (L fa : Addr) (s : Shared) (Q : Flow → Shared → Prop) (E : Value → Shared → Prop) (vs : List Value) (ns : List Int) (hv : IntsAre vs ns) (hl : ns.length ≤ 63) (oP oM oK oZ oS oT oJ : Obj) (hfa : h₀.IsList fa vs.toArray)
    (B : Below A₀ base outer h₀) (F : Fr h₀ L s.heap (fun y => if y = Str.ofString "script" then some (.ref fa) else none)) (X : (KF w.params).In h₀) (N : News h₀ L s.heap ((cP, oP) :: (cM, oM) :: (cK, oK) :: (cZ, oZ) :: (cS, oS) :: (121, oT) :: (835, oJ) :: [])) (T : Top p loose mean mg mb h₀)
    (hQ : ∀ D us n h' tk', IntsAre us ((ns.take 10).map fun k => k.fmod 1000000) → ∀ m' : Str → Option Value, m' (Str.ofString "numbers") = some (.ref D) → m' (Str.ofString "script") = some (.ref fa) → Fr h₀ L h' m' → News h₀ L h' ((D, listOf us.toArray n) :: (cP, oP) :: (cM, oM) :: (cK, oK) :: (cZ, oZ) :: (cS, oS) :: (121, oT) :: (835, oJ) :: []) → LCg.Off1 D ((cP, oP) :: (cM, oM) :: (cK, oK) :: (cZ, oZ) :: (cS, oS) :: (121, oT) :: (835, oJ) :: []) → Q .next { s with heap := h', toks := tk' }) :
    wpAny (model pw w) (ktrTop dp un gd cn fs49.1 L a ccd (lawCl cP cM cK cZ cS) outer) (exec ls0.1 (envX cn fs49.1 L a ccd (lawCl cP cM cK cZ cS))) Q E s := by
  refine LCg.Assign_ListComp_U F rfl (by with_unfolding_all rfl) (by rfl) (by decide) (by rfl) (by decide) (by rfl) (by rfl) (by rfl) ?_
  k_steps
  unfold Hold
  rename Fr _ _ _ _ => F2
  rename News _ _ _ _ => N2
  rename IntsAre _ (List.take 10 ns) => I2
  rename_i D2 ws2 h2 c1 c2 l2
  refine LCg.CompSrc.ledger rfl F2 N2 (.head _) (by rw [List.size_toArray, I2.length, List.length_take]; exact le_sz (by omega)) fun g => ?_
  refine comp_ind (fun i ys news => ∃ us, ys = us ∧ IntsAre ys (((ns.take 10).take i).map fun k => k.fmod 1000000) ∧ news = (D2, listOf ws2.toArray 0) :: (cP, oP) :: (cM, oM) :: (cK, oK) :: (cZ, oZ) :: (cS, oS) :: (121, oT) :: (835, oJ) :: []) ws2.toArray.size ?step ?fin ws2.toArray.size 0 [] _ (Nat.zero_add _) ⟨_, rfl, .nil, rfl⟩
  case step =>
    rintro i ys news hi ⟨us, rfl, hI, rfl⟩ v I oI C oC D m₂ h tk E' hv hC hx F3 N3 off
    obtain ⟨n, t, hn, rfl⟩ := ints_get I2 (by simpa using hv)
    k_steps
    unfold Hold
    rename_i o1
    refine LCg.CompEnd.intro F3 N3 _ (fun _ h => h) off (.inr ⟨_, .head _, rfl, _, rfl⟩) ⟨_, rfl, ?_, rfl⟩
    have hi2 : i < (ns.take 10).length := by have := I2.length; rw [List.size_toArray] at hi; omega
    rw [take_snoc hn, List.map_append]
    exact ints_snoc hI
  case fin =>
    rintro ys news ⟨us, rfl, hI, rfl⟩
    intro D h tk F3 N3 off
    rw [List.take_of_length_le (by rw [List.size_toArray, I2.length]; exact Nat.le_refl _)] at hI
    exact hQ D ys _ h tk hI _ rfl rfl F3 (drop2 N3) off.2
end
end Mine
namespace Mine
-- LwB
open PySem PySem.W PyProof.Rows PySem.Spec PySem.Calls
set_option maxHeartbeats 8000000
@[reducible] noncomputable def ls1 : {b : Stmt // lawSt 1 = b} := by refine' ⟨_, _⟩; rotate_left; conv => lhs; whnf
theorem take2 {h₀ h : Heap} {L : Addr} {x a b c : Addr × Obj} {r : Led} (N : News h₀ L h (x :: a :: b :: c :: r)) : News h₀ L h (x :: r) := fun q hq => N q (by
  rcases List.mem_cons.mp hq with rfl | hq
  · exact .head _
  · exact .tail _ (.tail _ (.tail _ (.tail _ hq))))
theorem fold_st {M : Model} {A : Around} {env : Env} {st : Stmt} {Q : Flow → Shared → Prop} {E : Value → Shared → Prop} {s : Shared} (h : let A' := A; let env' := env; wpAny M A' (exec st env') Q E s) : wpAny M A (exec st env) Q E s := h
section
variable {w : World} {p : Program} {loose : List Str} {mean : ExcName → Option Value} {mg mb : Str → Option Value}
theorem lines_LwB_0 : True := by
  k_with_none
  k_with "lt" => first | with_reducible assumption | exact And.left (by with_reducible assumption) | exact And.left (And.right (by with_reducible assumption)) | exact And.left (And.right (And.right (by with_reducible assumption))) | exact And.left (And.right (And.right (And.right (by with_reducible assumption)))) | exact And.left (And.right (And.right (And.right (And.right (by with_reducible assumption)))))
  k_with "rl" => with_unfolding_all exact rfl
  k_with "omega" => first | (with_reducible exact om_room ‹_›) | (with_reducible exact om_le ‹_› (by k_extra "rl")) | (with_reducible exact om_ne1 (by k_extra "lt")) | lia
  k_with "subscriptTail Name Slice ref ref" => refine hold ?_
  k_with "call builtin:len" => refine hold ?_
  k_with "binaryOp Add ref ref" => refine hold ?_
  k_with "eval Name" => (k_here; k_dflt (refine' nameX_L ?Fzq ?vzq ?_ ?azq ?bzq; (case Fzq => k_asm); (case azq => rfl); (case bzq => rfl); (case vzq => first | assumption | with_unfolding_all assumption); k_whole))
  k_with "storeName" => (k_dflt (refine' storeX_F ?Fzq ?Nzq ?_ ?azq ?bzq; (case Fzq => k_asm); (case Nzq => k_asm); (case azq => rfl); (case bzq => rfl); k_whole); intro _ _ _ _; (try k_sweep))
  trivial
theorem st1 (dp un : Nat) (gd : Option (List Code)) (cn : Str) (a : Addr) (ccd : Value) (cP cM cK cZ cS : Addr) (outer : List Env) (A₀ : Around) (base h₀ : Heap) (L fa D : Addr) (s : Shared) (Q : Flow → Shared → Prop) (E : Value → Shared → Prop) (us : List Value) (ns : List Int) (cap : Nat) (hv : IntsAre us ((ns.take 10).map fun k => k.fmod 1000000)) (rest : Led)
    (B : Below A₀ base outer h₀) (m : Str → Option Value) (m1 : m (Str.ofString "numbers") = some (.ref D)) (F : Fr h₀ L s.heap m) (X : (KF w.params).In h₀) (N : News h₀ L s.heap ((D, listOf us.toArray cap) :: rest)) (T : Top p loose mean mg mb h₀)
    (hQ : ∀ D us n h' tk', IntsAre us (numsOf ns) → Fr h₀ L h' (fun y => if y = Str.ofString "numbers" then some (.ref D) else m y) → News h₀ L h' ((D, listOf us.toArray n) :: rest) → (∀ q ∈ rest, q.1 < D) → Q .next { s with heap := h', toks := tk' }) :
    wpAny (model pw w) (ktrTop dp un gd cn fs49.1 L a ccd (lawCl cP cM cK cZ cS) outer) (exec ls1.1 (envX cn fs49.1 L a ccd (lawCl cP cM cK cZ cS))) Q E s := by
  refine fold_st ?_
  intro AA en
  have c0 : ((ns.take 10).map fun k : Int => k.fmod 1000000).length ≤ 10 := by rw [List.length_map, List.length_take]; omega
  have c1 : us.length ≤ 10 := hv.length ▸ c0
  k_steps
  unfold Hold
  rename Fr _ _ _ _ => F1
  rename News _ _ _ _ => N1
  refine kst_len N1 (.tail _ (.head _)) rfl (by omega) ?_
  k_steps
  unfold Hold
  rename Fr _ _ _ _ => F2
  rename News _ _ _ _ => N2
  refine slK F2 N2 (News.isList N2 (.head _)) (IsPart.int _ _) IsPart.none (slicePick_from' _ _) (Nat.le_of_ble_eq_true rfl) fun D3 h3 F3 N3 l3 => ?_
  k_steps
  unfold Hold
  refine kmk_add_ints F3 N3 (News.isList N3 (.tail _ (.tail _ (.head _)))) (News.isList N3 (.head _)) hv (ints_drop (.cons _ _ (.cons _ _ (.cons _ _ (.cons _ _ (.cons _ _ (.cons _ _ (.cons _ _ (.cons _ _ (.cons _ _ (.cons _ _ .nil)))))))))) _) (fun D4 us h4 F4 N4 l4 I4 => ?_) ?z
  case z =>
    have := nums_len ns
    unfold numsOf at this
    rw [List.length_append] at this
    rw [hv.length]
    exact le_sz (by rw [this]; decide)
  k_steps
  rw [hv.length] at I4
  exact hQ D4 us _ _ _ I4 (by assumption) (take2 (by assumption)) (fun q hq => l4 q (.tail _ (.tail _ (.tail _ hq))))
end
end Mine
namespace Mine
-- LwC
open PySem PySem.W PyProof.Rows PySem.Spec PySem.Calls
set_option maxHeartbeats 8000000
@[reducible] noncomputable def ls2 : {b : Stmt // lawSt 2 = b} := by refine' ⟨_, _⟩; rotate_left; conv => lhs; whnf
@[reducible] noncomputable def ls3 : {b : Stmt // lawSt 3 = b} := by refine' ⟨_, _⟩; rotate_left; conv => lhs; whnf
section
variable {w : World} {p : Program} {loose : List Str} {mean : ExcName → Option Value} {mg mb : Str → Option Value}
variable {dp un : Nat} {gd : Option (List Code)} {cn : Str} {a : Addr} {ccd : Value} {cP cM cK cZ cS : Addr} {outer : List Env} {A₀ : Around} {base h₀ : Heap} {L : Addr} {s : Shared} {Q : Flow → Shared → Prop} {E : Value → Shared → Prop} {m : Str → Option Value}
theorem lines_LwC_0 : True := by
  k_with_none
  k_with "lt" => first | with_reducible assumption | exact And.left (by with_reducible assumption) | exact And.left (And.right (by with_reducible assumption)) | exact And.left (And.right (And.right (by with_reducible assumption))) | exact And.left (And.right (And.right (And.right (by with_reducible assumption)))) | exact And.left (And.right (And.right (And.right (And.right (by with_reducible assumption)))))
  k_with "rl" => with_unfolding_all exact rfl
  k_with "omega" => first | (with_reducible exact om_room ‹_›) | (with_reducible exact om_le ‹_› (by k_extra "rl")) | (with_reducible exact om_ne1 (by k_extra "lt")) | lia
  k_with "subscriptTail Name Slice ref ref" => refine hold ?_
  k_with "call builtin:len" => refine hold ?_
  k_with "call builtin:min" => refine hold ?_
  k_with "call ref" => refine hold ?_
  k_with "binaryOp Add ref ref" => refine hold ?_
  k_with "eval Name" => (k_here; k_dflt (refine' nameX_L ?Fzq ?vzq ?_ ?azq ?bzq; (case Fzq => k_asm); (case azq => rfl); (case bzq => rfl); (case vzq => first | assumption | with_unfolding_all assumption); k_whole))
  k_with "storeName" => refine hold ?_
  trivial
theorem st2 {D : Addr} {us : List Value} {ns : List Int} {cap : Nat} {oS : Obj} {rest : Led} (B : Below A₀ base outer h₀) (X : (KF w.params).In h₀) (T : Top p loose mean mg mb h₀) (hd : dp + 500 < recursionLimit) (hu : un + 2500 < cLine) (F : Fr h₀ L s.heap m) (N : News h₀ L s.heap ((D, listOf us.toArray cap) :: (cS, oS) :: rest)) (m1 : m (Str.ofString "numbers") = some (.ref D)) (hv : IntsAre us (numsOf ns)) (hoS : oS.data = .cell none) (h1 : D ≠ cS) (h2 : ∀ q ∈ rest, q.1 ≠ cS)
    (hQ : ∀ SG ss n o' h' tk', StrsAre ss ((List.range 5).map fun i => signOf i ((numsOf ns).getD i 0)) → (∀ q ∈ (D, listOf us.toArray cap) :: (cS, oS) :: rest, q.1 < SG) → o'.data = .cell (some (.ref SG)) → Fr h₀ L h' m → News h₀ L h' ((SG, listOf ss.toArray n) :: (D, listOf us.toArray cap) :: (cS, o') :: rest) → Q .next { s with heap := h', toks := tk' }) :
    wpAny (model pw w) (ktrTop dp un gd cn fs49.1 L a ccd (lawCl cP cM cK cZ cS) outer) (exec ls2.1 (envX cn fs49.1 L a ccd (lawCl cP cM cK cZ cS))) Q E s := by
  refine fold_st ?_
  intro AA en
  k_steps
  unfold Hold
  refine' c_signs D cap us _ hv (nums_len ns) (nums_ok ns) _ _ _ _ _ _ _ _ _ _ _ _ _ _ _ _ _ _ ?k1 ?k2 ?k3 N ?k5 ?kK ?kd ?ku ?kR trivial
  case k1 => k_asm
  case k2 => k_asm
  case k3 => k_asm
  case k5 => k_asm
  case kK => exact rfl
  case kd => ktr_room
  case ku => ktr_units
  case kR =>
    intro SG ss n hss l1 l2 h1' tk1 F1 N1
    k_steps
    unfold Hold
    refine storeX_C F1 N1 rfl (.tail (Nat.ne_of_gt (l2 _ (.head _))) (.tail h1 (.head h2))) hoS fun h2' o' F2 N2 d2 => ?_
    exact hQ SG ss n o' _ _ hss (fun q hq => by rcases List.mem_cons.mp hq with rfl | hq; exact l1; exact l2 _ hq) d2 F2 N2
theorem st3 {fa : Addr} {vs : List Value} {ns : List Int} {oZ : Obj} {rest : Led} (B : Below A₀ base outer h₀) (X : (KF w.params).In h₀) (T : Top p loose mean mg mb h₀) (hd : dp + 500 < recursionLimit) (hu : un + 2500 < cLine) (F : Fr h₀ L s.heap m) (N : News h₀ L s.heap ((cZ, oZ) :: rest)) (m1 : m (Str.ofString "script") = some (.ref fa)) (hfa : h₀.IsList fa vs.toArray) (hv : IntsAre vs ns) (hl : ns.length ≤ 63) (hoZ : oZ.data = .cell none) (hz2 : ∀ q ∈ rest, q.1 ≠ cZ)
    (hQ : ∀ o' h' tk' t, o'.data = .cell (some (.int (min 5 (3 + (ns.length : Int) / 4)) t)) → Fr h₀ L h' m → News h₀ L h' ((cZ, o') :: rest) → Q .next { s with heap := h', toks := tk' }) :
    wpAny (model pw w) (ktrTop dp un gd cn fs49.1 L a ccd (lawCl cP cM cK cZ cS) outer) (exec ls3.1 (envX cn fs49.1 L a ccd (lawCl cP cM cK cZ cS))) Q E s := by
  refine fold_st ?_
  intro AA en
  k_steps
  unfold Hold
  have hlen := hv.length
  refine PyProof.Rows.len_list (hfa.at fun o e => F.keep _ _ e) (by rw [List.size_toArray]; omega) ?_
  rw [List.size_toArray, hlen]
  k_steps
  unfold Hold
  refine min_two_ints rfl fun h2 tk2 kp => ?_
  have F2 := F.keeps kp
  have N2 : News h₀ L h2 ((cZ, oZ) :: rest) := fun q hq => ⟨kp _ _ (N q hq).1, (N q hq).2⟩
  k_steps
  unfold Hold
  refine storeX_C F2 N2 rfl (.head hz2) hoZ fun h3 o' F3 N3 d3 => ?_
  have he : (3 + (↑ns.length : Int).fdiv 4) = 3 + (ns.length : Int) / 4 := by rw [Int.fdiv_eq_ediv_of_nonneg _ (by decide)]
  rw [he] at d3
  by_cases hc : 3 + (ns.length : Int) / 4 < 5
  · rw [if_pos hc] at d3
    exact hQ o' _ _ _ (by rw [d3, Int.min_eq_right (Int.le_of_lt hc)]) F3 N3
  · rw [if_neg hc] at d3
    exact hQ o' _ _ _ (by rw [d3, Int.min_eq_left (Int.not_lt.mp hc)]) F3 N3
end
end Mine
namespace Mine
-- LwD
open PySem PySem.W PyProof.Rows PySem.Spec PySem.Calls
set_option maxHeartbeats 8000000
@[reducible] noncomputable def ls4 : {b : Stmt // lawSt 4 = b} := by refine' ⟨_, _⟩; rotate_left; conv => lhs; whnf
@[reducible] noncomputable def ls5 : {b : Stmt // lawSt 5 = b} := by refine' ⟨_, _⟩; rotate_left; conv => lhs; whnf
theorem pick_mid (items : Array Value) (n : Nat) (h : 2 * n ≤ items.size) : slicePick items (some (n : Int)) (some (2 * (n : Int))) none = ((items.toList.drop n).take n).toArray := by
  have := slicePick_run items n (2 * n) h (by omega)
  rw [show 2 * n - n = n by omega] at this
  exact this
section
variable {w : World} {p : Program} {loose : List Str} {mean : ExcName → Option Value} {mg mb : Str → Option Value}
variable {dp un : Nat} {gd : Option (List Code)} {cn : Str} {a : Addr} {ccd : Value} {cP cM cK cZ cS : Addr} {outer : List Env} {A₀ : Around} {base h₀ : Heap} {L : Addr} {s : Shared} {Q : Flow → Shared → Prop} {E : Value → Shared → Prop} {m : Str → Option Value}
theorem lines_LwD_0 : True := by
  k_with_none
  k_with "lt" => first | with_reducible assumption | exact And.left (by with_reducible assumption) | exact And.left (And.right (by with_reducible assumption)) | exact And.left (And.right (And.right (by with_reducible assumption))) | exact And.left (And.right (And.right (And.right (by with_reducible assumption)))) | exact And.left (And.right (And.right (And.right (And.right (by with_reducible assumption)))))
  k_with "rl" => with_unfolding_all exact rfl
  k_with "omega" => first | (with_reducible exact om_room ‹_›) | (with_reducible exact om_le ‹_› (by k_extra "rl")) | (with_reducible exact om_ne1 (by k_extra "lt")) | lia
  k_with "subscriptTail Name Slice ref ref" => refine hold ?_
  k_with "call builtin:len" => refine hold ?_
  k_with "call builtin:min" => refine hold ?_
  k_with "call ref" => refine hold ?_
  k_with "binaryOp Add ref ref" => refine hold ?_
  k_with "eval Name" => (k_here; k_dflt (refine' nameX_L ?Fzq ?vzq ?_ ?azq ?bzq; (case Fzq => k_asm); (case azq => rfl); (case bzq => rfl); (case vzq => first | assumption | with_unfolding_all assumption); k_whole))
  k_with "storeName" => (k_dflt (refine' storeX_F ?Fzq ?Nzq ?_ ?azq ?bzq; (case Fzq => k_asm); (case Nzq => k_asm); (case azq => rfl); (case bzq => rfl); k_whole); intro _ _ _ _; (try k_sweep))
  trivial
theorem st4 {D : Addr} {us : List Value} {ns : List Int} {cap : Nat} {oZ : Obj} {rest : Led} {n : Nat} {tz : Tok} (B : Below A₀ base outer h₀) (X : (KF w.params).In h₀) (T : Top p loose mean mg mb h₀) (hd : dp + 500 < recursionLimit) (hu : un + 2500 < cLine) (F : Fr h₀ L s.heap m) (N : News h₀ L s.heap ((D, listOf us.toArray cap) :: (cZ, oZ) :: rest)) (m1 : m (Str.ofString "numbers") = some (.ref D)) (hv : IntsAre us (numsOf ns)) (hoZ : oZ.data = .cell (some (.int n tz))) (hn : n ≤ 5)
    (hQ : ∀ O O1 O2 us1 us2 n0 n1 n2 h' tk', IntsAre us1 (ordOf ((numsOf ns).take n) (rangeKs 0 n)) → IntsAre us2 (ordOf (((numsOf ns).drop n).take n) (rangeKs 0 n)) → O1 < O2 → O2 < O → (∀ q ∈ (D, listOf us.toArray cap) :: (cZ, oZ) :: rest, q.1 < O1) → Fr h₀ L h' (fun y => if y = Str.ofString "orders" then some (.ref O) else m y) → News h₀ L h' ((O, listOf #[.ref O1, .ref O2] n0) :: (O2, listOf us2.toArray n2) :: (O1, listOf us1.toArray n1) :: (D, listOf us.toArray cap) :: (cZ, oZ) :: rest) → Q .next { s with heap := h', toks := tk' }) :
    wpAny (model pw w) (ktrTop dp un gd cn fs49.1 L a ccd (lawCl cP cM cK cZ cS) outer) (exec ls4.1 (envX cn fs49.1 L a ccd (lawCl cP cM cK cZ cS))) Q E s := by
  refine fold_st ?_
  intro AA en
  have hul : us.length = 10 := hv.length.trans (nums_len ns)
  have hnl := nums_len ns
  k_steps
  unfold Hold
  rename Fr _ _ _ _ => F1
  rename News _ _ _ _ => N1
  refine slK F1 N1 (News.isList N1 (.head _)) IsPart.none (IsPart.int _ _) (slicePick_upto' _ n) (by omega) fun D1 h1 F1 N1 l1 => ?_
  have hv1 : IntsAre (us.toArray.toList.take n) ((numsOf ns).take n) := ints_take hv n
  have hL1 : ((numsOf ns).take n).length = n := by rw [List.length_take]; omega
  k_steps
  unfold Hold
  refine' c_order D1 0 _ _ hv1 (by omega) _ _ _ _ _ _ _ _ _ _ _ _ _ _ _ _ _ _ ?k1 ?k2 ?k3 N1 ?k5 ?kK ?kd ?ku ?kR trivial
  case k1 => k_asm
  case k2 => k_asm
  case k3 => k_asm
  case k5 => k_asm
  case kK => exact rfl
  case kd => ktr_room
  case ku => ktr_units
  case kR =>
    intro O1 us1 n1 ho1 lo1 lo2 h2 tk2 F2 N2
    rw [hL1] at ho1
    k_steps
    unfold Hold
    refine slK F2 N2 (News.isList N2 (.tail _ (.tail _ (.head _)))) (IsPart.int _ _) (IsPart.int _ _) (pick_mid _ n (by rw [List.size_toArray]; omega)) (by omega) fun D2 h3 F3 N3 l3 => ?_
    have hv2 : IntsAre ((us.toArray.toList.drop n).take n) (((numsOf ns).drop n).take n) := ints_take (ints_drop hv n) n
    have hL2 : (((numsOf ns).drop n).take n).length = n := by rw [List.length_take, List.length_drop]; omega
    have l3 := allLt_of l3
    have lo2 := allLt_of lo2
    k_steps
    unfold Hold
    refine' c_order D2 0 _ _ hv2 (by omega) _ _ _ _ _ _ _ _ _ _ _ _ _ _ _ _ _ _ ?j1 ?j2 ?j3 N3 ?j5 ?jK ?jd ?ju ?jR trivial
    case j1 => k_asm
    case j2 => k_asm
    case j3 => k_asm
    case j5 => k_asm
    case jK => exact rfl
    case jd => ktr_room
    case ju => ktr_units
    case jR =>
      intro O2 us2 n2 ho2 lp1 lp2 h4 tk4 F4 N4
      rw [hL2] at ho2
      have lp2 := allLt_of lp2
      k_steps
      rename_i lX hX lL hY mY FY NY
      exact hQ lX O1 O2 us1 us2 0 n1 n2 _ _ ho1 ho2 lp2.1 lL.1 (lt_allLt lo2) FY (fun q hq => NY q (by
        rcases List.mem_cons.mp hq with rfl | hq
        · exact .head _
        rcases List.mem_cons.mp hq with rfl | hq
        · exact .tail _ (.head _)
        rcases List.mem_cons.mp hq with rfl | hq
        · exact .tail _ (.tail _ (.tail _ (.head _)))
        · exact .tail _ (.tail _ (.tail _ (.tail _ (.tail _ hq))))))
theorem st5 (F : Fr h₀ L s.heap m) {rest : Led} (N : News h₀ L s.heap rest) (hQ : ∀ h' tk' t, Fr h₀ L h' (fun y => if y = Str.ofString "marks" then some (.str ⟨#[]⟩ t) else m y) → News h₀ L h' rest → Q .next { s with heap := h', toks := tk' }) :
    wpAny (model pw w) (ktrTop dp un gd cn fs49.1 L a ccd (lawCl cP cM cK cZ cS) outer) (exec ls5.1 (envX cn fs49.1 L a ccd (lawCl cP cM cK cZ cS))) Q E s := by
  refine fold_st ?_
  intro AA en
  k_steps
  exact hQ _ _ _ (by assumption) (by assumption)
end
end Mine
namespace Mine
-- LwE0
open PySem PySem.W PyProof.Rows PySem.Spec PySem.Calls
set_option maxHeartbeats 8000000
noncomputable def forBody : Stmt → List Stmt
  | .For _ _ b _ _ => b
  | _ => []
noncomputable def stAt (l : List Stmt) (i : Nat) : Stmt := match l[i]? with
  | some s => s
  | none => .Pass ⟨0, 0, 0, 0⟩
noncomputable def lB2 : List Stmt := forBody (stAt (forBody (lawSt 6)) 0)
noncomputable def lB3 : List Stmt := forBody (stAt lB2 2)
@[reducible] noncomputable def lt0 : {b : Stmt // stAt lB3 0 = b} := by refine' ⟨_, _⟩; rotate_left; conv => lhs; whnf
@[reducible] noncomputable def lt1 : {b : Stmt // stAt lB3 1 = b} := by refine' ⟨_, _⟩; rotate_left; conv => lhs; whnf
@[reducible] noncomputable def lt2 : {b : Stmt // stAt lB3 2 = b} := by refine' ⟨_, _⟩; rotate_left; conv => lhs; whnf
@[reducible] noncomputable def lu0 : {b : Stmt // stAt lB2 0 = b} := by refine' ⟨_, _⟩; rotate_left; conv => lhs; whnf
@[reducible] noncomputable def lu1 : {b : Stmt // stAt lB2 1 = b} := by refine' ⟨_, _⟩; rotate_left; conv => lhs; whnf
theorem lB2_eq : ∃ st, lB2 = [lu0.1, lu1.1, st] := ⟨_, rfl⟩
theorem lB3_eq : lB3 = [lt0.1, lt1.1, lt2.1] := rfl
#print lt0
#print lt1
end Mine
namespace Mine
-- K7
open PySem PySem.W PyProof.Rows PySem.Spec PySem.Calls
set_option maxHeartbeats 8000000
section
variable {w : World} {p : Program} {loose : List Str} {mean : ExcName → Option Value} {mg mb : Str → Option Value}
theorem lines_K7_0 : True := by
  k_with_none
  k_with "lt" => first | with_reducible assumption | exact And.left (by with_reducible assumption) | exact And.left (And.right (by with_reducible assumption)) | exact And.left (And.right (And.right (by with_reducible assumption))) | exact And.left (And.right (And.right (And.right (by with_reducible assumption)))) | exact And.left (And.right (And.right (And.right (And.right (by with_reducible assumption)))))
  k_with "rl" => with_unfolding_all exact rfl
  k_with "omega" => first | (with_reducible exact om_room ‹_›) | (with_reducible exact om_le ‹_› (by k_extra "rl")) | (with_reducible exact om_ne1 (by k_extra "lt")) | lia
  k_with "k_all" => exact ne_allLt (by first | assumption | exact And.right (by assumption) | exact And.right (And.right (by assumption)) | exact And.right (And.right (And.right (by assumption))))
  k_with "kst_all" => repeat (first | exact names_nil | refine names_cons (by with_unfolding_all exact rfl) ?_)
  k_with "execs cons" => ((try k_gentoks); refine fold_sh ?_; intro _; first | (with_reducible refine exec_one ?_) | ((with_reducible refine execs_seq ?_); k_fold))
  k_with "SeqQ" => first | refine seq_next ?_ | refine seq_ret ?_ | refine seq_brk ?_ | refine seq_cont ?_
  k_with "exec If" => (with_reducible refine exec_if ?_)
  k_with "IfQ" => first | (refine ifq_no (by with_reducible assumption) ?_) | (refine ifq_yes (by with_reducible assumption) ?_) | (refine ifq_no (by decide) ?_) | (refine ifq_yes (by decide) ?_) | dsimp only [IfQ]
  k_with "storeName" => (k_dflt (refine' storeX_F ?Fzq ?Nzq ?_ ?azq ?bzq; (case Fzq => k_asm); (case Nzq => k_asm); (case azq => rfl); (case bzq => rfl); k_whole); intro _ _ _ _; (try k_sweep))
  k_with "ite" => first | (refine ite_no (by with_reducible assumption) ?_) | (refine ite_yes (by with_reducible assumption) ?_) | (refine ite_no (by decide) ?_) | (refine ite_yes (by decide) ?_)
  k_with "exec For Name Subscript cons nil" => refine hold ?_
  k_with "exec For" => refine hold ?_
  k_with "pyIter ref" => refine hold ?_
  k_with "FPost" => first | refine fpost_next ?_ | refine fpost_ret ?_ | refine fpost_cont ?_ | refine fpost_brk ?_
  trivial
section
variable {prog : Program} {A : Around} {E : Value → Shared → Prop} {s : Shared} {Q : Value → Shared → Prop} {x y : Str} {t u v : Tok} {i k : Int}
theorem find3_q (hq : Q (.int (Txt.find3 x y i) s.toks) { s with toks := s.toks + 1 }) : wpAny (model prog w) A (call (.builtin "str.find") [.str x t, .str y u, .int i v]) Q E s := SC.find3 hq
theorem len_k {n : Nat} (hx : x.length = n) (hz : n ≤ 5000) (h : Q (.int n (s.toks + 1)) { s with toks := s.toks + 1 + 1 }) : wpAny (model prog w) A (call (.builtin "len") [.str x t]) Q E s := by
  subst hx
  exact PyProof.Rows.len_str (by omega) h
end
theorem lines_K7_1 : True := by
  k_with "call builtin:len" => ((with_reducible show wpAny _ _ (call (Value.builtin "len") [Value.str _ _]) _ _ _); refine len_k (by first | with_reducible assumption | rfl) (by first | decide | omega) ?_)
  k_with "call builtin:str.find" => refine find3_q ?_
  trivial
theorem ret_b {h₀ : Heap} {L : Addr} {m : Str → Option Value} {nw : Led} {s : Shared} {Q : Value → Shared → Prop} {h' : Heap} {tk' : Nat} {x y : Bool} (hret : ∀ (h' : Heap) (tk' : Nat), Fr h₀ L h' m → News h₀ L h' nw → Q (.bool x) { s with heap := h', toks := tk' }) (e : y = x) (F : Fr h₀ L h' m) (N : News h₀ L h' nw) : Q (.bool y) { s with heap := h', toks := tk' } := by
  subst e
  exact hret h' tk' F N
theorem find3_le {nm X : Str} {i : Int} (hX : X.length = 1) : Txt.find3 nm X i < nm.length := by
  have : X = ⟨#[X.cps.getD 0 0]⟩ := by
    obtain ⟨⟨l⟩⟩ := X
    match l, hX with
    | [c], _ => rfl
  rw [this]
  rcases StrLaws.find3_spec nm (X.cps.getD 0 0) i with ⟨h, _⟩ | ⟨k, h, _, hk, _⟩
  · rw [h]; omega
  · rw [h]; omega
noncomputable def takesAt (f1 f2 : Int) : Nat → Int → Prop
  | 0, a => a = 0
  | 1, a => a = f1 + 1 ∧ 0 ≤ f1
  | _, a => a = f2 + 1 ∧ 0 ≤ f1 ∧ 0 ≤ f2
theorem c_takes (l : Addr) (cap : Nat) (nm X Y Z : Str) (hZ : Z.length = 0) (tN t0 t1 t2 t3 : Tok) (hX : X.length = 1) (hY : Y.length = 1) (hnm : nm.length ≤ 10) (news : Led) : CtrG w p loose mean mg mb (.ref 869) ((l, ⟨.type "list", none, .seq #[.str Z t0, .str X t1, .str Y t2, .str Z t3] cap, #[]⟩) :: news) [.ref l, .str nm tN]
    (fun k => k (.bool (decide (0 ≤ Txt.find3 nm X 0 ∧ 0 ≤ Txt.find3 nm Y (Txt.find3 nm X 0 + 1)))) ((l, ⟨.type "list", none, .seq #[.str Z t0, .str X t1, .str Y t2, .str Z t3] cap, #[]⟩) :: news)) (fun _ => True) := by
  intro dp un gd cn cs a ccd cl outer A₀ base h₀ L m s Q E B F X₀ N T hk hd hu hret _
  dsimp only at hret
  have h0 : (Txt.slice nm none (some ((0 : Nat) : Int)) != Z) = false := slice0 hZ
  refine wpAny_call ?_
  k_dflt cell_enter
  refine fold_env ?_
  intro AA en
  k_steps
  unfold Hold
  rename Fr _ _ _ _ => F2
  rename News _ _ _ _ => N2
  refine my_for F2 rfl rfl ?_
  k_steps
  unfold Hold
  rename_i D _ _ _ lD
  rename Fr _ _ _ _ => F3
  rename News _ _ _ _ => N3
  refine' it_list (σ := Int × Tok × Tok × Tok) (vs := [.str X t1, .str Y t2]) (fun c => (D, listOf [Value.str X t1, Value.str Y t2].toArray 0) :: (l, ⟨.type "list", none, .seq #[.str Z t0, .str X t1, .str Y t2, .str Z t3] cap, #[]⟩) :: news)
    (fun c => [(Str.ofString "pieces", .ref l), (Str.ofString "name", .str nm c.2.1), (Str.ofString "at", .int c.1 c.2.2.1)])
    (fun i c => takesAt (Txt.find3 nm X 0) (Txt.find3 nm Y (Txt.find3 nm X 0 + 1)) i c.1) ⟨0, ?tn, ?ta, 0⟩
    rfl F3 N3 (List.Mem.head _) (fun _ => List.Mem.head _) (fun p hp => hp) ?hk ?hp ?turn ?done
  case hk => kst_all
  case hp => exact rfl
  case turn =>
    rintro i v ⟨at0, tn, ta, tz⟩ u h9 tk9 I it hv hP hI F9 N9
    refine fold_q ?_
    intro q9
    dsimp only at hP hI N9
    try dsimp only at F9
    refine fr_let F9 ?_
    clear F9
    intro m9 F9
    have hv2 : (i = 0 ∧ v = .str X t1) ∨ (i = 1 ∧ v = .str Y t2) := by
      match i, hv with
      | 0, hv => exact .inl ⟨rfl, (Option.some.inj hv).symm⟩
      | 1, hv => exact .inr ⟨rfl, (Option.some.inj hv).symm⟩
      | i + 2, hv => simp at hv
    rcases hv2 with ⟨rfl, rfl⟩ | ⟨rfl, rfl⟩
    · obtain rfl : at0 = 0 := hP
      k_steps
      · have hz : Txt.find3 nm X 0 < 0 := by assumption
        exact ret_b hret (decide_eq_false (fun h => absurd h.1 (Int.not_le.mpr hz))).symm (by assumption) (drop1 (drop1 (by assumption)))
      · have hz : ¬ Txt.find3 nm X 0 < 0 := by assumption
        rename Fr _ _ _ _ => F8
        rename News _ _ _ _ => N8
        refine' f_end ⟨_, _, _, 0⟩ F8 N8 (List.Mem.head _) (fun p hp => List.Mem.tail _ hp) hI ?hk1 ?hp1
        case hk1 => kst_all
        case hp1 => exact ⟨rfl, Int.not_lt.mp hz⟩
    · obtain ⟨rfl, hf1⟩ : at0 = Txt.find3 nm X 0 + 1 ∧ 0 ≤ Txt.find3 nm X 0 := hP
      k_steps
      · have hz : Txt.find3 nm Y (Txt.find3 nm X 0 + 1) < 0 := by assumption
        exact ret_b hret (decide_eq_false (fun h => absurd h.2 (Int.not_le.mpr hz))).symm (by assumption) (drop1 (drop1 (by assumption)))
      · have hz : ¬ Txt.find3 nm Y (Txt.find3 nm X 0 + 1) < 0 := by assumption
        rename Fr _ _ _ _ => F8
        rename News _ _ _ _ => N8
        refine' f_end ⟨_, _, _, 0⟩ F8 N8 (List.Mem.head _) (fun p hp => List.Mem.tail _ hp) hI ?hk2 ?hp2
        case hk2 => kst_all
        case hp2 => exact ⟨rfl, hf1, Int.not_lt.mp hz⟩
  case done =>
    rintro ⟨at0, tn, ta, tz⟩ u h9 tk9 hP F9 N9
    dsimp only at hP N9
    try dsimp only at F9
    obtain ⟨rfl, hf1, hf2⟩ : at0 = Txt.find3 nm Y (Txt.find3 nm X 0 + 1) + 1 ∧ 0 ≤ Txt.find3 nm X 0 ∧ 0 ≤ Txt.find3 nm Y (Txt.find3 nm X 0 + 1) := hP
    have hle := find3_le (nm := nm) (i := Txt.find3 nm X 0 + 1) hY
    k_steps
    · exact ret_b hret ((sliceE hZ).trans (decide_eq_true ⟨hf1, hf2⟩).symm) (by assumption) (drop1 (by assumption))
end
end Mine
namespace Mine
-- LwE
open PySem PySem.W PyProof.Rows PySem.Spec PySem.Calls
set_option maxHeartbeats 8000000
theorem sum_le_len : ∀ {l : List Nat}, (∀ z ∈ l, z ≤ 1) → l.sum ≤ l.length
  | [], _ => Nat.le_refl _
  | x :: r, h => by
    have h1 := h x (.head _)
    have h2 := sum_le_len (l := r) fun z hz => h z (.tail _ hz)
    rw [List.sum_cons, List.length_cons]; omega
section
variable {w : World} {p : Program} {loose : List Str} {mean : ExcName → Option Value} {mg mb : Str → Option Value}
variable {dp un : Nat} {gd : Option (List Code)} {cn : Str} {a : Addr} {ccd : Value} {cP cM cK cZ cS : Addr} {outer : List Env} {A₀ : Around} {base h₀ : Heap} {L : Addr} {s : Shared} {Q : Flow → Shared → Prop} {E : Value → Shared → Prop} {m : Str → Option Value}
theorem lines_LwE_0 : True := by
  k_with_none
  k_with "lt" => first | with_reducible assumption | exact And.left (by with_reducible assumption) | exact And.left (And.right (by with_reducible assumption)) | exact And.left (And.right (And.right (by with_reducible assumption))) | exact And.left (And.right (And.right (And.right (by with_reducible assumption)))) | exact And.left (And.right (And.right (And.right (And.right (by with_reducible assumption)))))
  k_with "rl" => with_unfolding_all exact rfl
  k_with "omega" => first | (with_reducible exact om_room ‹_›) | (with_reducible exact om_le ‹_› (by k_extra "rl")) | (with_reducible exact om_ne1 (by k_extra "lt")) | lia
  k_with "subscriptTail Name Slice ref ref" => refine hold ?_
  k_with "call builtin:len" => refine hold ?_
  k_with "call builtin:min" => refine hold ?_
  k_with "call ref" => refine hold ?_
  k_with "binaryOp Add ref ref" => refine hold ?_
  k_with "eval Name" => (k_here; k_dflt (refine' nameX_L ?Fzq ?vzq ?_ ?azq ?bzq; (case Fzq => k_asm); (case azq => rfl); (case bzq => rfl); (case vzq => first | assumption | with_unfolding_all assumption); k_whole))
  k_with "CompSrc" => refine hold ?_
  k_with "CompEnd" => refine hold ?_
  k_with "call builtin:str.join" => refine hold ?_
  k_with "subscriptTail" => refine hold ?_
  k_with "storeName" => (k_dflt (refine' storeX_F ?Fzq ?Nzq ?_ ?azq ?bzq; (case Fzq => k_asm); (case Nzq => k_asm); (case azq => rfl); (case bzq => rfl); k_whole); intro _ _ _ _; (try k_sweep))
  trivial
theorem tk0 {O SG PC : Addr} {us ss : List Value} {os : List Nat} {sgs : List Str} {c1 c2 c3 : Nat} {oS : Obj} {rest : Led} {xs yq zs : Str} {t0 t1 t2 t3 : Tok} (B : Below A₀ base outer h₀) (X : (KF w.params).In h₀) (T : Top p loose mean mg mb h₀) (hd : dp + 500 < recursionLimit) (hu : un + 2500 < cLine) (F : Fr h₀ L s.heap m)
    (N : News h₀ L s.heap ((O, listOf us.toArray c1) :: (PC, listOf #[.str zs t0, .str xs t1, .str yq t2, .str zs t3] c2) :: (SG, listOf ss.toArray c3) :: (cS, oS) :: rest)) (m1 : m (Str.ofString "order") = some (.ref O)) (m2 : m (Str.ofString "pieces") = some (.ref PC)) (hoS : oS.data = .cell (some (.ref SG)))
    (hv : IntsAre us (os.map fun k : Nat => (k : Int))) (hs : StrsAre ss sgs) (hos : os.length ≤ 5) (hsg5 : sgs.length ≤ 5) (hin : ∀ k ∈ os, k < sgs.length) (hz : zs.length = 0) (hX : xs.length = 1) (hY : yq.length = 1) (hs1 : ∀ z ∈ sgs, z.length = 1) (nm : Str) (hnm : Txt.join (Str.ofString "") (os.map fun k => sgs.getD k ⟨#[]⟩) = nm) (hnl : nm.length ≤ 10)
    (hQ : ∀ h' tk', Fr h₀ L h' (fun y => if y = Str.ofString "taken" then some (.bool (decide (0 ≤ Txt.find3 nm xs 0 ∧ 0 ≤ Txt.find3 nm yq (Txt.find3 nm xs 0 + 1)))) else m y) → News h₀ L h' ((O, listOf us.toArray c1) :: (PC, listOf #[.str zs t0, .str xs t1, .str yq t2, .str zs t3] c2) :: (SG, listOf ss.toArray c3) :: (cS, oS) :: rest) → Q .next { s with heap := h', toks := tk' }) :
    wpAny (model pw w) (ktrTop dp un gd cn fs49.1 L a ccd (lawCl cP cM cK cZ cS) outer) (exec lt0.1 (envX cn fs49.1 L a ccd (lawCl cP cM cK cZ cS))) Q E s := by
  refine fold_st ?_
  intro AA en
  have hol : us.length = os.length := hv.length.trans (List.length_map _)
  k_steps
  unfold Hold
  have hsl : ss.length = sgs.length := hs.length
  refine LCg.CompSrc.ledger rfl F N (.head _) (by rw [List.size_toArray, hol]; exact le_sz (by omega)) fun g => ?_
  refine comp_ind (fun i ys news => StrsAre ys ((os.take i).map fun k => sgs.getD k ⟨#[]⟩) ∧ news = (O, listOf us.toArray c1) :: (PC, listOf #[.str zs t0, .str xs t1, .str yq t2, .str zs t3] c2) :: (SG, listOf ss.toArray c3) :: (cS, oS) :: rest) us.toArray.size ?step ?fin us.toArray.size 0 [] _ (Nat.zero_add _) ⟨.nil, rfl⟩
  case step =>
    rintro i zz news hi ⟨hI, rfl⟩ v I oI C oC D m₂ h tk E' hv' hC hx F3 N3 off
    obtain ⟨n, t, hn, rfl⟩ := ints_get hv (by simpa using hv')
    obtain ⟨k, hk, rfl⟩ : ∃ k, os[i]? = some k ∧ n = (k : Int) := by
      rw [List.getElem?_map] at hn
      cases hk : os[i]? with
      | none => rw [hk] at hn; cases hn
      | some k => rw [hk] at hn; exact ⟨k, rfl, (Option.some.inj hn).symm⟩
    have hkm : k ∈ os := List.mem_of_getElem? hk
    have hks := hin k hkm
    obtain ⟨t9, ht9⟩ := hs.get k _ (List.getElem?_eq_getElem hks)
    k_steps
    unfold Hold
    refine item_L N3 (.tail _ (.tail _ (.tail _ (.tail _ (.tail _ (.head _)))))) (by omega) (by omega) (by rw [Int.toNat_natCast]; exact ht9) ?_
    k_steps
    unfold Hold
    refine LCg.CompEnd.intro F3 N3 _ (fun _ h => h) off (.inr ⟨_, .head _, rfl, _, rfl⟩) ⟨?_, rfl⟩
    rw [take_snoc hk, List.map_append]
    have e : sgs.getD k ⟨#[]⟩ = sgs[k] := by rw [List.getD_eq_getElem?_getD, List.getElem?_eq_getElem hks]; rfl
    show StrsAre (zz ++ [Value.str sgs[k] t9]) (_ ++ [sgs.getD k ⟨#[]⟩])
    rw [e]
    exact strs_snoc hI
  case fin =>
    rintro zz news ⟨hI, rfl⟩
    intro D h tk F3 N3 off
    rw [List.take_of_length_le (by rw [List.size_toArray, hol]; exact Nat.le_refl _)] at hI
    k_steps
    unfold Hold
    have hsum : ((os.map fun k => sgs.getD k ⟨#[]⟩).map (·.length)).sum ≤ 10000 := by
      have : ∀ z ∈ (os.map fun k => sgs.getD k ⟨#[]⟩).map (·.length), z ≤ 1 := by
        intro z hz
        obtain ⟨y, hy, rfl⟩ := List.mem_map.mp hz
        obtain ⟨k, hk, rfl⟩ := List.mem_map.mp hy
        have e : sgs.getD k ⟨#[]⟩ = sgs[k]'(hin k hk) := by rw [List.getD_eq_getElem?_getD, List.getElem?_eq_getElem (hin k hk)]; rfl
        rw [e]
        exact Nat.le_of_eq (hs1 _ (List.getElem_mem _))
      refine Nat.le_trans (sum_le_len this) ?_
      rw [List.length_map, List.length_map]; omega
    refine join_L N3 (.head _) hI hnm hsum (by rw [List.length_map]; omega) (by decide) fun t8 k8 => ?_
    k_steps
    unfold Hold
    have N4 : News h₀ L h ((PC, listOf #[.str zs t0, .str xs t1, .str yq t2, .str zs t3] c2) :: (D, LCg.lst zz) :: (O, listOf us.toArray c1) :: (PC, listOf #[.str zs t0, .str xs t1, .str yq t2, .str zs t3] c2) :: (SG, listOf ss.toArray c3) :: (cS, oS) :: rest) := fun q hq => by
      rcases List.mem_cons.mp hq with rfl | hq
      · exact N3 _ (.tail _ (.tail _ (.head _)))
      · exact N3 _ hq
    refine' c_takes PC c2 nm xs yq zs hz t8 t0 t1 t2 t3 hX hY hnl _ _ _ _ _ _ _ _ _ _ _ _ _ _ _ _ _ _ ?k1 ?k2 ?k3 N4 ?k5 ?kK ?kd ?ku ?kR trivial
    case k1 => k_asm
    case k2 => exact F3
    case k3 => k_asm
    case k5 => k_asm
    case kK => exact rfl
    case kd => ktr_room
    case ku => ktr_units
    case kR =>
      intro h5 tk5 F5 N5
      k_steps
      exact hQ _ _ (by assumption) (fun q hq => (by assumption : News _ _ _ _) q (.tail _ (.tail _ hq)))
end
end Mine
namespace Mine
-- LwF
open PySem PySem.W PyProof.Rows PySem.Spec PySem.Calls
set_option maxHeartbeats 8000000
theorem kf_ints_of {us : List Value} {ns : List Int} (h : IntsAre us ns) : kf_ints us = true := by
  induction h with
  | nil => rfl
  | cons n t h ih => exact ih
theorem kf_at_of {us : List Value} : ∀ (os : List Nat) {k : Nat}, IntsAre us (os.map fun k : Nat => (k : Int)) → k ∈ os → kf_at (k : Int) us = some (os.idxOf k) := by
  induction us with
  | nil => intro os k h hk; cases os with
    | nil => cases hk
    | cons o r => cases h
  | cons u us ih =>
    intro os k h hk
    cases os with
    | nil => cases hk
    | cons o r =>
      cases h with
      | cons n t h =>
        have e : isInt (k : Int) (.int (o : Int) t) = decide ((o : Int) = (k : Int)) := rfl
        by_cases hk2 : o = k
        · subst hk2
          unfold kf_at
          rw [e]
          simp
        · have hkr : k ∈ r := by
            rcases List.mem_cons.mp hk with q | q
            · exact absurd q.symm hk2
            · exact q
          unfold kf_at
          rw [e, ih r h hkr]
          have : ¬ ((o : Int) = (k : Int)) := fun q => hk2 (Int.ofNat.inj q)
          have e2 : (o == k) = false := by simp [hk2]
          simp [this, List.idxOf_cons, e2]
section
variable {w : World} {p : Program} {loose : List Str} {mean : ExcName → Option Value} {mg mb : Str → Option Value}
variable {dp un : Nat} {gd : Option (List Code)} {cn : Str} {a : Addr} {ccd : Value} {cP cM cK cZ cS : Addr} {outer : List Env} {A₀ : Around} {base h₀ : Heap} {L : Addr} {s : Shared} {Q : Flow → Shared → Prop} {E : Value → Shared → Prop} {m : Str → Option Value}
theorem lines_LwF_0 : True := by
  k_with_none
  k_with "lt" => first | with_reducible assumption | exact And.left (by with_reducible assumption) | exact And.left (And.right (by with_reducible assumption)) | exact And.left (And.right (And.right (by with_reducible assumption))) | exact And.left (And.right (And.right (And.right (by with_reducible assumption)))) | exact And.left (And.right (And.right (And.right (And.right (by with_reducible assumption)))))
  k_with "rl" => with_unfolding_all exact rfl
  k_with "omega" => first | (with_reducible exact om_room ‹_›) | (with_reducible exact om_le ‹_› (by k_extra "rl")) | (with_reducible exact om_ne1 (by k_extra "lt")) | lia
  k_with "subscriptTail Name Slice ref ref" => refine hold ?_
  k_with "call builtin:len" => refine hold ?_
  k_with "call builtin:min" => refine hold ?_
  k_with "call ref" => refine hold ?_
  k_with "binaryOp Add ref ref" => refine hold ?_
  k_with "eval Name" => (k_here; k_dflt (refine' nameX_L ?Fzq ?vzq ?_ ?azq ?bzq; (case Fzq => k_asm); (case azq => rfl); (case bzq => rfl); (case vzq => first | assumption | with_unfolding_all assumption); k_whole))
  k_with "call builtin:list.index" => refine hold ?_
  k_with "exec If" => refine exec_if ?_
  k_with "IfQ" => first | refine ifq_no (by with_reducible assumption) ?_ | refine ifq_yes (by with_reducible assumption) ?_ | refine ifq_no (by with_reducible rfl) ?_ | refine ifq_yes (by with_reducible rfl) ?_ | refine hold ?_
  k_with "binaryOp Add str str" => refine hold ?_
  k_with "storeName" => (k_dflt (refine' storeX_F ?Fzq ?Nzq ?_ ?azq ?bzq; (case Fzq => k_asm); (case Nzq => k_asm); (case azq => rfl); (case bzq => rfl); k_whole); intro _ _ _ _; (try k_sweep))
  trivial
theorem tk1 {O : Addr} {us : List Value} {os : List Nat} {c1 hi lo : Nat} {rest : Led} {th tl : Tok} (B : Below A₀ base outer h₀) (X : (KF w.params).In h₀) (T : Top p loose mean mg mb h₀) (hd : dp + 500 < recursionLimit) (hu : un + 2500 < cLine) (F : Fr h₀ L s.heap m)
    (N : News h₀ L s.heap ((O, listOf us.toArray c1) :: rest)) (m1 : m (Str.ofString "order") = some (.ref O)) (m2 : m (Str.ofString "taken") = some (.bool (decide (os.idxOf hi < os.idxOf lo)))) (m3 : m (Str.ofString "high") = some (.int hi th)) (m4 : m (Str.ofString "low") = some (.int lo tl))
    (hv : IntsAre us (os.map fun k : Nat => (k : Int))) (hos : os.length ≤ 5) (h1 : hi ∈ os) (h2 : lo ∈ os)
    (hQ : ∀ h' tk', Fr h₀ L h' m → News h₀ L h' ((O, listOf us.toArray c1) :: rest) → Q .next { s with heap := h', toks := tk' }) :
    wpAny (model pw w) (ktrTop dp un gd cn fs49.1 L a ccd (lawCl cP cM cK cZ cS) outer) (exec lt1.1 (envX cn fs49.1 L a ccd (lawCl cP cM cK cZ cS))) Q E s := by
  refine fold_st ?_
  intro AA en
  have hol : us.length = os.length := hv.length.trans (List.length_map _)
  k_steps
  unfold Hold
  refine kf_index N (.head _) (kf_ints_of hv) (kf_at_of os hv h1) rfl (by simp only [sizeLine_eq]; show us.length ≤ _; omega) ?_
  k_steps
  unfold Hold
  refine kf_index N (.head _) (kf_ints_of hv) (kf_at_of os hv h2) rfl (by simp only [sizeLine_eq]; show us.length ≤ _; omega) ?_
  k_steps
  unfold Hold
  refine ifq_no ?_ ?_
  · simp
  k_steps
  exact hQ _ _ (by assumption) (by assumption)
theorem tk2 {rest : Led} {k : Nat} {b : Bool} {tm : Tok} (B : Below A₀ base outer h₀) (X : (KF w.params).In h₀) (T : Top p loose mean mg mb h₀) (hd : dp + 500 < recursionLimit) (hu : un + 2500 < cLine) (F : Fr h₀ L s.heap m) (N : News h₀ L s.heap rest) (m2 : m (Str.ofString "taken") = some (.bool b)) (m3 : m (Str.ofString "marks") = some (.str ⟨(List.replicate k 34).toArray⟩ tm)) (hk : k ≤ 100)
    (hQ : ∀ h' tk' m' t', (∀ x, x ≠ Str.ofString "marks" → m' x = m x) → m' (Str.ofString "marks") = some (.str ⟨(List.replicate (k + if b = true then 1 else 0) 34).toArray⟩ t') → Fr h₀ L h' m' → News h₀ L h' rest → Q .next { s with heap := h', toks := tk' }) :
    wpAny (model pw w) (ktrTop dp un gd cn fs49.1 L a ccd (lawCl cP cM cK cZ cS) outer) (exec lt2.1 (envX cn fs49.1 L a ccd (lawCl cP cM cK cZ cS))) Q E s := by
  refine fold_st ?_
  intro AA en
  cases b with
  | false =>
    k_steps
    exact hQ _ _ m _ (fun _ _ => rfl) m3 (by assumption) (by assumption)
  | true =>
    have hsz : (⟨(List.replicate k 34).toArray⟩ : Str).length + (Str.ofString "\"").length ≤ 5000 := by
      have e1 : (⟨(List.replicate k 34).toArray⟩ : Str).length = k := by simp [PySem.Str.length]
      have e2 : (Str.ofString "\"").length = 1 := rfl
      omega
    have happ : (⟨(List.replicate k 34).toArray⟩ : Str) ++ Str.ofString "\"" = ⟨(List.replicate (k + 1) 34).toArray⟩ := by
      apply str_ext
      rw [List.replicate_succ']
      show (_ ++ _ : Array Nat).toList = _
      rw [Array.toList_append]
      rfl
    k_steps
    unfold Hold
    refine PyProof.Rows.add_str ?_ (le_sz hsz)
    intro _ _
    k_steps
    rename_i t8 k8 h8 m8 F8 N8
    exact hQ h8 _ m8 t8 (fun x hx => if_neg hx) ((if_pos rfl : m8 (Str.ofString "marks") = _).trans (congrArg (fun z => some (Value.str z t8)) happ)) F8 N8
end
end Mine
namespace Mine
-- K1
open PySem PySem.W PyProof.Rows PySem.Spec PySem.Calls
set_option maxHeartbeats 8000000
theorem lines_K1_0 : True := by
  k_with_none
  k_with "lt" => first | with_reducible assumption | exact And.left (by with_reducible assumption) | exact And.left (And.right (by with_reducible assumption)) | exact And.left (And.right (And.right (by with_reducible assumption))) | exact And.left (And.right (And.right (And.right (by with_reducible assumption)))) | exact And.left (And.right (And.right (And.right (And.right (by with_reducible assumption)))))
  k_with "rl" => with_unfolding_all exact rfl
  k_with "omega" => first | (with_reducible exact om_room ‹_›) | (with_reducible exact om_le ‹_› (by k_extra "rl")) | (with_reducible exact om_ne1 (by k_extra "lt")) | lia
  trivial
section
variable {w : World} {p : Program} {loose : List Str} {mean : ExcName → Option Value} {mg mb : Str → Option Value}
noncomputable def barred (c : Nat) : Str := if c = 42 ∨ c = 63 ∨ c = 91 then ⟨#[91, c, 93]⟩ else ⟨#[c]⟩
theorem l_star3 : (Str.ofString "*?[").cps.toList = [42, 63, 91] := by decide
theorem c_barred (c : Nat) (tk : Tok) (news : Led) : CtrV w p loose mean mg mb (.ref 855) news [.str ⟨#[c]⟩ tk] (fun t => .str (barred c) t) := by
  intro dp un gd cn cs a ccd cl outer A₀ base h₀ L m s Q E B F X N T hk hd hu hret _
  dsimp only at hret
  refine wpAny_call ?_
  k_dflt cell_enter
  k_steps
  all_goals refine cb_retS hret ?_ (by assumption) (by assumption)
  · have hoc : (Builtin.Str.occurrences (Str.ofString "*?[") ⟨#[c]⟩ 0 (Str.ofString "*?[").length 1).isEmpty = true := by assumption
    simp only [PyProof.Rows.empty_one, l_star3] at hoc
    simp at hoc
    simp [barred, hoc]
  · have hoc : (Builtin.Str.occurrences (Str.ofString "*?[") ⟨#[c]⟩ 0 (Str.ofString "*?[").length 1).isEmpty = false := by assumption
    simp only [PyProof.Rows.empty_one, l_star3] at hoc
    simp at hoc
    have : c = 42 ∨ c = 63 ∨ c = 91 := by
      by_cases h1 : c = 42 <;> by_cases h2 : c = 63 <;> simp_all
    simp [barred, this]
    with_unfolding_all rfl
end
end Mine
namespace Mine
-- Esc
open PySem PySem.W PyProof.Rows PySem.Spec PySem.Calls
set_option maxHeartbeats 8000000
theorem lines_Esc_0 : True := by
  k_with_none
  k_with "lt" => first | with_reducible assumption | exact And.left (by with_reducible assumption) | exact And.left (And.right (by with_reducible assumption)) | exact And.left (And.right (And.right (by with_reducible assumption))) | exact And.left (And.right (And.right (And.right (by with_reducible assumption)))) | exact And.left (And.right (And.right (And.right (And.right (by with_reducible assumption)))))
  k_with "rl" => with_unfolding_all exact rfl
  k_with "omega" => first | (with_reducible exact om_room ‹_›) | (with_reducible exact om_le ‹_› (by k_extra "rl")) | (with_reducible exact om_ne1 (by k_extra "lt")) | lia
  trivial
section
variable {w : World} {p : Program} {loose : List Str} {mean : ExcName → Option Value} {mg mb : Str → Option Value}
noncomputable def okEnt (e : DictEntry) : Bool := match e.key with
  | .int i _ => e.hash == hashInt i && (decide (i < 128) && (i != 34 && i != 39))
  | _ => false
theorem map_of_ents {prog : Program} {h : Heap} {d : Addr} {es : Array DictEntry} {ep : Nat} {c : Nat} (ho : h.get? d = some ⟨.type "dict", none, .dict es ep, #[]⟩) (hall : es.toList.all okEnt = true) (hc : 128 ≤ c ∨ c = 34 ∨ c = 39) :
    ∃ f, h.MapOf (intKind prog w) d f ∧ f (c : Int) = none := by
  have key : ∀ e ∈ es, ∃ i t, e.key = .int i t ∧ e.hash = hashInt i ∧ i < 128 ∧ i ≠ 34 ∧ i ≠ 39 := fun e he => by
    have h1 := List.all_eq_true.mp hall e (Array.mem_toList_iff.mpr he)
    unfold okEnt at h1
    split at h1
    · rename_i i t hk
      simp only [Bool.and_eq_true, beq_iff_eq, decide_eq_true_eq, bne_iff_ne] at h1
      exact ⟨i, t, hk, h1.1, h1.2.1, h1.2.2.1, h1.2.2.2⟩
    · cases h1
  refine ⟨fun k => findBy (intKind prog w).is es k, ⟨_, es, ep, ho, ⟨rfl, rfl, rfl⟩, rfl, fun e he => ?_, fun k => rfl⟩, ?_⟩
  · obtain ⟨i, t, hk, hh, _⟩ := key e he
    exact ⟨i, by rw [hk]; simp [intKind, Value.isInt], hh⟩
  · show (es.find? fun e => Value.isInt (c : Int) e.key).map (·.val) = none
    rw [Option.map_eq_none_iff, Array.find?_eq_none]
    intro e he
    obtain ⟨i, t, hk, _, h1, h2, h3⟩ := key e he
    rw [hk]
    simp only [Value.isInt, beq_iff_eq]
    omega
theorem translate_K {A : Around} {E : Value → Shared → Prop} {s : Shared} {h₀ : Heap} {L : Addr} {m : Str → Option Value} {news : Led} {c : Nat} {t : Tok} {Q : Value → Shared → Prop} (X : (KF w.params).In h₀) (F : Fr h₀ L s.heap m) (N : News h₀ L s.heap news) (hh : A.handled = none) (hc : 128 ≤ c ∨ c = 34 ∨ c = 39)
    (h : ∀ h' tk t', Fr h₀ L h' m → News h₀ L h' news → Q (.str ⟨#[c]⟩ t') { s with heap := h', toks := tk }) : wpAny (model pw w) A (call (.builtin "str.translate") [.str ⟨#[c]⟩ t, .ref 109]) Q E s := by
  have ho : ∃ es ep, (KF w.params).lookup 109 = some ⟨.type "dict", none, .dict es ep, #[]⟩ ∧ es.toList.all okEnt = true := by
    refine ⟨_, _, by k_is, ?_⟩
    kernel_rfl
  obtain ⟨es, ep, hl, hall⟩ := ho
  obtain ⟨f, hm, hv⟩ := map_of_ents (prog := pw) (w := w) (F.keep _ _ (X _ _ hl)) hall hc
  exact translate_one (by decide) hh hm hv fun h' tk t' hk => h h' tk t' (F.keeps hk) fun p hp => ⟨hk _ _ (N p hp).1, (N p hp).2⟩
end
end Mine
namespace Mine
-- K9
open PySem PySem.W PyProof.Rows PySem.Spec PySem.Calls
set_option maxHeartbeats 8000000
section
variable {w : World} {p : Program} {loose : List Str} {mean : ExcName → Option Value} {mg mb : Str → Option Value}
theorem lines_K9_0 : True := by
  k_with_none
  k_with "lt" => first | with_reducible assumption | exact And.left (by with_reducible assumption) | exact And.left (And.right (by with_reducible assumption)) | exact And.left (And.right (And.right (by with_reducible assumption))) | exact And.left (And.right (And.right (And.right (by with_reducible assumption)))) | exact And.left (And.right (And.right (And.right (And.right (by with_reducible assumption)))))
  k_with "rl" => with_unfolding_all exact rfl
  k_with "omega" => first | (with_reducible exact om_room ‹_›) | (with_reducible exact om_le ‹_› (by k_extra "rl")) | (with_reducible exact om_ne1 (by k_extra "lt")) | lia
  k_with "getMethod str" => (refine GM.of (Value.str _ _) (typeIs_str _ _ _) PySem.F.slot_str_translate PySem.F.type_str_translate GM.noRef ?_)
  k_with "call builtin:str.translate" => (refine translate_K (by k_asm) (by k_asm) (by k_asm) rfl (by assumption) ?_; intro _ _ _ _ _)
  trivial
theorem c_escape (c : Nat) (tR : Tok) (hc : 128 ≤ c ∨ c = 34 ∨ c = 39) (news : Led) : CtrV w p loose mean mg mb (.ref 119) news [.str ⟨#[c]⟩ tR] (fun t => .str ⟨#[c]⟩ t) := by
  intro dp un gd cn cs a ccd cl outer A₀ base h₀ L m s Q E B F X N T hk hd hu hret _
  dsimp only at hret
  refine wpAny_call ?_
  k_dflt cell_enter
  k_steps
  exact cb_retS hret rfl (by assumption) (by assumption)
end
end Mine
namespace Mine
-- K11
open PySem PySem.W PyProof.Rows PySem.Spec PySem.Calls
set_option maxHeartbeats 8000000
inductive Atom | star | ch (c : Nat) | br (b : Nat)
noncomputable def Atom.txt : Atom → List Nat
  | .star => [42]
  | .ch c => [c]
  | .br b => [91, b, 93]
noncomputable def Atom.out : Atom → Str
  | .star => ⟨#[]⟩
  | .ch c => ⟨#[c]⟩
  | .br b => if b = 91 then ⟨#[91, 92, 91, 93]⟩ else ⟨#[91, b, 93]⟩
noncomputable def Atom.ok : Atom → Prop
  | .star => True
  | .ch c => 128 ≤ c ∨ c = 34 ∨ c = 39
  | .br b => b = 42 ∨ b = 63 ∨ b = 91
inductive AtomsAre (S : Addr) : List Value → List Atom → Prop
  | nil : AtomsAre S [] []
  | star {vs as} : AtomsAre S vs as → AtomsAre S (vs ++ [.ref S]) (as ++ [.star])
  | ch {vs as} (c t) : AtomsAre S vs as → AtomsAre S (vs ++ [.str (Atom.ch c).out t]) (as ++ [.ch c])
  | br {vs as} (b t) : AtomsAre S vs as → AtomsAre S (vs ++ [.str (Atom.br b).out t]) (as ++ [.br b])
theorem AtomsAre.len {S : Addr} {vs : List Value} {as : List Atom} (h : AtomsAre S vs as) : vs.length = as.length := by
  induction h <;> simp_all
noncomputable def noTwo : List Atom → Prop
  | .star :: .star :: _ => False
  | _ :: r => noTwo r
  | [] => True
theorem noTwo_mid : ∀ {pre post : List Atom}, ¬ noTwo (pre ++ [.star] ++ .star :: post)
  | [], _, h => h
  | [a], post, h => by cases a <;> exact h
  | a :: b :: r, post, h => by
    have : noTwo ((b :: r) ++ [.star] ++ .star :: post) := by
      cases a <;> first | exact h | (cases b <;> first | exact h | exact h.elim)
    exact noTwo_mid this
theorem last_of {S : Addr} {vs : List Value} {pre post : List Atom} (h : AtomsAre S vs pre) (hn : noTwo (pre ++ .star :: post)) : vs = [] ∨ ∃ o t, vs.getLast? = some (.str o t) ∧ vs.isEmpty = false := by
  cases h with
  | nil => exact .inl rfl
  | star h => exact (noTwo_mid hn).elim
  | ch c t h => exact .inr ⟨(Atom.ch c).out, t, by simp, by simp⟩
  | br b t h => exact .inr ⟨(Atom.br b).out, t, by simp, by simp⟩
noncomputable def txtOf (as : List Atom) : List Nat := as.flatMap Atom.txt
section
variable {w : World} {p : Program} {loose : List Str} {mean : ExcName → Option Value} {mg mb : Str → Option Value}
theorem lines_K11_0 : True := by
  k_with_none
  k_with "lt" => first | with_reducible assumption | exact And.left (by with_reducible assumption) | exact And.left (And.right (by with_reducible assumption)) | exact And.left (And.right (And.right (by with_reducible assumption))) | exact And.left (And.right (And.right (And.right (by with_reducible assumption)))) | exact And.left (And.right (And.right (And.right (And.right (by with_reducible assumption)))))
  k_with "rl" => with_unfolding_all exact rfl
  k_with "omega" => first | (with_reducible exact om_room ‹_›) | (with_reducible exact om_le ‹_› (by k_extra "rl")) | (with_reducible exact om_ne1 (by k_extra "lt")) | lia
  k_with "k_all" => first | assumption | exact ne_allLt (by first | assumption | exact And.right (by assumption) | exact And.right (And.right (by assumption)) | exact And.right (And.right (And.right (by assumption))))
  k_with "ite" => first | (refine ite_no (by with_reducible assumption) ?_) | (refine ite_yes (by with_reducible assumption) ?_) | (refine ite_no (by decide) ?_) | (refine ite_yes (by decide) ?_)
  k_with "execs cons" => ((try k_gentoks); refine fold_sh ?_; intro _; first | (with_reducible refine exec_one ?_) | ((with_reducible refine execs_seq ?_); k_fold))
  k_with "SeqQ" => first | refine seq_next ?_ | refine seq_ret ?_ | refine seq_brk ?_ | refine seq_cont ?_
  k_with "exec If" => (with_reducible refine exec_if ?_)
  k_with "IfQ" => first | (refine ifq_no (by with_reducible assumption) ?_) | (refine ifq_yes (by with_reducible assumption) ?_) | (refine ifq_no (by decide) ?_) | (refine ifq_yes (by decide) ?_) | dsimp only [IfQ]
  k_with "storeName" => (k_dflt (refine' storeX_F ?Fzq ?Nzq ?_ ?azq ?bzq; (case Fzq => k_asm); (case Nzq => k_asm); (case azq => rfl); (case bzq => rfl); k_whole); intro _ _ _ _; (try k_sweep))
  k_with "kst_all" => repeat (first | exact names_nil | refine names_cons (by with_unfolding_all exact rfl) ?_)
  k_with "exec While" => refine hold ?_
  k_with "WPost" => first | refine wpost_next ?_ | refine wpost_ret ?_ | refine wpost_cont ?_ | refine wpost_brk ?_
  k_with "getAttr ref" => (k_dflt (refine' getAttr_append_K ?Fzq ?Nzq ?mzq ?_; (case Fzq => k_asm); (case Nzq => k_asm); (case mzq => k_mem); k_whole); intro _ _ _ _ _ _; rename_i l1; (try k_lt l1); revert l1; intro _)
  k_with "callWith ref" => (k_dflt (refine' callWith_bm ?Nzq ?mzq ?_; (case Nzq => k_asm); (case mzq => k_mem); k_whole))
  k_with "compareOp IsNot str ref" => (refine wpAny_isNot_other (by rfl) (by intro x; cases x) ?_)
  k_with "And" => ((with_reducible show BmAt _ _ ∧ _); k_dflt (refine ⟨bm_of (by k_asm) (by k_mem), ?_⟩); (try dsimp only [List.nil_append, List.cons_append]))
  k_with "truthy ref" => (k_dflt (refine truthy_L (by k_asm) (by k_mem) (by with_reducible assumption) (by omega) ?_))
  k_with "subscriptTail Name UnaryOp ref int" => (k_dflt (refine item_last (by k_asm) (by k_mem) (by with_reducible assumption) (by omega) ?_))
  k_with "call ref" => first
  | (k_dflt (refine' call_bound_K ?Fzq ?Nzq ?hfzq ?Uzq ?zzq ?_; (case Fzq => k_asm); (case Nzq => k_asm); (case hfzq => k_mem); (case Uzq => k_upd); (case zzq => (simp only [List.size_toArray]; exact le_sz (by omega)))); intro _ _ _)
  | (k_dflt (refine' c_escape _ _ (by assumption) _ _ _ _ _ _ _ _ _ _ _ _ _ _ _ _ _ _ ?k1zq ?k2zq ?k3zq ?k4zq ?k5zq ?kKzq ?kdzq ?kuzq ?kRzq trivial; (case k1zq => k_asm); (case k2zq => k_asm); (case k3zq => k_asm); (case k4zq => k_asm); (case k5zq => k_asm); (case kKzq => exact rfl); (case kdzq => ktr_room); (case kuzq => ktr_units)); intro _ _ _ _ _)
  k_with "subscriptTail Name Slice str ref" => ((refine sl_ss (s := ⟨_, _, _, _, _⟩) (by with_reducible assumption) (by omega) (by k_asm) (by k_asm) ?_); intro _ _ _ _ _)
  k_with "subscriptTail Name Constant str int" => (refine str_at (by with_reducible assumption) ?_)
  k_with "call builtin:str.replace" => (refine rep_none (by with_reducible assumption) ?_; intro _ _)
  k_with "compareOp NotIn str str" => (refine notIn_at (by with_reducible assumption) ?_)
  k_with "eval Lambda" => (k_dflt (refine' lam_K ?Fzq ?Nzq ?Tzq ?Czq ?cdzq ?Uzq ?tzq ?dzq ?clzq ?_; (case Fzq => k_asm); (case Nzq => k_asm); (case Tzq => k_asm); (case Czq => exact code_translate (by assumption)); (case cdzq => exact rfl); (case Uzq => k_updF); (case tzq => assumption); (case dzq => exact rfl); (case clzq => exact rfl)); intro _ _ _ _ _ _ _ _ _ _; rename_i N' l1; (try dsimp only at N'); (try k_lt l1); revert N' l1; intro _ _)
  k_with "getMethod ref" => (k_dflt (refine' getMethod_sub ?Xzq ?czq ?dzq ?_; (case Xzq => exact Fr.keep (by k_asm) _ _ ((by assumption : Frag.In _ _) _ _ (by k_is))); (case czq => exact rfl); (case dzq => exact rfl)))
  k_with "call builtin:re.Pattern.sub" => (k_dflt (refine' sub_K ?Xzq ?Fzq ?Nzq ?fzq ?fozq ?bzq ?_; (case Xzq => k_asm); (case Fzq => k_asm); (case Nzq => k_asm); (case fzq => k_mem); (case fozq => k_asm); (case bzq => k_asm)); intro _ _ _ _ _)
  k_with "subscriptTail Name Name str int" => (refine str_at (by with_reducible assumption) ?_)
  trivial
theorem chAt_mid {l P R : List Nat} {x : Str} {c : Nat} {i : Int} (hx : (⟨l.toArray⟩ : Str) = x) (hl : l = P ++ c :: R) (hP : (P.length : Int) = i) (hz : l.length ≤ 20) : ChAt x i c := by
  subst hx hP
  have e : l.length = P.length + 1 + R.length := by rw [hl]; simp; omega
  refine ⟨by omega, by rw [len_mk]; omega, by rw [len_mk]; omega, ?_⟩
  rw [Int.toNat_natCast]
  simp [hl]
theorem sl_mid {l P R : List Nat} {x : Str} {b : Nat} {i : Int} (hx : (⟨l.toArray⟩ : Str) = x) (hl : l = P ++ b :: R) (hP : (P.length : Int) = i) : Txt.slice x (some i) (some (i + 1)) = ⟨#[b]⟩ := by
  subst hx hP
  have e : l.length = P.length + 1 + R.length := by rw [hl]; simp; omega
  rw [slice_mid ⟨by omega, by omega, by show ((P.length : Int) + 1) ≤ (l.length : Int); omega⟩]
  have e2 : ((P.length : Int) + 1 - P.length).toNat = 1 := by omega
  rw [e2, Int.toNat_natCast]
  show (⟨((l.drop P.length).take 1).toArray⟩ : Str) = _
  rw [hl, List.drop_left]
  rfl
theorem c_xlate (as : List Atom) (hok : ∀ a ∈ as, a.ok) (hno : noTwo as) (hlen : (txtOf as).length ≤ 20) (hal : as.length ≤ 20) (S : Addr) (ps : Array Value) (tP tQ : Tok) (news : Led) (htab : TabOk 108 46 ps) (h121 : ∀ p ∈ news, p.1 ≠ 121) : CtrN 80 400 w p loose mean mg mb (.ref 126) ((121, tabObj ps) :: news) [.str ⟨(txtOf as).toArray⟩ tP, .ref S, .str (Str.ofString ".") tQ]
   (fun k => ∀ l vs cap ps', AtomsAre S vs as → TabOk 108 46 ps' → (∀ p ∈ news, p.1 < l) → k (.ref l) ((l, listOf vs.toArray cap) :: (121, tabObj ps') :: news)) (fun _ => True) := by
  intro dp un gd cn cs a ccd cl outer A₀ base h₀ L m s Q E B F X N T hk hd hu hret _
  dsimp only at hret
  generalize hx : (⟨(txtOf as).toArray⟩ : Str) = x at N F
  have hxl : x.length = (txtOf as).length := by rw [← hx, len_mk]
  refine wpAny_call ?_
  k_dflt cell_enter
  refine fold_env ?_
  intro AA en
  k_steps
  unfold Hold
  rename Fr _ _ _ _ => F2
  rename News _ _ _ _ => N2
  rename_i lo _ lL _ _ _ _ _ _ f _ _ fL _ _ _ _ _ _ D _ _ _ _ _ _ _ _
  have h42 : ∀ c : Nat, (128 ≤ c ∨ c = 34 ∨ c = 39) → ((⟨#[c]⟩ : Str) == Str.ofString "*") = false ∧ ((⟨#[c]⟩ : Str) == Str.ofString "?") = false ∧ ((⟨#[c]⟩ : Str) == Str.ofString "[") = false := by
    intro c hc
    rw [show Str.ofString "*" = ⟨#[42]⟩ from rfl, show Str.ofString "?" = ⟨#[63]⟩ from rfl, show Str.ofString "[" = ⟨#[91]⟩ from rfl, one_beq, one_beq, one_beq]
    refine ⟨decide_eq_false (by omega), decide_eq_false (by omega), decide_eq_false (by omega)⟩
  have hfl : lo < f ∧ 121 < f ∧ AllLt f news := fL
  have hlo : 121 < lo ∧ AllLt lo news := lL
  refine' w_while (σ := List Atom × List Value × Nat × Array Value × Tok) (fun c => (f, bmObj lo) :: (lo, listOf c.2.1.toArray c.2.2.1) :: (121, tabObj c.2.2.2.1) :: news)
    (fun c => [(Str.ofString "pat", .str x tP), (Str.ofString "STAR", .ref S), (Str.ofString "QUESTION_MARK", .str (Str.ofString ".") tQ), (Str.ofString "res", .ref lo), (Str.ofString "add", .ref f), (Str.ofString "n", .int x.length ?tn), (Str.ofString "i", .int ((txtOf c.1).length : Nat) c.2.2.2.2)])
    (fun c => ∃ post, as = c.1 ++ post ∧ AtomsAre S c.2.1 c.1 ∧ TabOk 108 46 c.2.2.2.1) (fun c => as.length - c.1.length) ⟨[], [], 0, ps, ?ti⟩ F2 N2 ?hn ?hk ?hp ?turn
  case hn => exact fun p hp => List.mem_cons_of_mem _ hp
  case hk => kst_all
  case hp => exact ⟨as, rfl, .nil, htab⟩
  case turn =>
    clear F2 N2
    rintro ⟨pre, vs, cp, ps', ti⟩ u h9 tk9 ⟨post, has, hvs, hps⟩ F9 N9
    refine fold_wq ?_
    intro q9
    dsimp only at has hvs hps N9
    dsimp only at F9
    generalize hi : (txtOf pre).length = i at F9
    have htx : txtOf as = txtOf pre ++ txtOf post := by rw [has]; exact List.flatMap_append
    have hvl : vs.length ≤ 20 := by
      have := hvs.len
      rw [this]
      have := congrArg List.length has
      rw [List.length_append] at this
      omega
    cases post with
    | nil =>
      have hin : decide ((i : Int) < x.length) = false := by
        rw [htx, List.length_append, hi] at hxl
        have : (txtOf []).length = 0 := rfl
        exact decide_eq_false (by omega)
      have hie : decide ((i : Int) = x.length) = true := by
        rw [htx, List.length_append, hi] at hxl
        have : (txtOf []).length = 0 := rfl
        exact decide_eq_true (by omega)
      k_steps
      · rw [List.append_nil] at has
        subst has
        exact hret lo vs cp ps' hvs hps (fun q hq => lt_allLt hlo.2 _ hq) _ _ (by assumption) (drop1 (by assumption))
      all_goals exact absurd (of_decide_eq_true hie) (by assumption)
    | cons at0 post =>
      have hin : decide ((i : Int) < x.length) = true := by
        rw [htx, List.length_append, hi] at hxl
        have : 1 ≤ (txtOf (at0 :: post)).length := by cases at0 <;> simp [txtOf, Atom.txt]
        exact decide_eq_true (by omega)
      have hdec : ∀ z : Atom, as.length - (pre ++ [z]).length < as.length - pre.length := fun z => by
        rw [has]; simp only [List.length_append, List.length_cons, List.length_nil]; omega
      cases at0 with
      | star =>
        have hc : ChAt x i 42 := chAt_mid hx htx (by rw [hi]) hlen
        have he : (i : Int) + 1 = ((txtOf (pre ++ [.star])).length : Nat) := by simp [txtOf, Atom.txt] at hi ⊢; omega
        rcases last_of hvs (has ▸ hno) with hv | ⟨o, t, hv, hve⟩
        · have hve : vs.isEmpty = true := by rw [hv]; rfl
          k_steps
          rename Fr _ _ _ _ => F8
          rename News _ _ _ _ => N8
          skip
          simp only [List.push_toArray] at N8
          refine' w_end ⟨pre ++ [.star], vs ++ [_], _, _, _⟩ F8 N8 (fun p hp => hp) ?hk1 ?hp1 ?hm1
          case hk1 =>
            kst_all
            exact names_cons (by rw [← he]; with_unfolding_all exact rfl) names_nil
          case hp1 => exact ⟨post, by rw [has, List.append_assoc]; rfl, hvs.star, hps⟩
          case hm1 => exact hdec _
        · k_steps
          rename Fr _ _ _ _ => F8
          rename News _ _ _ _ => N8
          skip
          simp only [List.push_toArray] at N8
          refine' w_end ⟨pre ++ [.star], vs ++ [_], _, _, _⟩ F8 N8 (fun p hp => hp) ?hk1 ?hp1 ?hm1
          case hk1 =>
            kst_all
            exact names_cons (by rw [← he]; with_unfolding_all exact rfl) names_nil
          case hp1 => exact ⟨post, by rw [has, List.append_assoc]; rfl, hvs.star, hps⟩
          case hm1 => exact hdec _
      | ch c =>
        have hc : ChAt x i c := chAt_mid hx htx (by rw [hi]) hlen
        have he : (i : Int) + 1 = ((txtOf (pre ++ [.ch c])).length : Nat) := by simp [txtOf, Atom.txt] at hi ⊢; omega
        have hcc : 128 ≤ c ∨ c = 34 ∨ c = 39 := hok (.ch c) (by rw [has]; simp)
        obtain ⟨hc1, hc2, hc3⟩ := h42 c hcc
        k_steps
        rename Fr _ _ _ _ => F8
        rename News _ _ _ _ => N8
        skip
        simp only [List.push_toArray] at N8
        refine' w_end ⟨pre ++ [.ch c], vs ++ [_], _, _, _⟩ F8 N8 (fun p hp => hp) ?hk1 ?hp1 ?hm1
        case hk1 =>
            kst_all
            exact names_cons (by rw [← he]; with_unfolding_all exact rfl) names_nil
        case hp1 => exact ⟨post, by rw [has, List.append_assoc]; rfl, hvs.ch c _, hps⟩
        case hm1 => exact hdec _
      | br b =>
        have hb : b = 42 ∨ b = 63 ∨ b = 91 := hok (.br b) (by rw [has]; simp)
        have hc : ChAt x i 91 := chAt_mid hx htx (by rw [hi]) hlen
        have hc1 : ChAt x ((i : Int) + 1) b := chAt_mid (P := txtOf pre ++ [91]) hx (by rw [htx, List.append_assoc]; rfl) (by simp [hi]) hlen
        have hc2 : ChAt x ((i : Int) + 1 + 1) 93 := chAt_mid (P := txtOf pre ++ [91, b]) hx (by rw [htx, List.append_assoc]; rfl) (by simp [hi]; omega) hlen
        have hj1 : decide ((i : Int) + 1 < x.length) = true := decide_eq_true hc1.2.1
        have hj2 : decide ((i : Int) + 1 + 1 < x.length) = true := decide_eq_true hc2.2.1
        have hj3 : decide ((x.length : Int) ≤ (i : Int) + 1 + 1) = false := decide_eq_false (by have := hc2.2.1; omega)
        have hsl : Txt.slice x (some ((i : Int) + 1)) (some ((i : Int) + 1 + 1)) = ⟨#[b]⟩ := sl_mid (P := txtOf pre ++ [91]) hx (by rw [htx, List.append_assoc]; rfl) (by simp [hi])
        have hb1 : ((⟨#[b]⟩ : Str) == Str.ofString "!") = false := by rcases hb with rfl | rfl | rfl <;> decide
        have hb2 : ((⟨#[b]⟩ : Str) == Str.ofString "]") = false := by rcases hb with rfl | rfl | rfl <;> decide
        have hb3 : ((⟨#[b]⟩ : Str) != Str.ofString "]") = true := by rcases hb with rfl | rfl | rfl <;> decide
        have hb4 : Txt.contains ⟨#[b]⟩ (Str.ofString "-") = false := by rcases hb with rfl | rfl | rfl <;> decide +kernel
        have hb5 : (Builtin.Str.occurrences ⟨#[b]⟩ (Str.ofString "\\") 0 (⟨#[b]⟩ : Str).length ((⟨#[b]⟩ : Str).length + 1)).isEmpty = true := by rcases hb with rfl | rfl | rfl <;> decide +kernel
        have hb6 : ChAt ⟨#[b]⟩ 0 b := ⟨by decide, by rw [len_one]; decide, by rw [len_one]; decide, rfl⟩
        k_steps
        unfold Hold
        refine whl_start 4 ?_
        have he : (i : Int) + 1 + 1 + 1 = ((txtOf (pre ++ [.br b])).length : Nat) := by simp [txtOf, Atom.txt] at hi ⊢; omega
        k_steps
        · have hz : ([Str.ofString "^", Str.ofString "["].any fun x => x == (⟨#[b]⟩ : Str)) = true := by assumption
          have hb9 : b = 91 := by rcases hb with rfl | rfl | rfl <;> first | rfl | (revert hz; decide)
          rename Fr _ _ _ _ => F8
          rename News _ _ _ _ => N8
          skip
          rw [show (Str.empty ++ Str.ofString "[" ++ (Str.ofString "\\" ++ (⟨#[b]⟩ : Str)) ++ Str.ofString "]") = (Atom.br b).out by subst hb9; decide] at N8
          simp only [List.push_toArray] at N8
          refine' w_end ⟨pre ++ [.br b], vs ++ [_], _, _, _⟩ F8 N8 (fun p hp => List.Mem.tail _ (List.Mem.tail _ hp)) ?hk1 ?hp1 ?hm1
          case hk1 =>
            kst_all
            exact names_cons (by rw [← he]; with_unfolding_all exact rfl) names_nil
          case hp1 => exact ⟨post, by rw [has, List.append_assoc]; rfl, hvs.br b _, by assumption⟩
          case hm1 => exact hdec _
        · have hz : ([Str.ofString "^", Str.ofString "["].any fun x => x == (⟨#[b]⟩ : Str)) = false := by assumption
          have hb9 : b = 42 ∨ b = 63 := by rcases hb with rfl | rfl | rfl <;> first | exact .inl rfl | exact .inr rfl | (revert hz; decide)
          rename Fr _ _ _ _ => F8
          rename News _ _ _ _ => N8
          skip
          rw [show (Str.empty ++ Str.ofString "[" ++ (⟨#[b]⟩ : Str) ++ Str.ofString "]") = (Atom.br b).out by rcases hb9 with rfl | rfl <;> decide] at N8
          simp only [List.push_toArray] at N8
          refine' w_end ⟨pre ++ [.br b], vs ++ [_], _, _, _⟩ F8 N8 (fun p hp => List.Mem.tail _ (List.Mem.tail _ hp)) ?hk1 ?hp1 ?hm1
          case hk1 =>
            kst_all
            exact names_cons (by rw [← he]; with_unfolding_all exact rfl) names_nil
          case hp1 => exact ⟨post, by rw [has, List.append_assoc]; rfl, hvs.br b _, by assumption⟩
          case hm1 => exact hdec _
        all_goals
          have hz : ((⟨#[b]⟩ : Str).length : Int) = 0 := by assumption
          rw [len_one] at hz
          cases hz
end
end Mine
namespace Mine
-- K12
open PySem PySem.W PyProof.Rows PySem.Spec PySem.Calls
set_option maxHeartbeats 8000000
noncomputable def grp (x : List Nat) : List Nat := [40, 63, 62, 46, 42, 63] ++ x ++ [41]
noncomputable def patTxt (x y : List Nat) : List Nat := [40, 63, 115, 58] ++ grp x ++ grp y ++ [46, 42] ++ [41, 92, 90]
theorem of_toList (s : String) (l : List Nat) (h : (Str.ofString s).cps.toList = l) : Str.ofString s = ⟨l.toArray⟩ := str_ext (by rw [h])
theorem txt_join3 (a b c : Str) : Txt.join (Str.ofString "") [a, b, c] = a ++ b ++ c := by
  rw [of_toList "" [] (by decide)]
  apply str_ext
  simp [Txt.join, Builtin.Str.glued]
  show _ = ((a.cps ++ b.cps) ++ c.cps).toList
  simp
theorem hres3 (x y : List Nat) : Txt.join (Str.ofString "") [Str.empty ++ Str.ofString "(?>.*?" ++ ⟨x.toArray⟩ ++ Str.ofString ")", Str.empty ++ Str.ofString "(?>.*?" ++ ⟨y.toArray⟩ ++ Str.ofString ")", Str.ofString ".*"] = ⟨(grp x ++ grp y ++ [46, 42]).toArray⟩ := by
  rw [txt_join3, of_toList "(?>.*?" [40, 63, 62, 46, 42, 63] (by decide), of_toList ")" [41] (by decide), of_toList ".*" [46, 42] (by decide)]
  rw [show Str.empty = ⟨([] : List Nat).toArray⟩ from rfl]
  simp only [mk_app]
  simp [grp]
theorem hres4 (x y : List Nat) : Str.empty ++ Str.ofString "(?s:" ++ ⟨(grp x ++ grp y ++ [46, 42]).toArray⟩ ++ Str.ofString ")\\Z" = ⟨(patTxt x y).toArray⟩ := by
  rw [of_toList "(?s:" [40, 63, 115, 58] (by decide), of_toList ")\\Z" [41, 92, 90] (by decide)]
  rw [show Str.empty = ⟨([] : List Nat).toArray⟩ from rfl]
  simp only [mk_app]
  simp [patTxt]
section
variable {w : World} {p : Program} {loose : List Str} {mean : ExcName → Option Value} {mg mb : Str → Option Value}
theorem lines_K12_0 : True := by
  k_with_none
  k_with "lt" => first | with_reducible assumption | exact And.left (by with_reducible assumption) | exact And.left (And.right (by with_reducible assumption)) | exact And.left (And.right (And.right (by with_reducible assumption))) | exact And.left (And.right (And.right (And.right (by with_reducible assumption)))) | exact And.left (And.right (And.right (And.right (And.right (by with_reducible assumption)))))
  k_with "rl" => with_unfolding_all exact rfl
  k_with "omega" => first | (with_reducible exact om_room ‹_›) | (with_reducible exact om_le ‹_› (by k_extra "rl")) | (with_reducible exact om_ne1 (by k_extra "lt")) | lia
  k_with "k_all" => first | assumption | exact ne_allLt (by first | assumption | exact And.right (by assumption) | exact And.right (And.right (by assumption)) | exact And.right (And.right (And.right (by assumption))))
  k_with "ite" => first | (refine ite_no (by with_reducible assumption) ?_) | (refine ite_yes (by with_reducible assumption) ?_) | (refine ite_no (by decide) ?_) | (refine ite_yes (by decide) ?_)
  k_with "execs cons" => ((try k_gentoks); refine fold_sh ?_; intro _; first | (with_reducible refine exec_one ?_) | ((with_reducible refine execs_seq ?_); k_fold))
  k_with "SeqQ" => first | refine seq_next ?_ | refine seq_ret ?_ | refine seq_brk ?_ | refine seq_cont ?_
  k_with "exec If" => (with_reducible refine exec_if ?_)
  k_with "IfQ" => first | (refine ifq_no (by with_reducible assumption) ?_) | (refine ifq_yes (by with_reducible assumption) ?_) | (refine ifq_no (by decide) ?_) | (refine ifq_yes (by decide) ?_) | dsimp only [IfQ]
  k_with "storeName" => (k_dflt (refine' storeX_F ?Fzq ?Nzq ?_ ?azq ?bzq; (case Fzq => k_asm); (case Nzq => k_asm); (case azq => rfl); (case bzq => rfl); k_whole); intro _ _ _ _; (try k_sweep))
  k_with "compareOp Is ref ref" => refine wpAny_is_ref_self ?_
  k_with "compareOp IsNot ref ref" => refine wpAny_isNot_ref_self ?_
  k_with "exec While" => (k_dflt (refine whl_start 8 ?_))
  k_with "getAttr ref" => (k_dflt (refine' getAttr_append_K ?Fzq ?Nzq ?mzq ?_; (case Fzq => k_asm); (case Nzq => k_asm); (case mzq => k_mem); k_whole); intro _ _ _ _ _ _; rename_i l1; (try k_lt l1); revert l1; intro _)
  k_with "callWith ref" => (k_dflt (refine' callWith_bm ?Nzq ?mzq ?_; (case Nzq => k_asm); (case mzq => k_mem); k_whole))
  k_with "compareOp IsNot str ref" => (refine wpAny_isNot_other (by rfl) (by intro x; cases x) ?_)
  k_with "And" => ((with_reducible show BmAt _ _ ∧ _); k_dflt (refine ⟨bm_of (by k_asm) (by k_mem), ?_⟩); (try dsimp only [List.nil_append, List.cons_append]))
  k_with "call builtin:str.join" => (k_dflt (refine' join_L ?Nzq ?mzq ?szq ?rzq ?zzq ?yzq ?qzq ?_; (case Nzq => k_asm); (case mzq => k_mem); (case szq => first | exact .cons _ _ .nil | exact .cons _ _ (.cons _ _ (.cons _ _ .nil))); (case rzq => first | with_reducible exact join1 _ _ | exact hres3 _ _); (case yzq => exact Nat.le_of_ble_eq_true rfl); (case qzq => decide); (case zzq => (simp only [List.map_cons, List.map_nil, List.sum_cons, List.sum_nil, len_app, len_mk]; omega))); intro _ _)
  k_with "formatField str" => (refine SB.field_str ?_ (le_sz (by simp only [len_app, len_mk]; omega)); intro _ _)
  k_with "le" => exact le_sz (by simp only [len_app, len_mk]; omega)
  k_with "And" => ((with_reducible show _ ≤ sizeLine ∧ _); refine ⟨le_sz (by simp only [len_app, len_mk]; omega), ?_⟩)
  k_with "subscriptTail Name Name ref int" => (k_dflt (refine' item_L ?Nzq ?mzq ?azq ?bzq ?czq ?_; (case Nzq => k_asm); (case mzq => k_mem); (case azq => decide); (case bzq => decide); (case czq => exact rfl)))
  k_with "call ref" => (k_dflt (refine' call_bound_K ?Fzq ?Nzq ?hfzq ?Uzq ?zzq ?_; (case Fzq => k_asm); (case Nzq => k_asm); (case hfzq => k_mem); (case Uzq => k_upd); (case zzq => exact le_sz (Nat.le_of_ble_eq_true rfl))); intro _ _ _; rename_i N9'; (try dsimp only [List.push_toArray, List.nil_append, List.cons_append] at N9'); revert N9'; intro _)
  trivial
theorem c_joinT (S l : Addr) (cap : Nat) (x y : List Nat) (t0 t1 t2 : Tok) (hx : x.length ≤ 10) (hy : y.length ≤ 10) (news : Led) : CtrN 80 400 w p loose mean mg mb (.ref 133) ((l, listOf #[.ref S, .str ⟨x.toArray⟩ t1, .ref S, .str ⟨y.toArray⟩ t2, .ref S] cap) :: news) [.ref l, .ref S]
   (fun k => ∀ t, k (.str ⟨(patTxt x y).toArray⟩ t) news) (fun _ => True) := by
  intro dp un gd cn cs a ccd cl outer A₀ base h₀ L m s Q E B F X N T hk hd hu hret _
  dsimp only at hret
  have e6 : (grp x).length = x.length + 7 := by simp [grp]
  have e7 : (grp y).length = y.length + 7 := by simp [grp]
  have e8 : (grp x ++ grp y ++ [46, 42]).length ≤ 40 := by simp [grp]; omega
  have e0 : Str.empty.length = 0 := rfl
  have e1 : (Str.ofString "(?>.*?").length = 6 := rfl
  have e2 : (Str.ofString ")").length = 1 := rfl
  have e3 : (Str.ofString ".*").length = 2 := rfl
  have e4 : (Str.ofString "(?s:").length = 4 := rfl
  have e5 : (Str.ofString ")\\Z").length = 3 := rfl
  refine wpAny_call ?_
  k_dflt cell_enter
  refine fold_env ?_
  intro AA en
  k_steps
  rw [hres4]
  exact hret _ _ _ (by assumption) (fun q hq => (by assumption : News _ _ _ _) q (by repeat (first | exact hq | apply List.Mem.tail)))
end
end Mine
namespace Mine
-- SetL
open PySem PySem.W PyProof.Rows PySem.Spec PySem.Calls
theorem lines_SetL_0 : True := by
  k_with_none
  k_with "lt" => first | with_reducible assumption | exact And.left (by with_reducible assumption) | exact And.left (And.right (by with_reducible assumption)) | exact And.left (And.right (And.right (by with_reducible assumption))) | exact And.left (And.right (And.right (And.right (by with_reducible assumption)))) | exact And.left (And.right (And.right (And.right (And.right (by with_reducible assumption)))))
  k_with "rl" => with_unfolding_all exact rfl
  k_with "omega" => first | (with_reducible exact om_room ‹_›) | (with_reducible exact om_le ‹_› (by k_extra "rl")) | (with_reducible exact om_ne1 (by k_extra "lt")) | lia
  trivial
section
variable {prog : Program} {w : World} {A : Around} {E : Value → Shared → Prop} {s : Shared} {h₀ : Heap} {L l : Addr} {m : Str → Option Value} {news news' : Led}
theorem setSeq_last {vs' : List Value} {v0 v : Value} {n : Nat} {t : Tok} {Q : Unit → Shared → Prop} (ho : s.heap.get? l = some (listOf (vs' ++ [v0]).toArray n)) (hz : vs'.length ≤ 5000)
    (hQ : ∀ h', h'.get? l = some (listOf (vs' ++ [v]).toArray n) → Heap.SameBut l s.heap h' → Q () { s with heap := h' }) : wpAny (model prog w) A (setItem (.ref l) (.int (-1) t) v) Q E s := by
  have hl : s.heap.IsList l (vs' ++ [v0]).toArray := ⟨_, ho, rfl, _, rfl⟩
  have hd : (listOf (vs' ++ [v0]).toArray n).data = .seq (vs' ++ [v0]).toArray n := rfl
  have hsz : (vs' ++ [v0]).toArray.size = vs'.length + 1 := by simp
  unfold setItem
  try with_reducible refine wpAny_holding ?_
  first | refine wpAny_bind (wpAny_pure ?_) | skip
  refine wpAny_bind (wpAny_sequenceKey hl.typeIs (by decide) ?_)
  refine wpAny_bind (wpAny_callSpecial?_slot (name := Str.ofString "__setitem__") hl.typeIs slot_list_setitem
    (wpAny_call_entry slot_list_setitem hl.typeIs entry_list_setitem ?_ (args_list_setitem _ _ _)))
  show wpAny _ _ (Builtin.List.listSubscript? (.int (-1) t) >>= _) _ _ s
  refine wpAny_bind (wpAny_listSubscript_int (fitsIndex_neg (by decide) (by decide)) ?_)
  have hidx := seqIndex_neg (k := -1) (n := (vs' ++ [v0]).toArray.size) (by decide) (by rw [hsz]; omega)
  have e1 : ((-1 : Int) + ((vs' ++ [v0]).toArray.size : Nat)).toNat = vs'.length := by rw [hsz]; omega
  rw [e1] at hidx
  show wpAny _ _ ((Builtin.List.listItems (.ref l) >>= fun xs => pure ((seqIndex? (Int.negSucc 0) xs.size).bind fun i => xs[i]?.map (i, ·))) >>= _) _ _ s
  refine wpAny_bind (wpAny_bind ?_)
  show wpAny _ _ (seqItems? (.ref l) >>= _) _ _ s
  refine wpAny_bind (wpAny_seqItems ho hd (wpAny_pure (wpAny_pure ?_)))
  have hidx : seqIndex? (Int.negSucc 0) (vs' ++ [v0]).toArray.size = some vs'.length := hidx
  have hx : (vs' ++ [v0]).toArray[vs'.length]? = some v0 := by simp
  rw [hidx, Option.bind_some, hx, Option.map_some]
  show wpAny _ _ (setSeqItemAt l vs'.length v >>= _) _ _ s
  refine wpAny_bind (wpAny_setSeqItemAt ho hd ?_)
  have e3 : Obj.mapSeq (·.setIfInBounds vs'.length v) (listOf (vs' ++ [v0]).toArray n) = listOf (vs' ++ [v]).toArray n := by
    simp [Obj.mapSeq, W.listOf]
  have hfin : (s.heap.update l (Obj.mapSeq (·.setIfInBounds vs'.length v))).get? l = some (listOf (vs' ++ [v]).toArray n) := by
    rw [Heap.get?_update_self _ ho (by rw [e3]; rfl), e3]
  first
    | exact wpAny_bind (wpAny_pure (wpAny_pure ⟨.none, rfl, wpAny_pure (hQ _ hfin (Heap.SameBut.update ..))⟩))
    | exact wpAny_pure ⟨.none, rfl, wpAny_pure (hQ _ hfin (Heap.SameBut.update ..))⟩
theorem setItem_last {vs' : List Value} {v0 v : Value} {n : Nat} {t : Tok} {Q : Unit → Shared → Prop} (F : Fr h₀ L s.heap m) (N : News h₀ L s.heap news) (U : Upd l (listOf (vs' ++ [v0]).toArray n) (listOf (vs' ++ [v]).toArray n) news news') (hz : vs'.length ≤ 5000)
    (h : ∀ h', Fr h₀ L h' m → News h₀ L h' news' → Q () { s with heap := h' }) : wpAny (model prog w) A (setItem (.ref l) (.int (-1) t) v) Q E s := by
  obtain ⟨pre, post, rfl, rfl, a, b⟩ := U.split
  have z := N (l, listOf (vs' ++ [v0]).toArray n) (List.mem_append.mpr (.inr (.head _)))
  exact setSeq_last z.1 hz fun h' ho' hs => h h' (F.change hs z.2.1 z.2.2) (news_set N a b hs ho')
theorem getItem_last {vs' : List Value} {v : Value} {n : Nat} {t : Tok} {Q : Value → Shared → Prop} (N : News h₀ L s.heap news) (hm : (l, listOf (vs' ++ [v]).toArray n) ∈ news) (hz : vs'.length ≤ 5000) (h : Q v s) : wpAny (model prog w) A (getItem (.ref l) (.int (-1) t)) Q E s := by
  have hl : s.heap.IsList l (vs' ++ [v]).toArray := ⟨_, (N _ hm).1, rfl, _, rfl⟩
  refine wpAny_getItem_list_neg hl (by decide) (by simp; omega) (by decide) ?_ h
  have e : ((-1 : Int) + ((vs' ++ [v]).toArray.size : Nat)).toNat = vs'.length := by simp; omega
  rw [e]; simp
end
theorem slice_norm {x : Str} {i j j' : Int} (h : (max 0 (min (if j < 0 then j + x.length else j) (x.length : Int))) = max 0 (min (if j' < 0 then j' + x.length else j') (x.length : Int))) : Txt.slice x (some i) (some j) = Txt.slice x (some i) (some j') := by
  have e : Builtin.Str.strSliceIndices (some i) (some j) 1 x.length = Builtin.Str.strSliceIndices (some i) (some j') 1 x.length := by
    simp only [Builtin.Str.strSliceIndices, show (1 : Int) > 0 by decide, if_true, h]
  unfold Txt.slice
  rw [e]
theorem hs2_ok {x : Str} {l : List Nat} (hx : x = ⟨(l ++ [41, 92, 90]).toArray⟩) : Txt.slice x (some (-3)) none = Str.ofString ")\\Z" := by
  have hl : x.length = l.length + 3 := by rw [hx, len_mk]; simp
  rw [eq_of_beq (slice_closes_from_neg (a := l.length) (b := l.length + 3) (by decide) (by omega) (by omega) (by omega)), hx]
  have e : ((l.length : Int) + 3 - l.length).toNat = 3 := by omega
  rw [e]
  exact str_ext (by simp; decide)
theorem hs3_ok {x : Str} {l : List Nat} (hx : x = ⟨([40, 63, 115, 58] ++ l ++ [41, 92, 90]).toArray⟩) : Txt.slice x (some 4) (some (-3)) = ⟨l.toArray⟩ := by
  have hl : x.length = 4 + l.length + 3 := by rw [hx, len_mk]; simp; omega
  rw [slice_norm (j' := 4 + l.length) (by rw [if_pos (by decide), if_neg (by omega)]; omega), slice_mid ⟨by omega, by omega, by rw [hx]; simp; omega⟩, hx]
  have e : ((4 : Int) + l.length - 4).toNat = l.length := by omega
  rw [e]
  exact str_ext (by simp)
theorem fin_ok {x : Str} {P : List Nat} {i : Int} (hx : x = ⟨(P ++ [46, 42]).toArray⟩) (hi : (P.length : Int) = i) : Txt.slice x (some i) (some (i + 6)) = ⟨#[46, 42]⟩ := by
  have hl : x.length = P.length + 2 := by rw [hx, len_mk]; simp
  rw [slice_norm (j' := i + 2) (by rw [if_neg (by omega), if_neg (by omega)]; omega), slice_mid ⟨by omega, by omega, by rw [hx]; simp; omega⟩, hx]
  have e : (i + 2 - i).toNat = 2 := by omega
  rw [e]
  have e2 : i.toNat = P.length := by omega
  rw [e2]
  exact str_ext (by simp)
end Mine
namespace Mine
-- K10
open PySem PySem.W PyProof.Rows PySem.Spec PySem.Calls
set_option maxHeartbeats 8000000
inductive St | front | behind | group | fin
noncomputable def St.str : St → Str
  | .front => Str.ofString "front"
  | .behind => Str.ofString "behind"
  | .group => Str.ofString "group"
  | .fin => Str.ofString "end"
inductive PTok | opn | el (a : Atom) | cls | fin
noncomputable def Atom.sig : Atom → Str
  | .star => ⟨#[]⟩
  | .ch c => ⟨#[c]⟩
  | .br b => ⟨#[b]⟩
noncomputable def PTok.txt : PTok → List Nat
  | .opn => [40, 63, 62, 46, 42, 63]
  | .el a => a.out.cps.toList
  | .cls => [41]
  | .fin => [46, 42]
noncomputable def okS : St → List PTok → Prop
  | .front, .opn :: r => okS .group r
  | .behind, .opn :: r => okS .group r
  | .group, .el a :: r => (a.ok ∧ a ≠ .star) ∧ okS .group r
  | .group, .cls :: r => okS .behind r
  | .behind, .fin :: r => okS .fin r
  | .fin, [] => True
  | _, _ => False
noncomputable def lastAdd : List Str → Str → List Str
  | [], _ => []
  | [a], x => [a ++ x]
  | a :: b :: r, x => a :: lastAdd (b :: r) x
noncomputable def runP : List Str → List PTok → List Str
  | ss, [] => ss
  | ss, .opn :: r => runP (ss ++ [Str.ofString ""]) r
  | ss, .el a :: r => runP (lastAdd ss a.sig) r
  | ss, .cls :: r => runP ss r
  | ss, .fin :: r => runP (ss ++ [Str.ofString ""]) r
noncomputable def ptxt (r : List PTok) : List Nat := r.flatMap PTok.txt
theorem empty_app (z : Str) : Str.ofString "" ++ z = z := str_ext (by show ((#[] : Array Nat) ++ z.cps).toList = _; simp)
theorem runP_full (X Y : Atom) : runP [Str.ofString ""] [.opn, .el X, .cls, .opn, .el Y, .cls, .fin] = [Str.ofString "", X.sig, Y.sig, Str.ofString ""] := by
  simp [runP, lastAdd, empty_app]
theorem strs4 {vs : List Value} {a b c d : Str} (h : StrsAre vs [a, b, c, d]) : ∃ t0 t1 t2 t3, vs = [.str a t0, .str b t1, .str c t2, .str d t3] := by
  cases h with
  | cons _ t0 h => cases h with
    | cons _ t1 h => cases h with
      | cons _ t2 h => cases h with
        | cons _ t3 h => cases h; exact ⟨t0, t1, t2, t3, rfl⟩
theorem strs_snoc2 {vs : List Value} {ss : List Str} {x : Str} {t : Tok} (h : StrsAre vs ss) : StrsAre (vs ++ [.str x t]) (ss ++ [x]) := by
  induction h with
  | nil => exact .cons _ _ .nil
  | cons y t' h ih => exact .cons _ _ ih
theorem strs_last : ∀ {vs : List Value} {ss : List Str}, StrsAre vs ss → ss ≠ [] → ∀ x : Str, ∃ vs' sl tl, vs = vs' ++ [.str sl tl] ∧ vs'.length + 1 = vs.length ∧ sl ∈ ss ∧ ∀ t, StrsAre (vs' ++ [.str (sl ++ x) t]) (lastAdd ss x)
  | _, _, .nil, h, _ => absurd rfl h
  | _, _, .cons y t .nil, _, x => ⟨[], y, t, rfl, rfl, .head _, fun t' => .cons _ _ .nil⟩
  | _, _, .cons y t (.cons y2 t2 h), _, x => by
    obtain ⟨vs', sl, tl, e, hl, hm, hs⟩ := strs_last (.cons y2 t2 h) (by simp) x
    exact ⟨.str y t :: vs', sl, tl, by rw [e]; rfl, by simp only [List.length_cons] at hl ⊢; omega, .tail _ hm, fun t' => .cons _ _ (hs t')⟩
noncomputable def GoodP (ss : List Str) (n : Nat) : Prop := ss ≠ [] ∧ ss.length ≤ n + 1 ∧ ∀ z ∈ ss, z.length ≤ n
theorem good_one : GoodP [Str.ofString ""] 0 := ⟨by simp, by simp, fun z hz => by rw [List.mem_singleton.mp hz]; decide⟩
theorem good_mono {ss : List Str} {n : Nat} (h : GoodP ss n) : GoodP ss (n + 1) := ⟨h.1, Nat.le_succ_of_le h.2.1, fun z hz => Nat.le_succ_of_le (h.2.2 z hz)⟩
theorem good_add {ss : List Str} {n : Nat} (h : GoodP ss n) : GoodP (ss ++ [Str.ofString ""]) (n + 1) := ⟨by simp, by have := h.2.1; simp; omega, fun z hz => by
  rcases List.mem_append.mp hz with hz | hz
  · exact Nat.le_succ_of_le (h.2.2 z hz)
  · rw [List.mem_singleton.mp hz]; exact Nat.zero_le _⟩
theorem last_len : ∀ (ss : List Str) (x : Str), (lastAdd ss x).length = ss.length
  | [], _ => rfl
  | [_], _ => rfl
  | _ :: b :: r, x => congrArg (· + 1) (last_len (b :: r) x)
theorem last_mem : ∀ (ss : List Str) (x z : Str), z ∈ lastAdd ss x → z ∈ ss ∨ ∃ y ∈ ss, z = y ++ x
  | [], _, _, h => nomatch h
  | [a], x, z, h => .inr ⟨a, .head _, List.mem_singleton.mp h⟩
  | a :: b :: r, x, z, h => by
    rcases List.mem_cons.mp h with rfl | h
    · exact .inl (.head _)
    · rcases last_mem (b :: r) x z h with h | ⟨y, hy, e⟩
      · exact .inl (.tail _ h)
      · exact .inr ⟨y, .tail _ hy, e⟩
theorem good_last {ss : List Str} {n : Nat} {x : Str} (h : GoodP ss n) (hx : x.length = 1) : GoodP (lastAdd ss x) (n + 1) := by
  refine ⟨fun e => h.1 ?_, by rw [last_len]; exact Nat.le_succ_of_le h.2.1, fun z hz => ?_⟩
  · have := last_len ss x
    rw [e] at this
    exact List.length_eq_zero_iff.mp this.symm
  · rcases last_mem ss x z hz with hz | ⟨y, hy, rfl⟩
    · exact Nat.le_succ_of_le (h.2.2 z hz)
    · rw [len_app, hx]; exact Nat.succ_le_succ (h.2.2 y hy)
theorem ptxt_cons (t : PTok) (r : List PTok) : ptxt (t :: r) = t.txt ++ ptxt r := rfl
theorem sl_at {l P M R : List Nat} {x : Str} {i j : Int} (hx : x = ⟨l.toArray⟩) (hl : l = P ++ (M ++ R)) (hP : (P.length : Int) = i) (hj : j = i + M.length) : Txt.slice x (some i) (some j) = ⟨M.toArray⟩ := by
  subst hx hP hj
  have e : l.length = P.length + (M.length + R.length) := by rw [hl]; simp
  rw [slice_mid ⟨by omega, by omega, by show ((P.length : Int) + M.length) ≤ (l.length : Int); omega⟩]
  have e2 : ((P.length : Int) + M.length - P.length).toNat = M.length := by omega
  rw [e2, Int.toNat_natCast]
  show (⟨((l.drop P.length).take M.length).toArray⟩ : Str) = _
  rw [hl, List.drop_left, List.take_left]
theorem ch_at {l P R : List Nat} {x : Str} {c : Nat} {i : Int} (hx : x = ⟨l.toArray⟩) (hl : l = P ++ c :: R) (hP : (P.length : Int) = i) (hz : l.length ≤ 5000) : ChAt x i c := by
  subst hx hP
  have e : l.length = P.length + 1 + R.length := by rw [hl]; simp; omega
  refine ⟨by omega, by rw [len_mk]; omega, by rw [len_mk]; omega, ?_⟩
  rw [Int.toNat_natCast]
  simp [hl]
section
variable {w : World} {p : Program} {loose : List Str} {mean : ExcName → Option Value} {mg mb : Str → Option Value}
theorem lines_K10_0 : True := by
  k_with_none
  k_with "lt" => first | with_reducible assumption | exact And.left (by with_reducible assumption) | exact And.left (And.right (by with_reducible assumption)) | exact And.left (And.right (And.right (by with_reducible assumption))) | exact And.left (And.right (And.right (And.right (by with_reducible assumption)))) | exact And.left (And.right (And.right (And.right (And.right (by with_reducible assumption)))))
  k_with "rl" => with_unfolding_all exact rfl
  k_with "omega" => first | (with_reducible exact om_room ‹_›) | (with_reducible exact om_le ‹_› (by k_extra "rl")) | (with_reducible exact om_ne1 (by k_extra "lt")) | lia
  k_with "k_all" => first | assumption | exact ne_allLt (by first | assumption | exact And.right (by assumption) | exact And.right (And.right (by assumption)) | exact And.right (And.right (And.right (by assumption))))
  k_with "kst_all" => repeat (first | exact names_nil | refine names_cons (by with_unfolding_all exact rfl) ?_)
  k_with "ite" => first | (refine ite_no (by with_reducible assumption) ?_) | (refine ite_yes (by with_reducible assumption) ?_) | (refine ite_no (by decide) ?_) | (refine ite_yes (by decide) ?_)
  k_with "execs cons" => ((try k_gentoks); refine fold_sh ?_; intro _; first | (with_reducible refine exec_one ?_) | ((with_reducible refine execs_seq ?_); k_fold))
  k_with "SeqQ" => first | refine seq_next ?_ | refine seq_ret ?_ | refine seq_brk ?_ | refine seq_cont ?_
  k_with "exec If" => (with_reducible refine exec_if ?_)
  k_with "IfQ" => first | (refine ifq_no (by with_reducible assumption) ?_) | (refine ifq_yes (by with_reducible assumption) ?_) | (refine ifq_no (by decide) ?_) | (refine ifq_yes (by decide) ?_) | dsimp only [IfQ]
  k_with "storeName" => (k_dflt (refine' storeX_F ?Fzq ?Nzq ?_ ?azq ?bzq; (case Fzq => k_asm); (case Nzq => k_asm); (case azq => rfl); (case bzq => rfl); k_whole); intro _ _ _ _; (try k_sweep))
  k_with "exec While" => refine hold ?_
  k_with "WPost" => first | refine wpost_next ?_ | refine wpost_ret ?_ | refine wpost_cont ?_ | refine wpost_brk ?_
  k_with "subscriptTail Name Slice str ref" => ((first | ((with_reducible show wpAny _ _ (subscriptTail _ (Expr.Slice (some _) (some _) none _) _ _) _ _ _); refine sl_ss (s := ⟨_, _, _, _, _⟩) (by with_reducible assumption) (by assumption) (by k_asm) (by k_asm) ?_) | ((with_reducible show wpAny _ _ (subscriptTail _ (Expr.Slice (some _) none none _) _ _) _ _ _); refine sl_sn (s := ⟨_, _, _, _, _⟩) (by with_reducible assumption) (by assumption) (by k_asm) (by k_asm) ?_) | refine sl_ns (s := ⟨_, _, _, _, _⟩) (by with_reducible assumption) (by assumption) (by k_asm) (by k_asm) ?_); intro _ _ _ _ _)
  k_with "compareOp In str ref" => (k_dflt (refine in_two (by k_asm) (by k_mem) ?_))
  k_with "subscriptTail Name Name str int" => (refine str_at (by with_reducible assumption) ?_)
  k_with "getItem ref int" => (k_dflt (refine getItem_last (by k_asm) (by k_mem) (by omega) ?_))
  k_with "setItem" => (k_dflt (refine' setItem_last ?Fzq ?Nzq ?Uzq ?zzq ?_; (case Fzq => k_asm); (case Nzq => k_asm); (case Uzq => k_upd); (case zzq => omega)); intro _ _ _)
  k_with "inplaceOp Add str str" => (refine SB.iadd ?_ (le_sz (by simp only [len_one]; omega)); intro _ _)
  trivial
theorem c_pieces (X Y : Atom) (hX : X.ok) (hY : Y.ok) (hXs : X ≠ .star) (hYs : Y ≠ .star) (tP : Tok) (news : Led) : CtrN 80 400 w p loose mean mg mb (.ref 862) news [.str ⟨(patTxt X.out.cps.toList Y.out.cps.toList).toArray⟩ tP]
   (fun k => ∀ l cap t0 t1 t2 t3, (∀ p ∈ news, p.1 < l) → k (.ref l) ((l, listOf #[.str (Str.ofString "") t0, .str X.sig t1, .str Y.sig t2, .str (Str.ofString "") t3] cap) :: news)) (fun _ => True) := by
  intro dp un gd cn cs a ccd cl outer A₀ base h₀ L m s Q E B F X₀ N T hk hd hu hret _
  dsimp only at hret
  generalize hx : (⟨(patTxt X.out.cps.toList Y.out.cps.toList).toArray⟩ : Str) = x at N F
  have hs1 : Txt.slice x none (some 4) = Str.ofString "(?s:" := by
    rw [slice_to ⟨by decide, by rw [← hx]; simp [patTxt]; omega⟩, ← hx]
    exact str_ext (by simp [patTxt]; decide)
  have hs2 : Txt.slice x (some (-3)) none = Str.ofString ")\\Z" := hs2_ok hx.symm
  obtain ⟨body, hbody⟩ : ∃ body : Str, body = ⟨(ptxt [.opn, .el X, .cls, .opn, .el Y, .cls, .fin]).toArray⟩ := ⟨_, rfl⟩
  have hs3 : Txt.slice x (some 4) (some (-3)) = body := by
    rw [hbody]
    refine hs3_ok (hx.symm.trans ?_)
    simp [patTxt, grp, ptxt, PTok.txt]
  have hol : ∀ z : Atom, z.out.cps.toList.length ≤ 10 := fun z => by cases z <;> simp [Atom.out]; split <;> simp
  have hxl : x.length ≤ 5000 := by
    rw [← hx, len_mk]; have h1 := hol X; have h2 := hol Y; simp [patTxt, grp]; simp at h1 h2; omega
  have hbl : body.length ≤ 5000 := by
    rw [hbody, len_mk]; have h1 := hol X; have h2 := hol Y; simp [ptxt, PTok.txt]; simp at h1 h2; omega
  refine wpAny_call ?_
  k_dflt cell_enter
  refine fold_env ?_
  intro AA en
  k_steps
  unfold Hold
  rename Fr _ _ _ _ => F2
  rename News _ _ _ _ => N2
  rename_i t00 _ _ _ lo _ lL _ _ _ _ _ _ _ _ _ _ _ _ _ _ _
  have hlo : AllLt lo news := allLt_of lL
  refine' w_while (σ := List PTok × St × List PTok × (List Value × Nat) × Tok × Tok) (fun c => (lo, listOf c.2.2.2.1.1.toArray c.2.2.2.1.2) :: news)
    (fun c => [(Str.ofString "body", .str body ?tb), (Str.ofString "pieces", .ref lo), (Str.ofString "stand", .str c.2.1.str c.2.2.2.2.1), (Str.ofString "at", .int ((ptxt c.1).length : Nat) c.2.2.2.2.2)])
    (fun c => [PTok.opn, .el X, .cls, .opn, .el Y, .cls, .fin] = c.1 ++ c.2.2.1 ∧ okS c.2.1 c.2.2.1 ∧ ∃ ss : List Str, StrsAre c.2.2.2.1.1 ss ∧ runP ss c.2.2.1 = runP [Str.ofString ""] [.opn, .el X, .cls, .opn, .el Y, .cls, .fin] ∧ GoodP ss c.1.length) (fun c => c.2.2.1.length)
    ⟨[], .front, [.opn, .el X, .cls, .opn, .el Y, .cls, .fin], ([.str (Str.ofString "") t00], 0), ?ts, ?ta⟩ F2 N2 ?hn ?hk ?hp ?turn
  case hn => exact fun p hp => hp
  case hk => kst_all
  case hp => exact ⟨rfl, ⟨⟨hX, hXs⟩, ⟨hY, hYs⟩, trivial⟩, _, .cons _ _ .nil, rfl, good_one⟩
  case turn =>
    clear F2 N2 hs1 hs2 hs3 lL
    rintro ⟨pre, st, post, ⟨vs, cp⟩, ts, ta⟩ u h9 tk9 ⟨hall, hok, ss, hss, hrun, hgood⟩ F9 N9
    refine fold_wq ?_
    intro q9
    dsimp only at hall hok hss hrun hgood N9
    dsimp only at F9
    generalize hi : (ptxt pre).length = i at F9
    have hbt : ptxt [.opn, .el X, .cls, .opn, .el Y, .cls, .fin] = ptxt pre ++ ptxt post := by rw [hall]; exact List.flatMap_append
    have hi' : ((ptxt pre).length : Int) = i := by rw [hi]
    generalize hT : ptxt [.opn, .el X, .cls, .opn, .el Y, .cls, .fin] = TT at hbt hbody
    have hTl : TT.length ≤ 5000 := by rw [hbody, len_mk] at hbl; exact hbl
    have hbn : body.length = TT.length := by rw [hbody, len_mk]
    cases post with
    | nil =>
      cases st with
      | fin =>
        have hlt : decide ((i : Int) < body.length) = false := by
          rw [hbn, hbt]; simp [ptxt] at *; omega
        k_steps
        rw [runP_full] at hrun
        simp only [runP] at hrun
        subst hrun
        obtain ⟨t0, t1, t2, t3, rfl⟩ := strs4 hss
        exact hret lo cp t0 t1 t2 t3 (fun q hq => lt_allLt hlo _ hq) _ _ (by assumption) (drop1 (by assumption))
      | front => exact hok.elim
      | behind => exact hok.elim
      | group => exact hok.elim
    | cons pt post =>
      have hps : 1 ≤ (ptxt (pt :: post)).length := by
        cases pt with
        | opn => simp [ptxt, PTok.txt]
        | cls => simp [ptxt, PTok.txt]
        | fin => simp [ptxt, PTok.txt]
        | el a =>
          cases a with
          | star => cases st <;> first | exact absurd rfl hok.1.2 | exact hok.elim
          | ch c => simp [ptxt, PTok.txt, Atom.out]
          | br b => simp [ptxt, PTok.txt, Atom.out]; split <;> simp <;> omega
      have hlt : decide ((i : Int) < body.length) = true := by
        refine decide_eq_true ?_
        rw [hbn, hbt, List.length_append, hi]; omega
      have hpl : pre.length ≤ 6 := by
        have := congrArg List.length hall
        simp only [List.length_append, List.length_cons, List.length_nil] at this
        omega
      have hvl : vs.length ≤ 20 := by
        rw [hss.length]; have := hgood.2.1; omega
      rw [ptxt_cons] at hbt
      have hpre : ∀ z : PTok, (ptxt (pre ++ [z])).length = i + z.txt.length := fun z => by
        rw [← hi]; simp [ptxt]
      cases pt with
      | opn =>
        have h6 : Txt.slice body (some (i : Int)) (some ((i : Int) + 6)) = ⟨#[40, 63, 62, 46, 42, 63]⟩ := sl_at hbody hbt hi' rfl
        have he : (i : Int) + 6 = ((ptxt (pre ++ [.opn])).length : Nat) := by rw [hpre]; rfl
        have hin : ([Str.ofString "front", Str.ofString "behind"].any fun x => x == st.str) = true := by cases st <;> first | decide | exact hok.elim
        have hokg : okS .group post := by cases st <;> first | exact hok | exact hok.elim
        k_steps
        rename Fr _ _ _ _ => F8
        rename News _ _ _ _ => N8
        try simp only [List.push_toArray] at N8
        refine' w_end ⟨pre ++ [.opn], .group, post, (vs ++ [_], _), _, _⟩ F8 N8 (fun p hp => by repeat (first | exact hp | apply List.Mem.tail)) ?hk1 ?hp1 ?hm1
        case hk1 =>
          kst_all
          exact names_cons (by rw [← he]; with_unfolding_all exact rfl) names_nil
        case hp1 => exact ⟨by rw [hall, List.append_assoc]; rfl, hokg, _, strs_snoc2 hss, hrun, by rw [List.length_append]; exact good_add hgood⟩
        case hm1 => exact Nat.lt_succ_self _
      | el a =>
        have hin : st = .group := by cases st <;> first | rfl | exact hok.elim
        subst hin
        have hokg : okS .group post := hok.2
        have hoa := hok.1
        obtain ⟨vs', sl, tl, rfl, hvs', hslm, hla⟩ := strs_last hss hgood.1 a.sig
        have hsl : sl.length ≤ 10 := by have := hgood.2.2 sl hslm; omega
        cases a with
        | star => exact absurd rfl hoa.2
        | ch c =>
          have hcc : 128 ≤ c ∨ c = 34 ∨ c = 39 := hoa.1
          have h7 : ChAt body i c := ch_at hbody hbt hi' hTl
          have h8 : Txt.slice body (some ((i : Int) + 0)) (some ((i : Int) + 0 + 1)) = ⟨#[c]⟩ := by rw [Int.add_zero]; exact sl_at hbody hbt hi' rfl
          have he : (i : Int) + 0 + 1 + 0 = ((ptxt (pre ++ [.el (.ch c)])).length : Nat) := by rw [hpre]; simp [PTok.txt, Atom.out]
          have hf : ∀ d : Nat, d = 41 ∨ d = 91 ∨ d = 92 → ((⟨#[c]⟩ : Str) == ⟨#[d]⟩) = false := fun d hd => by rw [one_beq]; exact decide_eq_false (by omega)
          have hf1 : ((⟨#[c]⟩ : Str) == Str.ofString ")") = false := hf 41 (by omega)
          have hf2 : ((⟨#[c]⟩ : Str) == Str.ofString "[") = false := hf 91 (by omega)
          have hf3 : ((⟨#[c]⟩ : Str) == Str.ofString "\\") = false := hf 92 (by omega)
          k_steps
          rename Fr _ _ _ _ => F8
          rename News _ _ _ _ => N8
          refine' w_end ⟨pre ++ [.el (.ch c)], .group, post, (vs' ++ [_], _), _, _⟩ F8 N8 (fun p hp => by repeat (first | exact hp | apply List.Mem.tail)) ?hk1 ?hp1 ?hm1
          case hk1 =>
            kst_all
            exact names_cons (by rw [← he]; with_unfolding_all exact rfl) names_nil
          case hp1 => exact ⟨by rw [hall, List.append_assoc]; rfl, hokg, _, hla _, hrun, by rw [List.length_append]; exact good_last hgood rfl⟩
          case hm1 => exact Nat.lt_succ_self _
        | br b =>
          have hb : b = 42 ∨ b = 63 ∨ b = 91 := hoa.1
          by_cases h91 : b = 91
          · have hbt' : TT = ptxt pre ++ ([91, 92, 91, 93] ++ ptxt post) := by rw [hbt]; simp [PTok.txt, Atom.out, h91]
            have h7 : ChAt body i 91 := ch_at hbody hbt' hi' hTl
            have h8 : Txt.slice body (some ((i : Int) + 1)) (some ((i : Int) + 1 + 1)) = ⟨#[92]⟩ := sl_at (P := ptxt pre ++ [91]) (M := [92]) (R := [91, 93] ++ ptxt post) hbody (by rw [hbt']; simp) (by simp [hi]) rfl
            have h9 : Txt.slice body (some ((i : Int) + 1 + 1)) (some ((i : Int) + 1 + 1 + 1)) = ⟨#[b]⟩ := by subst h91; exact sl_at (P := ptxt pre ++ [91, 92]) (M := [91]) (R := [93] ++ ptxt post) hbody (by rw [hbt']; simp) (by simp [hi]; omega) rfl
            have h10 : Txt.slice body (some ((i : Int) + 1 + 1 + 1)) (some ((i : Int) + 1 + 1 + 1 + 1)) = ⟨#[93]⟩ := sl_at (P := ptxt pre ++ [91, 92, 91]) (M := [93]) (R := ptxt post) hbody (by rw [hbt']; simp) (by simp [hi]; omega) rfl
            have he : (i : Int) + 1 + 1 + 1 + 1 = ((ptxt (pre ++ [.el (.br b)])).length : Nat) := by rw [hpre]; simp [PTok.txt, Atom.out, h91]; omega
            k_steps
            rename Fr _ _ _ _ => F8
            rename News _ _ _ _ => N8
            refine' w_end ⟨pre ++ [.el (.br b)], .group, post, (vs' ++ [_], _), _, _⟩ F8 N8 (fun p hp => by repeat (first | exact hp | apply List.Mem.tail)) ?hk1 ?hp1 ?hm1
            case hk1 =>
              kst_all
              exact names_cons (by rw [← he]; with_unfolding_all exact rfl) names_nil
            case hp1 => exact ⟨by rw [hall, List.append_assoc]; rfl, hokg, _, hla _, hrun, by rw [List.length_append]; exact good_last hgood rfl⟩
            case hm1 => exact Nat.lt_succ_self _
          · have hb' : b = 42 ∨ b = 63 := by omega
            have hbt' : TT = ptxt pre ++ ([91, b, 93] ++ ptxt post) := by rw [hbt]; simp [PTok.txt, Atom.out, h91]
            have h7 : ChAt body i 91 := ch_at hbody hbt' hi' hTl
            have h8 : Txt.slice body (some ((i : Int) + 1)) (some ((i : Int) + 1 + 1)) = ⟨#[b]⟩ := sl_at (P := ptxt pre ++ [91]) (M := [b]) (R := [93] ++ ptxt post) hbody (by rw [hbt']; simp) (by simp [hi]) rfl
            have h9 : Txt.slice body (some ((i : Int) + 1 + 1)) (some ((i : Int) + 1 + 1 + 1)) = ⟨#[93]⟩ := sl_at (P := ptxt pre ++ [91, b]) (M := [93]) (R := ptxt post) hbody (by rw [hbt']; simp) (by simp [hi]; omega) rfl
            have hf3 : ((⟨#[b]⟩ : Str) == Str.ofString "\\") = false := by rcases hb' with rfl | rfl <;> decide
            have he : (i : Int) + 1 + 1 + 1 = ((ptxt (pre ++ [.el (.br b)])).length : Nat) := by rw [hpre]; simp [PTok.txt, Atom.out, h91]; omega
            k_steps
            rename Fr _ _ _ _ => F8
            rename News _ _ _ _ => N8
            refine' w_end ⟨pre ++ [.el (.br b)], .group, post, (vs' ++ [_], _), _, _⟩ F8 N8 (fun p hp => by repeat (first | exact hp | apply List.Mem.tail)) ?hk1 ?hp1 ?hm1
            case hk1 =>
              kst_all
              exact names_cons (by rw [← he]; with_unfolding_all exact rfl) names_nil
            case hp1 => exact ⟨by rw [hall, List.append_assoc]; rfl, hokg, _, hla _, hrun, by rw [List.length_append]; exact good_last hgood rfl⟩
            case hm1 => exact Nat.lt_succ_self _
      | cls =>
        have h7 : ChAt body i 41 := ch_at hbody hbt hi' hTl
        have he : (i : Int) + 1 = ((ptxt (pre ++ [.cls])).length : Nat) := by rw [hpre]; rfl
        have hin : st = .group := by cases st <;> first | rfl | exact hok.elim
        subst hin
        have hokg : okS .behind post := hok
        k_steps
        rename Fr _ _ _ _ => F8
        rename News _ _ _ _ => N8
        try simp only [List.push_toArray] at N8
        refine' w_end ⟨pre ++ [.cls], .behind, post, (vs, _), _, _⟩ F8 N8 (fun p hp => by repeat (first | exact hp | apply List.Mem.tail)) ?hk1 ?hp1 ?hm1
        case hk1 =>
          kst_all
          exact names_cons (by rw [← he]; with_unfolding_all exact rfl) names_nil
        case hp1 => exact ⟨by rw [hall, List.append_assoc]; rfl, hokg, _, hss, hrun, by rw [List.length_append]; exact good_mono hgood⟩
        case hm1 => exact Nat.lt_succ_self _
      | fin =>
        have h6 : Txt.slice body (some (i : Int)) (some ((i : Int) + 6)) = ⟨#[46, 42]⟩ := by
          have hpn : post = [] := by cases post with
            | nil => rfl
            | cons z zs => cases st <;> exact hok.elim
          subst hpn
          exact fin_ok (P := ptxt pre) (by rw [hbody, hbt]; simp [PTok.txt, ptxt]) hi'
        have h7 : Txt.slice body (some (i : Int)) (some ((i : Int) + 2)) = ⟨#[46, 42]⟩ := sl_at hbody hbt hi' rfl
        have he : (i : Int) + 2 = ((ptxt (pre ++ [.fin])).length : Nat) := by rw [hpre]; rfl
        have hin : st = .behind := by cases st <;> first | rfl | exact hok.elim
        subst hin
        have hokg : okS .fin post := hok
        k_steps
        rename Fr _ _ _ _ => F8
        rename News _ _ _ _ => N8
        try simp only [List.push_toArray] at N8
        refine' w_end ⟨pre ++ [.fin], .fin, post, (vs ++ [_], _), _, _⟩ F8 N8 (fun p hp => by repeat (first | exact hp | apply List.Mem.tail)) ?hk1 ?hp1 ?hm1
        case hk1 =>
          kst_all
          exact names_cons (by rw [← he]; with_unfolding_all exact rfl) names_nil
        case hp1 => exact ⟨by rw [hall, List.append_assoc]; rfl, hokg, _, strs_snoc2 hss, hrun, by rw [List.length_append]; exact good_add hgood⟩
        case hm1 => exact Nat.lt_succ_self _
end
end Mine
namespace Mine
-- Obj
open PySem PySem.W PyProof.Rows PySem.Spec PySem.Calls
set_option maxHeartbeats 0
theorem mro_object : mroOf (.type "object") = pure [.type "object"] := by kernel_rfl
theorem look_new : typeLookup (.type "object") "__new__" = pure (some (.builtin "object.__new__")) := by rw [typeLookup_type, builtinLookup_eq_fast]; kernel_rfl
theorem called_object : TypeCalled "object" "object.__new__" "object.__init__" :=
  ⟨by decide +kernel, by decide +kernel, ⟨_, _, mro_object⟩, madeBy_type mro_object look_new (by decide +kernel), by decide +kernel, by rw [isSubtype_type]; kernel_rfl, F.slot_object_init⟩
theorem new_meets : Meets (Builtin.«object.__new__» ⟨[.type "object"], []⟩) (fun A R s => R (.ok (.ret (.ref s.heap.objs.size))) { s with heap := s.heap.push ⟨.type "object", none, .plain, #[]⟩ }) :=
  Meets.of_wp fun prog w A R s hs => by
    obtain ⟨hp, g, d, tk, os⟩ := s
    have h1 := called_object.made
    have h2 := called_object.sub
    unfold Builtin.«object.__new__»
    repeat (any_goals (first | assumption | wp_step))
    exact ⟨_, rfl, hs⟩
section
variable {prog : Program} {w : World} {A : Around} {E : Value → Shared → Prop} {s : Shared} {h₀ : Heap} {L : Addr} {m : Str → Option Value} {news : Led} {Q : Value → Shared → Prop}
theorem object_init0 (self : Value) : Meets (Builtin.«object.__init__» ⟨[self], []⟩) (fun _ R s => R (.ok (.ret .none)) s) :=
  Meets.of_wp fun prog w A R s hs => wpAny_pure ⟨_, rfl, hs⟩
theorem call_object (h : Q (.ref s.heap.objs.size) { s with heap := s.heap.push ⟨.type "object", none, .plain, #[]⟩ }) : wpAny (model prog w) A (call (.type "object") []) Q E s :=
  callType_meetsIn (Q₁ := fun obj s₁ => s₁.TypeIs obj "object" ∧ Q obj s₁) called_object (by kernel_rfl) (by kernel_rfl) (entryFor_of_tree (by kernel_rfl)) F.entry_object_init (new_meets.inModel prog w) ⟨⟨_, Heap.get?_push_size _ rfl, rfl⟩, h⟩ fun obj s₁ hq =>
    ⟨hq.1, F.args_object_init_1 obj, _, object_init0 obj, rfl, hq.2⟩
theorem object_K (F : Fr h₀ L s.heap m) (N : News h₀ L s.heap news) (h : ∀ l h', Fr h₀ L h' m → News h₀ L h' ((l, ⟨.type "object", none, .plain, #[]⟩) :: news) → (∀ p ∈ news, p.1 < l) → Q (.ref l) { s with heap := h' }) : wpAny (model prog w) A (call (.type "object") []) Q E s := by
  refine call_object (h _ _ (F.push _) (News.push F N _) fun p hp => Heap.lt_size (N p hp).1)
end
end Mine
namespace Mine
-- K13
open PySem PySem.W PyProof.Rows PySem.Spec PySem.Calls
set_option maxHeartbeats 8000000
theorem atoms5 {S : Addr} {X Y : Atom} (hX : X ≠ .star) (hY : Y ≠ .star) {vs : List Value} (h : AtomsAre S vs [.star, X, .star, Y, .star]) : ∃ t t', vs = [.ref S, .str X.out t, .ref S, .str Y.out t', .ref S] := by
  have inv : ∀ {vs : List Value} {as : List Atom} {z : Atom}, AtomsAre S vs (as ++ [z]) → ∃ vs' v, vs = vs' ++ [v] ∧ AtomsAre S vs' as ∧ ((z = .star ∧ v = .ref S) ∨ ∃ t, z ≠ .star ∧ v = .str z.out t) := by
    intro vs as z h
    generalize hg : as ++ [z] = l at h
    cases h with
    | nil => simp at hg
    | star h => obtain ⟨rfl, rfl⟩ := List.append_inj' hg rfl |>.imp id (fun e => (List.cons.inj e).1); exact ⟨_, _, rfl, h, .inl ⟨rfl, rfl⟩⟩
    | ch c t h => obtain ⟨rfl, rfl⟩ := List.append_inj' hg rfl |>.imp id (fun e => (List.cons.inj e).1); exact ⟨_, _, rfl, h, .inr ⟨t, by simp, rfl⟩⟩
    | br b t h => obtain ⟨rfl, rfl⟩ := List.append_inj' hg rfl |>.imp id (fun e => (List.cons.inj e).1); exact ⟨_, _, rfl, h, .inr ⟨t, by simp, rfl⟩⟩
  obtain ⟨v4, a4, rfl, h4, h5⟩ := inv (as := [.star, X, .star, Y]) h
  obtain ⟨v3, a3, rfl, h3, h6⟩ := inv (as := [.star, X, .star]) h4
  obtain ⟨v2, a2, rfl, h2, h7⟩ := inv (as := [.star, X]) h3
  obtain ⟨v1, a1, rfl, h1, h8⟩ := inv (as := [.star]) h2
  obtain ⟨v0, a0, rfl, h0, h9⟩ := inv (as := []) h1
  have e0 : v0 = [] := List.length_eq_zero_iff.mp h0.len
  subst e0
  rcases h5 with ⟨_, rfl⟩ | ⟨t, hn, _⟩
  · rcases h6 with ⟨hn, _⟩ | ⟨t6, _, rfl⟩
    · exact absurd hn hY
    rcases h7 with ⟨_, rfl⟩ | ⟨t, hn, _⟩
    · rcases h8 with ⟨hn, _⟩ | ⟨t8, _, rfl⟩
      · exact absurd hn hX
      rcases h9 with ⟨_, rfl⟩ | ⟨t, hn, _⟩
      · exact ⟨t8, t6, rfl⟩
      · exact absurd rfl hn
    · exact absurd rfl hn
  · exact absurd rfl hn
section
variable {w : World} {p : Program} {loose : List Str} {mean : ExcName → Option Value} {mg mb : Str → Option Value}
theorem lines_K13_0 : True := by
  k_with_none
  k_with "lt" => first | with_reducible assumption | exact And.left (by with_reducible assumption) | exact And.left (And.right (by with_reducible assumption)) | exact And.left (And.right (And.right (by with_reducible assumption))) | exact And.left (And.right (And.right (And.right (by with_reducible assumption)))) | exact And.left (And.right (And.right (And.right (And.right (by with_reducible assumption)))))
  k_with "rl" => with_unfolding_all exact rfl
  k_with "omega" => first | (with_reducible exact om_room ‹_›) | (with_reducible exact om_le ‹_› (by k_extra "rl")) | (with_reducible exact om_ne1 (by k_extra "lt")) | lia
  k_with "k_all" => first | assumption | exact ne_allLt (by first | assumption | exact And.right (by assumption) | exact And.right (And.right (by assumption)) | exact And.right (And.right (And.right (by assumption))))
  k_with "execs cons" => ((try k_gentoks); refine fold_sh ?_; intro _; first | (with_reducible refine exec_one ?_) | ((with_reducible refine execs_seq ?_); k_fold))
  k_with "SeqQ" => first | refine seq_next ?_ | refine seq_ret ?_ | refine seq_brk ?_ | refine seq_cont ?_
  k_with "storeName" => (k_dflt (refine' storeX_F ?Fzq ?Nzq ?_ ?azq ?bzq; (case Fzq => k_asm); (case Nzq => k_asm); (case azq => rfl); (case bzq => rfl); k_whole); intro _ _ _ _; (try k_sweep))
  k_with "call type:object" => (k_dflt (refine' object_K ?Fzq ?Nzq ?_; (case Fzq => k_asm); (case Nzq => k_asm); k_whole); intro _ _ _ _ _)
  k_with "call ref" => refine hold ?_
  trivial
theorem c_translate (X Y : Atom) (hX : X.ok) (hY : Y.ok) (hXs : X ≠ .star) (hYs : Y ≠ .star) (ps : Array Value) (tP : Tok) (news : Led) (htab : TabOk 108 46 ps) (h121 : ∀ p ∈ news, p.1 ≠ 121) : CtrN 120 600 w p loose mean mg mb (.ref 107) ((121, tabObj ps) :: news) [.str ⟨(txtOf [.star, X, .star, Y, .star]).toArray⟩ tP]
   (fun k => ∀ t ps', TabOk 108 46 ps' → k (.str ⟨(patTxt X.out.cps.toList Y.out.cps.toList).toArray⟩ t) ((121, tabObj ps') :: news)) (fun _ => True) := by
  intro dp un gd cn cs a ccd cl outer A₀ base h₀ L m s Q E B F X₀ N T hk hd hu hret _
  dsimp only at hret
  refine wpAny_call ?_
  k_dflt cell_enter
  refine fold_env ?_
  intro AA en
  k_steps
  unfold Hold
  rename News _ _ _ _ => N2
  have hS := (by assumption : ∀ p ∈ (121, tabObj ps) :: news, p.1 < _)
  refine' c_xlate [.star, X, .star, Y, .star] ?hok ?hno ?hlen ?hal _ ps _ _ _ htab ?h121 _ _ _ _ _ _ _ _ _ _ _ _ _ _ _ _ _ ?k1 ?k2 ?k3 (swap2 N2) ?k5 ?kK ?kd ?ku ?kR trivial
  case hok => 
    intro z hz
    simp only [List.mem_cons, List.not_mem_nil, or_false] at hz
    rcases hz with rfl | rfl | rfl | rfl | rfl <;> first | exact trivial | assumption
  case hno =>
    cases X <;> cases Y <;> first | exact trivial | exact absurd rfl hXs | exact absurd rfl hYs
  case hlen => cases X <;> cases Y <;> simp [txtOf, Atom.txt]
  case hal => simp
  case h121 =>
    intro q hq
    rcases List.mem_cons.mp hq with rfl | hq
    · exact Nat.ne_of_gt (hS _ (.head _))
    · exact h121 q hq
  case k1 => k_asm
  case k2 => k_asm
  case k3 => k_asm
  case k5 => k_asm
  case kK => exact rfl
  case kd => ktr_room
  case ku => ktr_units
  intro l vs cap ps' hvs hps' hl h9 tk9 F9 N9
  obtain ⟨t8, t6, rfl⟩ := atoms5 hXs hYs hvs
  clear N2
  k_steps
  unfold Hold
  have eX : ∀ z : Str, z = ⟨z.cps.toList.toArray⟩ := fun z => by cases z; simp
  have hlX : ∀ z : Atom, z.out.cps.toList.length ≤ 10 := fun z => by cases z <;> simp [Atom.out]; split <;> simp
  rename News _ _ _ _ => N3
  rw [eX X.out, eX Y.out] at N3
  refine' c_joinT _ l cap X.out.cps.toList Y.out.cps.toList 0 t8 t6 (hlX X) (hlX Y) _ _ _ _ _ _ _ _ _ _ _ _ _ _ _ _ _ _ ?j1 ?j2 ?j3 N3 ?j5 ?jK ?jd ?ju ?jR trivial
  case j1 => k_asm
  case j2 => k_asm
  case j3 => k_asm
  case j5 => k_asm
  case jK => exact rfl
  case jd => ktr_room
  case ju => ktr_units
  intro t h8 tk8 F8 N8
  k_steps
  exact hret t ps' hps' _ _ (by assumption) (fun q hq => (by assumption : News _ _ _ _) q (by rcases List.mem_cons.mp hq with rfl | hq <;> repeat (first | exact List.Mem.head _ | exact hq | apply List.Mem.tail)))
end
end Mine
namespace Mine
-- LwG
open PySem PySem.W PyProof.Rows PySem.Spec PySem.Calls
set_option maxHeartbeats 8000000
noncomputable def atomOf (c : Nat) : Atom := if c = 42 ∨ c = 63 ∨ c = 91 then .br c else .ch c
theorem atomOf_txt (c : Nat) : (atomOf c).txt = (barred c).cps.toList := by
  unfold atomOf barred
  split <;> rfl
theorem atomOf_star (c : Nat) : atomOf c ≠ .star := by
  unfold atomOf
  split <;> intro h <;> cases h
theorem atomOf_sig (c : Nat) : (atomOf c).sig = ⟨#[c]⟩ := by
  unfold atomOf
  split <;> rfl
noncomputable def okSign (c : Nat) : Prop := 128 ≤ c ∨ c = 34 ∨ c = 39 ∨ c = 42 ∨ c = 63 ∨ c = 91
theorem atomOf_ok {c : Nat} (h : okSign c) : (atomOf c).ok := by
  unfold atomOf okSign at *
  by_cases h2 : c = 42 ∨ c = 63 ∨ c = 91
  · rw [if_pos h2]; exact h2
  · rw [if_neg h2]
    show 128 ≤ c ∨ c = 34 ∨ c = 39
    omega
theorem app_list (x y : Str) : (x ++ y).cps.toList = x.cps.toList ++ y.cps.toList := Array.toList_append
theorem pat_eq (c d : Nat) : Str.ofString "*" ++ barred c ++ Str.ofString "*" ++ barred d ++ Str.ofString "*" = ⟨(txtOf [.star, atomOf c, .star, atomOf d, .star]).toArray⟩ := by
  apply str_ext
  rw [app_list, app_list, app_list, app_list, ← atomOf_txt, ← atomOf_txt]
  have e : (Str.ofString "*").cps.toList = [42] := rfl
  rw [e]
  simp [txtOf, Atom.txt]
theorem barred_len (c : Nat) : (barred c).length ≤ 3 := by
  unfold barred
  split
  · exact Nat.le_refl _
  · exact Nat.le_of_ble_eq_true rfl
section
variable {w : World} {p : Program} {loose : List Str} {mean : ExcName → Option Value} {mg mb : Str → Option Value}
variable {dp un : Nat} {gd : Option (List Code)} {cn : Str} {a : Addr} {ccd : Value} {cP cM cK cZ cS : Addr} {outer : List Env} {A₀ : Around} {base h₀ : Heap} {L : Addr} {s : Shared} {Q : Flow → Shared → Prop} {E : Value → Shared → Prop} {m : Str → Option Value}
theorem lines_LwG_0 : True := by
  k_with_none
  k_with "lt" => first | with_reducible assumption | exact And.left (by with_reducible assumption) | exact And.left (And.right (by with_reducible assumption)) | exact And.left (And.right (And.right (by with_reducible assumption))) | exact And.left (And.right (And.right (And.right (by with_reducible assumption)))) | exact And.left (And.right (And.right (And.right (And.right (by with_reducible assumption)))))
  k_with "rl" => with_unfolding_all exact rfl
  k_with "omega" => first | (with_reducible exact om_room ‹_›) | (with_reducible exact om_le ‹_› (by k_extra "rl")) | (with_reducible exact om_ne1 (by k_extra "lt")) | lia
  k_with "subscriptTail Name Slice ref ref" => refine hold ?_
  k_with "call builtin:len" => refine hold ?_
  k_with "call builtin:min" => refine hold ?_
  k_with "call ref" => refine hold ?_
  k_with "binaryOp Add ref ref" => refine hold ?_
  k_with "eval Name" => (k_here; k_dflt (refine' nameX_L ?Fzq ?vzq ?_ ?azq ?bzq; (case Fzq => k_asm); (case azq => rfl); (case bzq => rfl); (case vzq => first | assumption | with_unfolding_all assumption); k_whole))
  k_with "binaryOp Add str str" => refine hold ?_
  k_with "subscriptTail" => refine hold ?_
  k_with "storeName" => (k_dflt (refine' storeX_F ?Fzq ?Nzq ?_ ?azq ?bzq; (case Fzq => k_asm); (case Nzq => k_asm); (case azq => rfl); (case bzq => rfl); k_whole); intro _ _ _ _; (try k_sweep))
  trivial
theorem pu0 {SG : Addr} {ss : List Value} {sgs : List Str} {c3 hi lo ch cl : Nat} {oS : Obj} {rest : Led} {th tl : Tok} (B : Below A₀ base outer h₀) (X : (KF w.params).In h₀) (T : Top p loose mean mg mb h₀) (hd : dp + 500 < recursionLimit) (hu : un + 2500 < cLine) (F : Fr h₀ L s.heap m)
    (N : News h₀ L s.heap ((SG, listOf ss.toArray c3) :: (cS, oS) :: rest)) (m3 : m (Str.ofString "high") = some (.int hi th)) (m4 : m (Str.ofString "low") = some (.int lo tl)) (hoS : oS.data = .cell (some (.ref SG)))
    (hs : StrsAre ss sgs) (hsg5 : sgs.length ≤ 5) (h1 : sgs[hi]? = some ⟨#[ch]⟩) (h2 : sgs[lo]? = some ⟨#[cl]⟩)
    (hQ : ∀ h' tk' t, Fr h₀ L h' (fun y => if y = Str.ofString "pattern" then some (.str ⟨(txtOf [.star, atomOf ch, .star, atomOf cl, .star]).toArray⟩ t) else m y) → News h₀ L h' ((SG, listOf ss.toArray c3) :: (cS, oS) :: rest) → Q .next { s with heap := h', toks := tk' }) :
    wpAny (model pw w) (ktrTop dp un gd cn fs49.1 L a ccd (lawCl cP cM cK cZ cS) outer) (exec lu0.1 (envX cn fs49.1 L a ccd (lawCl cP cM cK cZ cS))) Q E s := by
  refine fold_st ?_
  intro AA en
  obtain ⟨t1, hv1⟩ := hs.get hi _ h1
  obtain ⟨t2, hv2⟩ := hs.get lo _ h2
  have hb1 := barred_len ch
  have hb2 := barred_len cl
  have hst : (Str.ofString "*").length = 1 := rfl
  have hi5 : hi < 5 := Nat.lt_of_lt_of_le (List.getElem?_eq_some_iff.mp h1).1 hsg5
  have lo5 : lo < 5 := Nat.lt_of_lt_of_le (List.getElem?_eq_some_iff.mp h2).1 hsg5
  k_steps
  unfold Hold
  refine item_L N (.head _) (by omega) (by omega) (by rw [Int.toNat_natCast]; exact hv1) ?_
  k_steps
  unfold Hold
  refine' c_barred ch t1 _ _ _ _ _ _ _ _ _ _ _ _ _ _ _ _ _ _ ?k1 ?k2 ?k3 N ?k5 ?kK ?kd ?ku ?kR trivial
  case k1 => k_asm
  case k2 => k_asm
  case k3 => k_asm
  case k5 => k_asm
  case kK => exact rfl
  case kd => ktr_room
  case ku => ktr_units
  case kR =>
    intro tb1 h1' tk1 F1 N1
    k_steps
    unfold Hold
    refine PyProof.Rows.add_str ?_ (le_sz (by (try simp only [len_app]); omega))
    intro _ _
    k_steps
    unfold Hold
    refine PyProof.Rows.add_str ?_ (le_sz (by (try simp only [len_app]); omega))
    intro _ _
    k_steps
    unfold Hold
    refine item_L N1 (.head _) (by omega) (by omega) (by rw [Int.toNat_natCast]; exact hv2) ?_
    k_steps
    unfold Hold
    refine' c_barred cl t2 _ _ _ _ _ _ _ _ _ _ _ _ _ _ _ _ _ _ ?k1 ?k2 ?k3 N1 ?k5 ?kK ?kd ?ku ?kR trivial
    case k1 => k_asm
    case k2 => k_asm
    case k3 => k_asm
    case k5 => k_asm
    case kK => exact rfl
    case kd => ktr_room
    case ku => ktr_units
    case kR =>
      intro tb2 h2' tk2 F2 N2
      k_steps
      unfold Hold
      refine PyProof.Rows.add_str ?_ (le_sz (by (try simp only [len_app]); omega))
      intro _ _
      k_steps
      unfold Hold
      refine PyProof.Rows.add_str ?_ (le_sz (by (try simp only [len_app]); omega))
      intro _ _
      k_steps
      rename_i t9 k9 h9 m9 F9 N9
      have he := pat_eq ch cl
      refine hQ h9 _ t9 ?_ N9
      rw [← he]
      exact F9
theorem pu1 {ps : Array Value} {c3 ch cl : Nat} {rest : Led} {tp : Tok} (B : Below A₀ base outer h₀) (X : (KF w.params).In h₀) (T : Top p loose mean mg mb h₀) (hd : dp + 500 < recursionLimit) (hu : un + 2500 < cLine) (F : Fr h₀ L s.heap m)
    (N : News h₀ L s.heap ((121, tabObj ps) :: rest)) (htab : TabOk 108 46 ps) (h121 : ∀ p ∈ rest, p.1 ≠ 121) (m3 : m (Str.ofString "pattern") = some (.str ⟨(txtOf [.star, atomOf ch, .star, atomOf cl, .star]).toArray⟩ tp)) (h1 : okSign ch) (h2 : okSign cl)
    (hQ : ∀ PC ps' cap t0 t1 t2 t3 h' tk', TabOk 108 46 ps' → (∀ q ∈ (121, tabObj ps') :: rest, q.1 < PC) → Fr h₀ L h' (fun y => if y = Str.ofString "pieces" then some (.ref PC) else m y) → News h₀ L h' ((PC, listOf #[.str (Str.ofString "") t0, .str ⟨#[ch]⟩ t1, .str ⟨#[cl]⟩ t2, .str (Str.ofString "") t3] cap) :: (121, tabObj ps') :: rest) → Q .next { s with heap := h', toks := tk' }) :
    wpAny (model pw w) (ktrTop dp un gd cn fs49.1 L a ccd (lawCl cP cM cK cZ cS) outer) (exec lu1.1 (envX cn fs49.1 L a ccd (lawCl cP cM cK cZ cS))) Q E s := by
  refine fold_st ?_
  intro AA en
  k_steps
  unfold Hold
  refine' c_translate (atomOf ch) (atomOf cl) (atomOf_ok h1) (atomOf_ok h2) (atomOf_star _) (atomOf_star _) ps tp rest htab h121 _ _ _ _ _ _ _ _ _ _ _ _ _ _ _ _ _ ?k1 ?k2 ?k3 N ?k5 ?kK ?kd ?ku ?kR trivial
  case k1 => k_asm
  case k2 => k_asm
  case k3 => k_asm
  case k5 => k_asm
  case kK => exact rfl
  case kd => ktr_room
  case ku => ktr_units
  case kR =>
    intro t1 ps' hps h1' tk1 F1 N1
    k_steps
    unfold Hold
    refine' c_pieces (atomOf ch) (atomOf cl) (atomOf_ok h1) (atomOf_ok h2) (atomOf_star _) (atomOf_star _) t1 _ _ _ _ _ _ _ _ _ _ _ _ _ _ _ _ _ _ ?k1 ?k2 ?k3 N1 ?k5 ?kK ?kd ?ku ?kR trivial
    case k1 => k_asm
    case k2 => k_asm
    case k3 => k_asm
    case k5 => k_asm
    case kK => exact rfl
    case kd => ktr_room
    case ku => ktr_units
    case kR =>
      intro PC cap ta tb tc td lp h2' tk2 F2 N2
      rw [atomOf_sig, atomOf_sig] at N2
      k_steps
      exact hQ PC ps' cap ta tb tc td _ _ hps lp (by assumption) (by assumption)
end
end Mine
namespace Mine
-- LwP
open PySem PySem.W PyProof.Rows PySem.Spec PySem.Calls
theorem lines_LwP_0 : True := by
  k_with_none
  k_with "lt" => first | with_reducible assumption | exact And.left (by with_reducible assumption) | exact And.left (And.right (by with_reducible assumption)) | exact And.left (And.right (And.right (by with_reducible assumption))) | exact And.left (And.right (And.right (And.right (by with_reducible assumption)))) | exact And.left (And.right (And.right (And.right (And.right (by with_reducible assumption)))))
  k_with "rl" => with_unfolding_all exact rfl
  k_with "omega" => first | (with_reducible exact om_room ‹_›) | (with_reducible exact om_le ‹_› (by k_extra "rl")) | (with_reducible exact om_ne1 (by k_extra "lt")) | lia
  trivial
section
variable {os : List Nat} {c : Nat → Nat}
theorem nm_get (v : Nat) (hv : v < os.length) : (⟨(os.map c).toArray⟩ : Str).cps.getD v 0 = c os[v] := by
  simp [Array.getD, hv]
theorem nm_len : (⟨(os.map c).toArray⟩ : Str).length = os.length := by simp [PySem.Str.length]
theorem idx_of_sign (inj : ∀ a ∈ os, ∀ b ∈ os, c a = c b → a = b) (nd : os.Nodup) {k v : Nat} (hk : k ∈ os) (hv : v < os.length) (h : (⟨(os.map c).toArray⟩ : Str).cps.getD v 0 = c k) : os.idxOf k = v := by
  rw [nm_get v hv] at h
  have := inj _ (List.getElem_mem hv) _ hk h
  rw [← this]
  exact nd.idxOf_getElem v hv
theorem sign_at {k : Nat} (hk : k ∈ os) : os.idxOf k < os.length ∧ (⟨(os.map c).toArray⟩ : Str).cps.getD (os.idxOf k) 0 = c k := by
  have h := List.idxOf_lt_length_iff.mpr hk
  exact ⟨h, by rw [nm_get _ h, List.getElem_idxOf h]⟩
theorem takes_eq (inj : ∀ a ∈ os, ∀ b ∈ os, c a = c b → a = b) (nd : os.Nodup) {hi lo : Nat} (h1 : hi ∈ os) (h2 : lo ∈ os) :
    decide (0 ≤ Txt.find3 ⟨(os.map c).toArray⟩ ⟨#[c hi]⟩ 0 ∧ 0 ≤ Txt.find3 ⟨(os.map c).toArray⟩ ⟨#[c lo]⟩ (Txt.find3 ⟨(os.map c).toArray⟩ ⟨#[c hi]⟩ 0 + 1)) = decide (os.idxOf hi < os.idxOf lo) := by
  have e1 : Txt.find3 ⟨(os.map c).toArray⟩ ⟨#[c hi]⟩ 0 = (os.idxOf hi : Int) := by
    rcases StrLaws.find3_spec ⟨(os.map c).toArray⟩ (c hi) 0 with ⟨_, h⟩ | ⟨k, e, _, hk, hc, _⟩
    · have ⟨a, b⟩ := sign_at (c := c) h1
      exact absurd b (h _ (Nat.zero_le _) (by rw [nm_len]; exact a))
    · rw [e, idx_of_sign inj nd h1 (by rwa [nm_len] at hk) hc]
  rw [e1]
  have hlt := (sign_at (c := c) h1).1
  have hf : PySem.fromIndex (⟨(os.map c).toArray⟩ : Str).length ((os.idxOf hi : Int) + 1) = os.idxOf hi + 1 := by
    rw [nm_len]
    show (max (0 : Int) (if ((os.idxOf hi : Int) + 1) < 0 then _ else ((os.idxOf hi : Int) + 1))).toNat = _
    rw [if_neg (by omega)]
    omega
  apply decide_eq_decide.mpr
  rcases StrLaws.find3_spec ⟨(os.map c).toArray⟩ (c lo) ((os.idxOf hi : Int) + 1) with ⟨e, h⟩ | ⟨k, e, hk0, hk, hc, _⟩
  · rw [e]
    constructor
    · intro ⟨_, q⟩; omega
    · intro q
      have ⟨a, b⟩ := sign_at (c := c) h2
      exact absurd b (h _ (by rw [hf]; exact q) (by rw [nm_len]; exact a))
  · rw [e, idx_of_sign inj nd h2 (by rwa [nm_len] at hk) hc]
    rw [hf] at hk0
    constructor
    · intro _; exact hk0
    · intro _; exact ⟨Int.natCast_nonneg _, Int.natCast_nonneg _⟩
end
end Mine
namespace Mine
-- LwH
open PySem PySem.W PyProof.Rows PySem.Spec PySem.Calls
set_option maxHeartbeats 8000000
@[reducible] noncomputable def lu2 : {b : Stmt // stAt lB2 2 = b} := by refine' ⟨_, _⟩; rotate_left; conv => lhs; whnf
noncomputable def hit (os : List Nat) (hi lo : Nat) : Nat := if os.idxOf hi < os.idxOf lo then 1 else 0
noncomputable def marksS (k : Nat) : Str := ⟨(List.replicate k 34).toArray⟩
theorem join_signs (c : Nat → Nat) : ∀ os : List Nat, Txt.join (Str.ofString "") (os.map fun k => (⟨#[c k]⟩ : Str)) = ⟨(os.map c).toArray⟩ := by
  have e0 : Str.ofString "" = ⟨#[]⟩ := rfl
  have e1 : ∀ l, Txt.join (Str.ofString "") l = PySem.Str.join ⟨#[]⟩ l := fun l => by rw [e0]; exact StrLaws.glued_eq_join _ l
  intro os
  rw [e1]
  induction os with
  | nil => rfl
  | cons o r ih =>
    rw [List.map_cons, join_nil_cons, ih]
    apply str_ext
    rw [app_list]
    simp
section
variable {w : World} {p : Program} {loose : List Str} {mean : ExcName → Option Value} {mg mb : Str → Option Value}
variable {dp un : Nat} {gd : Option (List Code)} {cn : Str} {a : Addr} {ccd : Value} {cP cM cK cZ cS : Addr} {outer : List Env} {A₀ : Around} {base h₀ : Heap} {L : Addr} {s : Shared} {Q : Flow → Shared → Prop} {E : Value → Shared → Prop} {m : Str → Option Value}
theorem lines_LwH_0 : True := by
  k_with_none
  k_with "lt" => first | with_reducible assumption | exact And.left (by with_reducible assumption) | exact And.left (And.right (by with_reducible assumption)) | exact And.left (And.right (And.right (by with_reducible assumption))) | exact And.left (And.right (And.right (And.right (by with_reducible assumption)))) | exact And.left (And.right (And.right (And.right (And.right (by with_reducible assumption)))))
  k_with "rl" => with_unfolding_all exact rfl
  k_with "omega" => first | (with_reducible exact om_room ‹_›) | (with_reducible exact om_le ‹_› (by k_extra "rl")) | (with_reducible exact om_ne1 (by k_extra "lt")) | lia
  k_with "subscriptTail Name Slice ref ref" => refine hold ?_
  k_with "call builtin:len" => refine hold ?_
  k_with "call builtin:min" => refine hold ?_
  k_with "call ref" => refine hold ?_
  k_with "binaryOp Add ref ref" => refine hold ?_
  k_with "eval Name" => (k_here; k_dflt (refine' nameX_L ?Fzq ?vzq ?_ ?azq ?bzq; (case Fzq => k_asm); (case azq => rfl); (case bzq => rfl); (case vzq => first | assumption | with_unfolding_all assumption); k_whole))
  k_with "exec For Name Name cons nil" => refine hold ?_
  k_with "pyIter ref" => refine hold ?_
  k_with "storeName" => (k_dflt (refine' storeX_F ?Fzq ?Nzq ?_ ?azq ?bzq; (case Fzq => k_asm); (case Nzq => k_asm); (case azq => rfl); (case bzq => rfl); k_whole); intro _ _ _ _; (try k_sweep))
  trivial
theorem body3 {O SG PC : Addr} {us ss : List Value} {os : List Nat} {c : Nat → Nat} {n c1 c2 c3 hi lo k : Nat} {oS : Obj} {rest : Led} {t0 t1 t2 t3 th tl tm : Tok} (B : Below A₀ base outer h₀) (X : (KF w.params).In h₀) (T : Top p loose mean mg mb h₀) (hd : dp + 500 < recursionLimit) (hu : un + 2500 < cLine) (F : Fr h₀ L s.heap m)
    (N : News h₀ L s.heap ((O, listOf us.toArray c1) :: (PC, listOf #[.str (Str.ofString "") t0, .str ⟨#[c hi]⟩ t1, .str ⟨#[c lo]⟩ t2, .str (Str.ofString "") t3] c2) :: (SG, listOf ss.toArray c3) :: (cS, oS) :: rest)) (m1 : m (Str.ofString "order") = some (.ref O)) (m2 : m (Str.ofString "pieces") = some (.ref PC)) (m3 : m (Str.ofString "high") = some (.int hi th)) (m4 : m (Str.ofString "low") = some (.int lo tl)) (m5 : m (Str.ofString "marks") = some (.str (marksS k) tm)) (hoS : oS.data = .cell (some (.ref SG)))
    (hv : IntsAre us (os.map fun k : Nat => (k : Int))) (hs : StrsAre ss ((List.range 5).map fun i => ⟨#[c i]⟩)) (hos : os.Perm (List.range n)) (hn : n ≤ 5) (inj : ∀ i j, i < 5 → j < 5 → c i = c j → i = j) (hhi : hi < n) (hlo : lo < n) (hk : k ≤ 100)
    (hQ : ∀ h' tk' m' t', (∀ x, x ≠ Str.ofString "marks" → x ≠ Str.ofString "taken" → m' x = m x) → m' (Str.ofString "marks") = some (.str (marksS (k + hit os hi lo)) t') → Fr h₀ L h' m' → News h₀ L h' ((O, listOf us.toArray c1) :: (PC, listOf #[.str (Str.ofString "") t0, .str ⟨#[c hi]⟩ t1, .str ⟨#[c lo]⟩ t2, .str (Str.ofString "") t3] c2) :: (SG, listOf ss.toArray c3) :: (cS, oS) :: rest) → Q .next { s with heap := h', toks := tk' }) :
    wpAny (model pw w) (ktrTop dp un gd cn fs49.1 L a ccd (lawCl cP cM cK cZ cS) outer) (execs [lt0.1, lt1.1, lt2.1] (envX cn fs49.1 L a ccd (lawCl cP cM cK cZ cS))) Q E s := by
  have hol : os.length = n := hos.length_eq.trans List.length_range
  have hmem : ∀ j ∈ os, j < n := fun j hj => List.mem_range.mp (hos.mem_iff.mp hj)
  have hih : hi ∈ os := hos.mem_iff.mpr (List.mem_range.mpr hhi)
  have hil : lo ∈ os := hos.mem_iff.mpr (List.mem_range.mpr hlo)
  have hnd : os.Nodup := hos.nodup_iff.mpr List.nodup_range
  have hin : ∀ a ∈ os, ∀ b ∈ os, c a = c b → a = b := fun a ha b hb => inj a b (by have := hmem a ha; omega) (by have := hmem b hb; omega)
  have hsl : ((List.range 5).map fun i => (⟨#[c i]⟩ : Str)).length = 5 := by simp
  have hnm : Txt.join (Str.ofString "") (os.map fun k => ((List.range 5).map fun i => (⟨#[c i]⟩ : Str)).getD k ⟨#[]⟩) = ⟨(os.map c).toArray⟩ := by
    have e : (os.map fun k => ((List.range 5).map fun i => (⟨#[c i]⟩ : Str)).getD k ⟨#[]⟩) = os.map fun k => (⟨#[c k]⟩ : Str) := by
      apply List.map_congr_left
      intro j hj
      have h5 : j < 5 := by have := hmem j hj; omega
      simp [List.getD_eq_getElem?_getD, h5]
    rw [e]
    exact join_signs c os
  refine execs_seq ?_
  refine tk0 (os := os) (sgs := (List.range 5).map fun i => ⟨#[c i]⟩) B X T hd hu F N m1 m2 hoS hv hs (by omega) (by omega) (fun j hj => by rw [hsl]; have := hmem j hj; omega) rfl rfl rfl (fun z hz => by obtain ⟨i, _, rfl⟩ := List.mem_map.mp hz; rfl) _ hnm (by rw [nm_len]; omega) fun h1 k1 F1 N1 => ?_
  rw [takes_eq hin hnd hih hil] at F1
  refine seq_next ?_
  refine execs_seq ?_
  refine tk1 (os := os) (hi := hi) (lo := lo) (th := th) (tl := tl) B X T hd hu F1 N1 (m1 : _) rfl (m3 : _) (m4 : _) hv (by omega) hih hil fun h2 k2 F2 N2 => ?_
  refine seq_next ?_
  refine exec_one ?_
  refine tk2 (k := k) (b := decide (os.idxOf hi < os.idxOf lo)) (tm := tm) B X T hd hu F2 N2 rfl (m5 : _) hk fun h3 k3 m3' t3' e3 e4 F3 N3 => ?_
  refine hQ h3 k3 m3' t3' (fun x hx1 hx2 => (e3 x hx1).trans (if_neg hx2)) (e4.trans ?_) F3 N3
  unfold hit
  by_cases hc : os.idxOf hi < os.idxOf lo
  · rw [if_pos hc, decide_eq_true hc]; rfl
  · rw [if_neg hc, decide_eq_false hc]; rfl
end
end Mine
namespace Mine
-- LwI
open PySem PySem.W PyProof.Rows PySem.Spec PySem.Calls
set_option maxHeartbeats 8000000
theorem hit_le (os : List Nat) (hi lo : Nat) : hit os hi lo ≤ 1 := by unfold hit; split <;> omega
section
variable {w : World} {p : Program} {loose : List Str} {mean : ExcName → Option Value} {mg mb : Str → Option Value}
variable {dp un : Nat} {gd : Option (List Code)} {cn : Str} {a : Addr} {ccd : Value} {cP cM cK cZ cS : Addr} {outer : List Env} {A₀ : Around} {base h₀ : Heap} {L : Addr} {s : Shared} {Q : Flow → Shared → Prop} {E : Value → Shared → Prop} {m : Str → Option Value}
theorem lines_LwI_0 : True := by
  k_with_none
  k_with "lt" => first | with_reducible assumption | exact And.left (by with_reducible assumption) | exact And.left (And.right (by with_reducible assumption)) | exact And.left (And.right (And.right (by with_reducible assumption))) | exact And.left (And.right (And.right (And.right (by with_reducible assumption)))) | exact And.left (And.right (And.right (And.right (And.right (by with_reducible assumption)))))
  k_with "rl" => with_unfolding_all exact rfl
  k_with "omega" => first | (with_reducible exact om_room ‹_›) | (with_reducible exact om_le ‹_› (by k_extra "rl")) | (with_reducible exact om_ne1 (by k_extra "lt")) | lia
  k_with "subscriptTail Name Slice ref ref" => refine hold ?_
  k_with "call builtin:len" => refine hold ?_
  k_with "call builtin:min" => refine hold ?_
  k_with "call ref" => refine hold ?_
  k_with "binaryOp Add ref ref" => refine hold ?_
  k_with "eval Name" => (k_here; k_dflt (refine' nameX_L ?Fzq ?vzq ?_ ?azq ?bzq; (case Fzq => k_asm); (case azq => rfl); (case bzq => rfl); (case vzq => first | assumption | with_unfolding_all assumption); k_whole))
  k_with "exec For Name Name cons nil" => refine hold ?_
  k_with "pyIter ref" => refine hold ?_
  k_with "storeName" => (k_dflt (refine' storeX_F ?Fzq ?Nzq ?_ ?azq ?bzq; (case Fzq => k_asm); (case Nzq => k_asm); (case azq => rfl); (case bzq => rfl); k_whole); intro _ _ _ _; (try k_sweep))
  trivial
theorem in3 {OO O1 O2 SG PC D : Addr} {us1 us2 ss : List Value} {p1 p2 : List Nat} {c : Nat → Nat} {n n0 n1 n2 c2 c3 hi lo k : Nat} {oS : Obj} {rest : Led} {t0 t1 t2 t3 th tl tm : Tok} (B : Below A₀ base outer h₀) (X : (KF w.params).In h₀) (T : Top p loose mean mg mb h₀) (hd : dp + 500 < recursionLimit) (hu : un + 2500 < cLine) (F : Fr h₀ L s.heap m)(hE : PassesOwn (model pw w) (ktrTop dp un gd cn fs49.1 L a ccd (lawCl cP cM cK cZ cS) outer) (envX cn fs49.1 L a ccd (lawCl cP cM cK cZ cS)) E)
    (N : News h₀ L s.heap ((OO, listOf #[.ref O1, .ref O2] n0) :: (O2, listOf us2.toArray n2) :: (O1, listOf us1.toArray n1) :: (PC, listOf #[.str (Str.ofString "") t0, .str ⟨#[c hi]⟩ t1, .str ⟨#[c lo]⟩ t2, .str (Str.ofString "") t3] c2) :: (SG, listOf ss.toArray c3) :: (cS, oS) :: rest)) (m0 : m (Str.ofString "numbers") = some (.ref D)) (m1 : m (Str.ofString "orders") = some (.ref OO)) (m2 : m (Str.ofString "pieces") = some (.ref PC)) (m3 : m (Str.ofString "high") = some (.int hi th)) (m4 : m (Str.ofString "low") = some (.int lo tl)) (m5 : m (Str.ofString "marks") = some (.str (marksS k) tm)) (hoS : oS.data = .cell (some (.ref SG)))
    (hv1 : IntsAre us1 (p1.map fun k : Nat => (k : Int))) (hv2 : IntsAre us2 (p2.map fun k : Nat => (k : Int))) (hs : StrsAre ss ((List.range 5).map fun i => ⟨#[c i]⟩)) (hp1 : p1.Perm (List.range n)) (hp2 : p2.Perm (List.range n)) (hn : n ≤ 5) (inj : ∀ i j, i < 5 → j < 5 → c i = c j → i = j) (hhi : hi < n) (hlo : lo < n) (hk : k ≤ 98)
    (hQ : ∀ h' tk' m' t', m' (Str.ofString "numbers") = some (.ref D) → m' (Str.ofString "orders") = some (.ref OO) → m' (Str.ofString "high") = some (.int hi th) → m' (Str.ofString "marks") = some (.str (marksS (k + hit p1 hi lo + hit p2 hi lo)) t') → Fr h₀ L h' m' → News h₀ L h' ((OO, listOf #[.ref O1, .ref O2] n0) :: (O2, listOf us2.toArray n2) :: (O1, listOf us1.toArray n1) :: (PC, listOf #[.str (Str.ofString "") t0, .str ⟨#[c hi]⟩ t1, .str ⟨#[c lo]⟩ t2, .str (Str.ofString "") t3] c2) :: (SG, listOf ss.toArray c3) :: (cS, oS) :: rest) → Q .next { s with heap := h', toks := tk' }) :
    wpAny (model pw w) (ktrTop dp un gd cn fs49.1 L a ccd (lawCl cP cM cK cZ cS) outer) (exec lu2.1 (envX cn fs49.1 L a ccd (lawCl cP cM cK cZ cS))) Q E s := by
  refine fold_st ?_
  intro AA en
  refine my_for F rfl rfl ?_ (by intro _; rfl) hE
  k_steps
  unfold Hold
  refine it_list (l := OO) (vs := [.ref O1, .ref O2]) (cap := n0) (σ := Nat × Tok) (fun _ => (OO, listOf #[.ref O1, .ref O2] n0) :: (O2, listOf us2.toArray n2) :: (O1, listOf us1.toArray n1) :: (PC, listOf #[.str (Str.ofString "") t0, .str ⟨#[c hi]⟩ t1, .str ⟨#[c lo]⟩ t2, .str (Str.ofString "") t3] c2) :: (SG, listOf ss.toArray c3) :: (cS, oS) :: rest) (fun z => [(Str.ofString "numbers", .ref D), (Str.ofString "orders", .ref OO), (Str.ofString "pieces", .ref PC), (Str.ofString "high", .int hi th), (Str.ofString "low", .int lo tl), (Str.ofString "marks", .str (marksS z.1) z.2)]) (fun i z => z.1 = k + (if 1 ≤ i then hit p1 hi lo else 0) + (if 2 ≤ i then hit p2 hi lo else 0)) (k, tm) rfl F N (.head _) (fun _ => .head _) (fun _ h => h) ?hk rfl ?turn ?done
  case hk => exact names_cons m0 (names_cons m1 (names_cons m2 (names_cons m3 (names_cons m4 (names_cons m5 names_nil)))))
  case turn =>
    rintro i v ⟨k1, tk1⟩ u h tk I it hiv hz hI F3 N3
    dsimp only at hz F3 N3
    have hh1 : hit p1 hi lo ≤ 1 := hit_le _ _ _
    have hh2 : hit p2 hi lo ≤ 1 := hit_le _ _ _
    have hk1 : k1 ≤ 100 := by rw [hz]; split <;> split <;> omega
    rcases i with _ | _ | i
    · cases hiv
      have N4 : News h₀ L h ((O1, listOf us1.toArray n1) :: (PC, listOf #[.str (Str.ofString "") t0, .str ⟨#[c hi]⟩ t1, .str ⟨#[c lo]⟩ t2, .str (Str.ofString "") t3] c2) :: (SG, listOf ss.toArray c3) :: (cS, oS) :: (I, it) :: (OO, listOf #[.ref O1, .ref O2] n0) :: (O2, listOf us2.toArray n2) :: (O1, listOf us1.toArray n1) :: (PC, listOf #[.str (Str.ofString "") t0, .str ⟨#[c hi]⟩ t1, .str ⟨#[c lo]⟩ t2, .str (Str.ofString "") t3] c2) :: (SG, listOf ss.toArray c3) :: (cS, oS) :: rest) := fun q hq => by
        rcases List.mem_cons.mp hq with rfl | hq
        · exact N3 _ (.tail _ (.tail _ (.tail _ (.head _))))
        rcases List.mem_cons.mp hq with rfl | hq
        · exact N3 _ (.tail _ (.tail _ (.tail _ (.tail _ (.head _)))))
        rcases List.mem_cons.mp hq with rfl | hq
        · exact N3 _ (.tail _ (.tail _ (.tail _ (.tail _ (.tail _ (.head _))))))
        rcases List.mem_cons.mp hq with rfl | hq
        · exact N3 _ (.tail _ (.tail _ (.tail _ (.tail _ (.tail _ (.tail _ (.head _)))))))
        · exact N3 _ hq
      refine body3 (os := p1) (c := c) (n := n) (hi := hi) (lo := lo) (k := k1) (th := th) (tl := tl) (tm := tk1) B X T hd hu F3 N4 rfl rfl rfl rfl rfl hoS hv1 hs hp1 hn inj hhi hlo hk1 fun h' tk' m' t' e e2 F' N' => ?_
      refine f_end (k1 + hit p1 hi lo, t') F' N' (.tail _ (.tail _ (.tail _ (.tail _ (.head _))))) (fun q hq => .tail _ (.tail _ (.tail _ (.tail _ (.tail _ hq))))) hI ?_ ?_
      · exact names_cons ((e _ (by decide) (by decide)).trans rfl) (names_cons ((e _ (by decide) (by decide)).trans rfl) (names_cons ((e _ (by decide) (by decide)).trans rfl) (names_cons ((e _ (by decide) (by decide)).trans rfl) (names_cons ((e _ (by decide) (by decide)).trans rfl) (names_cons e2 names_nil)))))
      · show k1 + hit p1 hi lo = _; rw [hz]; simp
    · cases hiv
      have N4 : News h₀ L h ((O2, listOf us2.toArray n2) :: (PC, listOf #[.str (Str.ofString "") t0, .str ⟨#[c hi]⟩ t1, .str ⟨#[c lo]⟩ t2, .str (Str.ofString "") t3] c2) :: (SG, listOf ss.toArray c3) :: (cS, oS) :: (I, it) :: (OO, listOf #[.ref O1, .ref O2] n0) :: (O2, listOf us2.toArray n2) :: (O1, listOf us1.toArray n1) :: (PC, listOf #[.str (Str.ofString "") t0, .str ⟨#[c hi]⟩ t1, .str ⟨#[c lo]⟩ t2, .str (Str.ofString "") t3] c2) :: (SG, listOf ss.toArray c3) :: (cS, oS) :: rest) := fun q hq => by
        rcases List.mem_cons.mp hq with rfl | hq
        · exact N3 _ (.tail _ (.tail _ (.head _)))
        rcases List.mem_cons.mp hq with rfl | hq
        · exact N3 _ (.tail _ (.tail _ (.tail _ (.tail _ (.head _)))))
        rcases List.mem_cons.mp hq with rfl | hq
        · exact N3 _ (.tail _ (.tail _ (.tail _ (.tail _ (.tail _ (.head _))))))
        rcases List.mem_cons.mp hq with rfl | hq
        · exact N3 _ (.tail _ (.tail _ (.tail _ (.tail _ (.tail _ (.tail _ (.head _)))))))
        · exact N3 _ hq
      refine body3 (os := p2) (c := c) (n := n) (hi := hi) (lo := lo) (k := k1) (th := th) (tl := tl) (tm := tk1) B X T hd hu F3 N4 rfl rfl rfl rfl rfl hoS hv2 hs hp2 hn inj hhi hlo hk1 fun h' tk' m' t' e e2 F' N' => ?_
      refine f_end (k1 + hit p2 hi lo, t') F' N' (.tail _ (.tail _ (.tail _ (.tail _ (.head _))))) (fun q hq => .tail _ (.tail _ (.tail _ (.tail _ (.tail _ hq))))) hI ?_ ?_
      · exact names_cons ((e _ (by decide) (by decide)).trans rfl) (names_cons ((e _ (by decide) (by decide)).trans rfl) (names_cons ((e _ (by decide) (by decide)).trans rfl) (names_cons ((e _ (by decide) (by decide)).trans rfl) (names_cons ((e _ (by decide) (by decide)).trans rfl) (names_cons e2 names_nil)))))
      · show k1 + hit p2 hi lo = _; rw [hz]; simp
    · simp at hiv
  case done =>
    rintro ⟨k1, tk1⟩ u h tk hz F3 N3
    dsimp only at hz F3 N3
    have hz : k1 = k + hit p1 hi lo + hit p2 hi lo := hz
    subst hz
    exact hQ h tk _ tk1 rfl rfl rfl rfl F3 N3
end
end Mine
namespace Mine
-- LwJ
open PySem PySem.W PyProof.Rows PySem.Spec PySem.Calls
set_option maxHeartbeats 8000000
@[reducible] noncomputable def lv0 : {b : Stmt // stAt (forBody (lawSt 6)) 0 = b} := by refine' ⟨_, _⟩; rotate_left; conv => lhs; whnf
noncomputable def cnt (p1 p2 : List Nat) (hi : Nat) : Nat → Nat
  | 0 => 0
  | l + 1 => cnt p1 p2 hi l + (hit p1 hi l + hit p2 hi l)
theorem cnt_le (p1 p2 : List Nat) (hi : Nat) : ∀ l, cnt p1 p2 hi l ≤ 2 * l
  | 0 => Nat.le_refl _
  | l + 1 => by
    have h1 := cnt_le p1 p2 hi l
    have h2 := hit_le p1 hi l
    have h3 := hit_le p2 hi l
    show cnt p1 p2 hi l + (hit p1 hi l + hit p2 hi l) ≤ _
    omega
section
variable {w : World} {p : Program} {loose : List Str} {mean : ExcName → Option Value} {mg mb : Str → Option Value}
variable {dp un : Nat} {gd : Option (List Code)} {cn : Str} {a : Addr} {ccd : Value} {cP cM cK cZ cS : Addr} {outer : List Env} {A₀ : Around} {base h₀ : Heap} {L : Addr} {s : Shared} {Q : Flow → Shared → Prop} {E : Value → Shared → Prop} {m : Str → Option Value}
theorem lines_LwJ_0 : True := by
  k_with_none
  k_with "lt" => first | with_reducible assumption | exact And.left (by with_reducible assumption) | exact And.left (And.right (by with_reducible assumption)) | exact And.left (And.right (And.right (by with_reducible assumption))) | exact And.left (And.right (And.right (And.right (by with_reducible assumption)))) | exact And.left (And.right (And.right (And.right (And.right (by with_reducible assumption)))))
  k_with "rl" => with_unfolding_all exact rfl
  k_with "omega" => first | (with_reducible exact om_room ‹_›) | (with_reducible exact om_le ‹_› (by k_extra "rl")) | (with_reducible exact om_ne1 (by k_extra "lt")) | lia
  k_with "mem_go" => first | with_reducible assumption | with_reducible exact List.mem_cons_self | (refine List.mem_cons_of_mem _ ?_; k_extra "mem_go")
  k_with "news_go" => first | k_extra "mem_go" | (rcases List.mem_cons.mp hq with hq | hq; (· subst hq; k_extra "mem_go"); (· k_extra "news_go"))
  k_with "subscriptTail Name Slice ref ref" => refine hold ?_
  k_with "call builtin:len" => refine hold ?_
  k_with "call builtin:min" => refine hold ?_
  k_with "call ref" => refine hold ?_
  k_with "binaryOp Add ref ref" => refine hold ?_
  k_with "eval Name" => (k_here; k_dflt (refine' nameX_L ?Fzq ?vzq ?_ ?azq ?bzq; (case Fzq => k_asm); (case azq => rfl); (case bzq => rfl); (case vzq => first | assumption | with_unfolding_all assumption); k_whole))
  k_with "exec For Name Name cons nil" => refine hold ?_
  k_with "pyIter ref" => refine hold ?_
  k_with "call type:range" => (k_dflt (refine' range1_rows ?Fzq ?Nzq ?_; (case Fzq => k_asm); (case Nzq => k_asm)); intro _ _ _ _ _ _ _ _ _)
  k_with "storeName" => (k_dflt (refine' storeX_F ?Fzq ?Nzq ?_ ?azq ?bzq; (case Fzq => k_asm); (case Nzq => k_asm); (case azq => rfl); (case bzq => rfl); k_whole); intro _ _ _ _; (try k_sweep))
  trivial
theorem in2 {OO O1 O2 SG D : Addr} {us1 us2 ss : List Value} {p1 p2 : List Nat} {c : Nat → Nat} {n n0 n1 n2 c3 hi k : Nat} {oS : Obj} {rest : Led} {th tm : Tok} {pt : Array Value} (B : Below A₀ base outer h₀) (X : (KF w.params).In h₀) (T : Top p loose mean mg mb h₀) (hd : dp + 500 < recursionLimit) (hu : un + 2500 < cLine) (F : Fr h₀ L s.heap m)(hE : PassesOwn (model pw w) (ktrTop dp un gd cn fs49.1 L a ccd (lawCl cP cM cK cZ cS) outer) (envX cn fs49.1 L a ccd (lawCl cP cM cK cZ cS)) E)
    (N : News h₀ L s.heap ((121, tabObj pt) :: (OO, listOf #[.ref O1, .ref O2] n0) :: (O2, listOf us2.toArray n2) :: (O1, listOf us1.toArray n1) :: (SG, listOf ss.toArray c3) :: (cS, oS) :: rest)) (m0 : m (Str.ofString "numbers") = some (.ref D)) (m1 : m (Str.ofString "orders") = some (.ref OO)) (m3 : m (Str.ofString "high") = some (.int hi th)) (m5 : m (Str.ofString "marks") = some (.str (marksS k) tm)) (hoS : oS.data = .cell (some (.ref SG))) (htab : TabOk 108 46 pt) (h121 : ∀ q ∈ (OO, listOf #[.ref O1, .ref O2] n0) :: (O2, listOf us2.toArray n2) :: (O1, listOf us1.toArray n1) :: (SG, listOf ss.toArray c3) :: (cS, oS) :: rest, q.1 ≠ 121)
    (hv1 : IntsAre us1 (p1.map fun k : Nat => (k : Int))) (hv2 : IntsAre us2 (p2.map fun k : Nat => (k : Int))) (hs : StrsAre ss ((List.range 5).map fun i => ⟨#[c i]⟩)) (hp1 : p1.Perm (List.range n)) (hp2 : p2.Perm (List.range n)) (hn : n ≤ 5) (inj : ∀ i j, i < 5 → j < 5 → c i = c j → i = j) (hok : ∀ i < 5, okSign (c i)) (hhi : hi < n) (hk : k ≤ 80)
    (hQ : ∀ h' tk' m' t' pt', TabOk 108 46 pt' → m' (Str.ofString "numbers") = some (.ref D) → m' (Str.ofString "orders") = some (.ref OO) → m' (Str.ofString "marks") = some (.str (marksS (k + cnt p1 p2 hi hi)) t') → Fr h₀ L h' m' → News h₀ L h' ((121, tabObj pt') :: (OO, listOf #[.ref O1, .ref O2] n0) :: (O2, listOf us2.toArray n2) :: (O1, listOf us1.toArray n1) :: (SG, listOf ss.toArray c3) :: (cS, oS) :: rest) → Q .next { s with heap := h', toks := tk' }) :
    wpAny (model pw w) (ktrTop dp un gd cn fs49.1 L a ccd (lawCl cP cM cK cZ cS) outer) (exec lv0.1 (envX cn fs49.1 L a ccd (lawCl cP cM cK cZ cS))) Q E s := by
  refine fold_st ?_
  intro AA en
  refine my_for F rfl rfl ?_ (by intro _; rfl) hE
  k_steps
  unfold Hold
  rename IsRange _ _ _ _ _ _ _ _ => hR
  rename Fr _ _ _ _ => F3
  rename News _ _ _ _ => N3
  refine it_range (n := hi) (σ := Nat × Tok × Array Value) (fun z => (121, tabObj z.2.2) :: (OO, listOf #[.ref O1, .ref O2] n0) :: (O2, listOf us2.toArray n2) :: (O1, listOf us1.toArray n1) :: (SG, listOf ss.toArray c3) :: (cS, oS) :: rest) (fun z => [(Str.ofString "numbers", .ref D), (Str.ofString "orders", .ref OO), (Str.ofString "high", .int hi th), (Str.ofString "marks", .str (marksS z.1) z.2.1)]) (fun i z => z.1 = k + cnt p1 p2 hi i ∧ TabOk 108 46 z.2.2) (k, tm, pt) rfl hR ?sm ?sz F3 N3 (fun _ h => h) ?hk ⟨rfl, htab⟩ ?turn ?done
  case sm => exact small_one (by decide) (by decide) (by omega) (by omega)
  case sz => rw [rangeSize_nat]; omega
  case hk => exact names_cons m0 (names_cons m1 (names_cons m3 (names_cons m5 names_nil)))
  case turn =>
    rintro i t ⟨k1, tk1, p1t⟩ u h tk I it hi1 ⟨hz, hz2⟩ hI F3 N3
    dsimp only at hz hz2 F3 N3 hI
    rw [Int.zero_add] at F3
    have hcl := cnt_le p1 p2 hi i
    have hk1 : k1 ≤ 98 := by omega
    have hgs : ∀ j < 5, ((List.range 5).map fun i => (⟨#[c i]⟩ : Str))[j]? = some ⟨#[c j]⟩ := fun j hj => by simp [hj]
    refine execs_seq ?_
    refine pu0 (sgs := (List.range 5).map fun i => ⟨#[c i]⟩) (SG := SG) (ss := ss) (c3 := c3) (oS := oS) (ch := c hi) (cl := c i) (hi := hi) (lo := i) (th := th) (tl := t) (rest := (I, it) :: (121, tabObj p1t) :: (OO, listOf #[.ref O1, .ref O2] n0) :: (O2, listOf us2.toArray n2) :: (O1, listOf us1.toArray n1) :: (SG, listOf ss.toArray c3) :: (cS, oS) :: rest) B X T hd hu F3 (fun q hq => N3 q (by k_extra "news_go")) rfl rfl hoS hs (by simp) (hgs _ (by omega)) (hgs _ (by omega)) fun h1 k1' t1' F4 N4 => ?_
    refine seq_next ?_
    refine execs_seq ?_
    refine pu1 (c3 := 0) (ch := c hi) (cl := c i) (tp := t1') (ps := p1t) (rest := (I, it) :: (OO, listOf #[.ref O1, .ref O2] n0) :: (O2, listOf us2.toArray n2) :: (O1, listOf us1.toArray n1) :: (SG, listOf ss.toArray c3) :: (cS, oS) :: rest) B X T hd hu F4 (fun q hq => N4 q (by k_extra "news_go")) hz2 ?h9 rfl (hok _ (by omega)) (hok _ (by omega)) fun PC pt2 cap ta tb tc td h2 k2' hpt2 lPC F5 N5 => ?_
    case h9 =>
      intro q hq
      rcases List.mem_cons.mp hq with rfl | hq
      · exact fun e => hI (121, tabObj p1t) (.head _) e.symm
      · exact h121 q hq
    refine seq_next ?_
    refine exec_one ?_
    refine in3 (D := D) (p1 := p1) (p2 := p2) (c := c) (n := n) (hi := hi) (lo := i) (k := k1) (th := th) (tl := t) (tm := tk1) (c2 := cap) (t0 := ta) (t1 := tb) (t2 := tc) (t3 := td) (PC := PC) (rest := (121, tabObj pt2) :: (I, it) :: rest) B X T hd hu F5 ?hE5 (fun q hq => N5 q (by k_extra "news_go")) rfl rfl rfl rfl rfl rfl hoS hv1 hv2 hs hp1 hp2 hn inj hhi (by omega) hk1 fun h3 k3' m3' t3' q0 q1 q2 q3 F6 N6 => ?_
    case hE5 => exact hE
    refine f_end (k1 + hit p1 hi i + hit p2 hi i, t3', pt2) F6 N6 (by k_extra "mem_go") (fun q hq => by k_extra "news_go") ?_ (names_cons q0 (names_cons q1 (names_cons q2 (names_cons q3 names_nil)))) ⟨?_, hpt2⟩
    · intro q hq
      rcases List.mem_cons.mp hq with rfl | hq
      · exact hI (121, tabObj p1t) (.head _)
      · exact hI q (.tail _ hq)
    · show k1 + hit p1 hi i + hit p2 hi i = k + (cnt p1 p2 hi i + (hit p1 hi i + hit p2 hi i))
      rw [hz]; omega
  case done =>
    rintro ⟨k1, tk1, p1t⟩ u h tk ⟨hz, hz2⟩ F3 N3
    have hz : k1 = k + cnt p1 p2 hi hi := hz
    subst hz
    exact hQ h tk _ tk1 p1t hz2 rfl rfl rfl F3 N3
end
end Mine
namespace Mine
-- LwK
open PySem PySem.W PyProof.Rows PySem.Spec PySem.Calls
set_option maxHeartbeats 8000000
@[reducible] noncomputable def ls6 : {b : Stmt // lawSt 6 = b} := by refine' ⟨_, _⟩; rotate_left; conv => lhs; whnf
noncomputable def tot (p1 p2 : List Nat) : Nat → Nat
  | 0 => 0
  | h + 1 => tot p1 p2 h + cnt p1 p2 h h
theorem tot_le (p1 p2 : List Nat) : ∀ h, h ≤ 5 → tot p1 p2 h ≤ 8 * h
  | 0, _ => Nat.le_refl _
  | h + 1, h5 => by
    have h1 := tot_le p1 p2 h (by omega)
    have h2 := cnt_le p1 p2 h h
    show tot p1 p2 h + cnt p1 p2 h h ≤ _
    omega
section
variable {w : World} {p : Program} {loose : List Str} {mean : ExcName → Option Value} {mg mb : Str → Option Value}
variable {dp un : Nat} {gd : Option (List Code)} {cn : Str} {a : Addr} {ccd : Value} {cP cM cK cZ cS : Addr} {outer : List Env} {A₀ : Around} {base h₀ : Heap} {L : Addr} {s : Shared} {Q : Flow → Shared → Prop} {E : Value → Shared → Prop} {m : Str → Option Value}
theorem lines_LwK_0 : True := by
  k_with_none
  k_with "lt" => first | with_reducible assumption | exact And.left (by with_reducible assumption) | exact And.left (And.right (by with_reducible assumption)) | exact And.left (And.right (And.right (by with_reducible assumption))) | exact And.left (And.right (And.right (And.right (by with_reducible assumption)))) | exact And.left (And.right (And.right (And.right (And.right (by with_reducible assumption)))))
  k_with "rl" => with_unfolding_all exact rfl
  k_with "omega" => first | (with_reducible exact om_room ‹_›) | (with_reducible exact om_le ‹_› (by k_extra "rl")) | (with_reducible exact om_ne1 (by k_extra "lt")) | lia
  k_with "mem_go" => first | with_reducible assumption | with_reducible exact List.mem_cons_self | (refine List.mem_cons_of_mem _ ?_; k_extra "mem_go")
  k_with "news_go" => first | k_extra "mem_go" | (rcases List.mem_cons.mp hq with hq | hq; (· subst hq; k_extra "mem_go"); (· k_extra "news_go"))
  k_with "subscriptTail Name Slice ref ref" => refine hold ?_
  k_with "call builtin:len" => refine hold ?_
  k_with "call builtin:min" => refine hold ?_
  k_with "call ref" => refine hold ?_
  k_with "binaryOp Add ref ref" => refine hold ?_
  k_with "eval Name" => (k_here; k_dflt (refine' nameX_L ?Fzq ?vzq ?_ ?azq ?bzq; (case Fzq => k_asm); (case azq => rfl); (case bzq => rfl); (case vzq => first | assumption | with_unfolding_all assumption); k_whole))
  k_with "exec For Name Name cons nil" => refine hold ?_
  k_with "pyIter ref" => refine hold ?_
  k_with "call type:range" => (k_dflt (refine' range1_rows ?Fzq ?Nzq ?_; (case Fzq => k_asm); (case Nzq => k_asm)); intro _ _ _ _ _ _ _ _ _)
  k_with "storeName" => (k_dflt (refine' storeX_F ?Fzq ?Nzq ?_ ?azq ?bzq; (case Fzq => k_asm); (case Nzq => k_asm); (case azq => rfl); (case bzq => rfl); k_whole); intro _ _ _ _; (try k_sweep))
  trivial
theorem st6 {OO O1 O2 SG D : Addr} {us1 us2 ss : List Value} {p1 p2 : List Nat} {c : Nat → Nat} {n n0 n1 n2 c3 : Nat} {oS oZ : Obj} {rest : Led} {tz tm : Tok} {pt : Array Value} (B : Below A₀ base outer h₀) (X : (KF w.params).In h₀) (T : Top p loose mean mg mb h₀) (hd : dp + 500 < recursionLimit) (hu : un + 2500 < cLine) (F : Fr h₀ L s.heap m)(hE : PassesOwn (model pw w) (ktrTop dp un gd cn fs49.1 L a ccd (lawCl cP cM cK cZ cS) outer) (envX cn fs49.1 L a ccd (lawCl cP cM cK cZ cS)) E)
    (N : News h₀ L s.heap ((121, tabObj pt) :: (OO, listOf #[.ref O1, .ref O2] n0) :: (O2, listOf us2.toArray n2) :: (O1, listOf us1.toArray n1) :: (SG, listOf ss.toArray c3) :: (cS, oS) :: (cZ, oZ) :: rest)) (m0 : m (Str.ofString "numbers") = some (.ref D)) (m1 : m (Str.ofString "orders") = some (.ref OO)) (m5 : m (Str.ofString "marks") = some (.str ⟨#[]⟩ tm)) (hoS : oS.data = .cell (some (.ref SG))) (hoZ : oZ.data = .cell (some (.int n tz))) (htab : TabOk 108 46 pt) (h121 : ∀ q ∈ (OO, listOf #[.ref O1, .ref O2] n0) :: (O2, listOf us2.toArray n2) :: (O1, listOf us1.toArray n1) :: (SG, listOf ss.toArray c3) :: (cS, oS) :: (cZ, oZ) :: rest, q.1 ≠ 121)
    (hv1 : IntsAre us1 (p1.map fun k : Nat => (k : Int))) (hv2 : IntsAre us2 (p2.map fun k : Nat => (k : Int))) (hs : StrsAre ss ((List.range 5).map fun i => ⟨#[c i]⟩)) (hp1 : p1.Perm (List.range n)) (hp2 : p2.Perm (List.range n)) (hn : n ≤ 5) (inj : ∀ i j, i < 5 → j < 5 → c i = c j → i = j) (hok : ∀ i < 5, okSign (c i))
    (hQ : ∀ h' tk' m' t' pt', TabOk 108 46 pt' → m' (Str.ofString "numbers") = some (.ref D) → m' (Str.ofString "orders") = some (.ref OO) → m' (Str.ofString "marks") = some (.str (marksS (tot p1 p2 n)) t') → Fr h₀ L h' m' → News h₀ L h' ((121, tabObj pt') :: (OO, listOf #[.ref O1, .ref O2] n0) :: (O2, listOf us2.toArray n2) :: (O1, listOf us1.toArray n1) :: (SG, listOf ss.toArray c3) :: (cS, oS) :: (cZ, oZ) :: rest) → Q .next { s with heap := h', toks := tk' }) :
    wpAny (model pw w) (ktrTop dp un gd cn fs49.1 L a ccd (lawCl cP cM cK cZ cS) outer) (exec ls6.1 (envX cn fs49.1 L a ccd (lawCl cP cM cK cZ cS))) Q E s := by
  refine fold_st ?_
  intro AA en
  refine my_for F rfl rfl ?_ (by intro _; rfl) hE
  k_steps
  unfold Hold
  rename IsRange _ _ _ _ _ _ _ _ => hR
  rename Fr _ _ _ _ => F3
  rename News _ _ _ _ => N3
  refine it_range (n := n) (σ := Nat × Tok × Array Value) (fun z => (121, tabObj z.2.2) :: (OO, listOf #[.ref O1, .ref O2] n0) :: (O2, listOf us2.toArray n2) :: (O1, listOf us1.toArray n1) :: (SG, listOf ss.toArray c3) :: (cS, oS) :: (cZ, oZ) :: rest) (fun z => [(Str.ofString "numbers", .ref D), (Str.ofString "orders", .ref OO), (Str.ofString "marks", .str (marksS z.1) z.2.1)]) (fun i z => z.1 = tot p1 p2 i ∧ TabOk 108 46 z.2.2) (0, tm, pt) rfl hR ?sm ?sz F3 N3 (fun _ h => h) ?hk ⟨rfl, htab⟩ ?turn ?done
  case sm => exact small_one (by decide) (by decide) (by omega) (by omega)
  case sz => rw [rangeSize_nat]; omega
  case hk => exact names_cons m0 (names_cons m1 (names_cons m5 names_nil))
  case turn =>
    rintro i t ⟨k1, tk1, p1t⟩ u h tk I it hi1 ⟨hz, hz2⟩ hI F3 N3
    dsimp only at hz hz2 F3 N3 hI
    rw [Int.zero_add] at F3
    have hcl := tot_le p1 p2 i (by omega)
    refine exec_one ?_
    refine in2 (D := D) (p1 := p1) (p2 := p2) (c := c) (n := n) (hi := i) (k := k1) (th := t) (tm := tk1) (pt := p1t) (rest := (cZ, oZ) :: (I, it) :: rest) B X T hd hu F3 hE (fun q hq => N3 q (by k_extra "news_go")) rfl rfl rfl rfl hoS hz2 ?h9 hv1 hv2 hs hp1 hp2 hn inj hok hi1 (by omega) fun h3 k3' m3' t3' pt' hpt q0 q1 q2 F6 N6 => ?_
    case h9 =>
      intro q hq
      by_cases hqI : q = (I, it)
      · subst hqI
        exact fun e => hI (121, tabObj p1t) (.head _) e.symm
      · refine h121 q ?_
        simp only [List.mem_cons] at hq ⊢
        rcases hq with h | h | h | h | h | h | h | h
        · simp [h]
        · simp [h]
        · simp [h]
        · simp [h]
        · simp [h]
        · simp [h]
        · exact absurd h hqI
        · simp [h]
    refine f_end (k1 + cnt p1 p2 i i, t3', pt') F6 N6 (by k_extra "mem_go") (fun q hq => by k_extra "news_go") ?_ (names_cons q0 (names_cons q1 (names_cons q2 names_nil))) ⟨?_, hpt⟩
    · intro q hq
      rcases List.mem_cons.mp hq with rfl | hq
      · exact hI (121, tabObj p1t) (.head _)
      · exact hI q (.tail _ hq)
    · show k1 + cnt p1 p2 i i = tot p1 p2 i + cnt p1 p2 i i
      rw [hz]
  case done =>
    rintro ⟨k1, tk1, p1t⟩ u h tk ⟨hz, hz2⟩ F3 N3
    have hz : k1 = tot p1 p2 n := hz
    subst hz
    exact hQ h tk _ tk1 p1t hz2 rfl rfl rfl F3 N3
end
end Mine
namespace Mine
-- LwL
open PySem PySem.W PyProof.Rows PySem.Spec PySem.Calls
set_option maxHeartbeats 8000000
@[reducible] noncomputable def ls7 : {b : Stmt // lawSt 7 = b} := by refine' ⟨_, _⟩; rotate_left; conv => lhs; whnf
@[reducible] noncomputable def ls8 : {b : Stmt // lawSt 8 = b} := by refine' ⟨_, _⟩; rotate_left; conv => lhs; whnf
theorem mark_at (k : Int) : ∃ mk, (mk = 124 ∨ mk = 33 ∨ mk = 40 ∨ mk = 34) ∧ ChAt (Str.ofString "|!(\"") (k.fmod 4) mk := by
  have e0 : 0 ≤ k.fmod 4 := Int.fmod_nonneg_of_pos _ (by decide)
  have e1 : k.fmod 4 < 4 := Int.fmod_lt_of_pos _ (by decide)
  generalize k.fmod 4 = z at e0 e1
  rcases (by omega : z = 0 ∨ z = 1 ∨ z = 2 ∨ z = 3) with rfl | rfl | rfl | rfl
  · exact ⟨124, .inl rfl, by unfold ChAt; decide⟩
  · exact ⟨33, .inr (.inl rfl), by unfold ChAt; decide⟩
  · exact ⟨40, .inr (.inr (.inl rfl)), by unfold ChAt; decide⟩
  · exact ⟨34, .inr (.inr (.inr rfl)), by unfold ChAt; decide⟩
section
variable {w : World} {p : Program} {loose : List Str} {mean : ExcName → Option Value} {mg mb : Str → Option Value}
variable {dp un : Nat} {gd : Option (List Code)} {cn : Str} {a : Addr} {ccd : Value} {cP cM cK cZ cS : Addr} {outer : List Env} {A₀ : Around} {base h₀ : Heap} {L : Addr} {s : Shared} {Q : Flow → Shared → Prop} {E : Value → Shared → Prop} {m : Str → Option Value}
theorem lines_LwL_0 : True := by
  k_with_none
  k_with "lt" => first | with_reducible assumption | exact And.left (by with_reducible assumption) | exact And.left (And.right (by with_reducible assumption)) | exact And.left (And.right (And.right (by with_reducible assumption))) | exact And.left (And.right (And.right (And.right (by with_reducible assumption)))) | exact And.left (And.right (And.right (And.right (And.right (by with_reducible assumption)))))
  k_with "rl" => with_unfolding_all exact rfl
  k_with "omega" => first | (with_reducible exact om_room ‹_›) | (with_reducible exact om_le ‹_› (by k_extra "rl")) | (with_reducible exact om_ne1 (by k_extra "lt")) | lia
  k_with "subscriptTail Name Slice ref ref" => refine hold ?_
  k_with "call builtin:len" => refine hold ?_
  k_with "call builtin:min" => refine hold ?_
  k_with "call ref" => refine hold ?_
  k_with "binaryOp Add ref ref" => refine hold ?_
  k_with "eval Name" => (k_here; k_dflt (refine' nameX_L ?Fzq ?vzq ?_ ?azq ?bzq; (case Fzq => k_asm); (case azq => rfl); (case bzq => rfl); (case vzq => first | assumption | with_unfolding_all assumption); k_whole))
  k_with "subscriptTail" => refine hold ?_
  k_with "storeName" => refine hold ?_
  trivial
theorem st7 {D : Addr} {us : List Value} {ns : List Int} {cap : Nat} {oK : Obj} {rest : Led} (B : Below A₀ base outer h₀) (X : (KF w.params).In h₀) (T : Top p loose mean mg mb h₀) (hd : dp + 500 < recursionLimit) (hu : un + 2500 < cLine) (F : Fr h₀ L s.heap m) (N : News h₀ L s.heap ((D, listOf us.toArray cap) :: (cK, oK) :: rest)) (m1 : m (Str.ofString "numbers") = some (.ref D)) (hv : IntsAre us (numsOf ns)) (hoK : oK.data = .cell none) (h1 : D ≠ cK) (h2 : ∀ q ∈ rest, q.1 ≠ cK)
    (hQ : ∀ mk o' h' tk' t, (mk = 124 ∨ mk = 33 ∨ mk = 40 ∨ mk = 34) → o'.data = .cell (some (.str ⟨#[mk]⟩ t)) → Fr h₀ L h' m → News h₀ L h' ((D, listOf us.toArray cap) :: (cK, o') :: rest) → Q .next { s with heap := h', toks := tk' }) :
    wpAny (model pw w) (ktrTop dp un gd cn fs49.1 L a ccd (lawCl cP cM cK cZ cS) outer) (exec ls7.1 (envX cn fs49.1 L a ccd (lawCl cP cM cK cZ cS))) Q E s := by
  refine fold_st ?_
  intro AA en
  have h10 := nums_len ns
  obtain ⟨t0, hx0⟩ := hv.get 0 _ (List.getElem?_eq_getElem (by omega : 0 < (numsOf ns).length))
  generalize (numsOf ns)[0] = k0 at hx0
  k_steps
  unfold Hold
  obtain ⟨mk, hmk, hch⟩ := mark_at ((numsOf ns).getD (Int.toNat 0) 0)
  refine str_at hch ?_
  k_steps
  unfold Hold
  refine storeX_C F N rfl (.tail h1 (.head h2)) hoK fun h3 o' F3 N3 d3 => ?_
  exact hQ mk o' _ _ _ hmk d3 F3 N3
theorem st8 {D : Addr} {us : List Value} {ns : List Int} {cap : Nat} {oM : Obj} {rest : Led} (B : Below A₀ base outer h₀) (X : (KF w.params).In h₀) (T : Top p loose mean mg mb h₀) (hd : dp + 500 < recursionLimit) (hu : un + 2500 < cLine) (F : Fr h₀ L s.heap m) (N : News h₀ L s.heap ((D, listOf us.toArray cap) :: (cM, oM) :: rest)) (m1 : m (Str.ofString "numbers") = some (.ref D)) (hv : IntsAre us (numsOf ns)) (hoM : oM.data = .cell none) (h1 : D ≠ cM) (h2 : ∀ q ∈ rest, q.1 ≠ cM)
    (hQ : ∀ (mo : Nat) o' h' tk' t, mo < 1000 → o'.data = .cell (some (.int mo t)) → Fr h₀ L h' m → News h₀ L h' ((D, listOf us.toArray cap) :: (cM, o') :: rest) → Q .next { s with heap := h', toks := tk' }) :
    wpAny (model pw w) (ktrTop dp un gd cn fs49.1 L a ccd (lawCl cP cM cK cZ cS) outer) (exec ls8.1 (envX cn fs49.1 L a ccd (lawCl cP cM cK cZ cS))) Q E s := by
  refine fold_st ?_
  intro AA en
  have h10 := nums_len ns
  obtain ⟨t0, hx0⟩ := hv.get 1 _ (List.getElem?_eq_getElem (by omega : 1 < (numsOf ns).length))
  generalize (numsOf ns)[1] = k0 at hx0
  k_steps
  unfold Hold
  have e0 : 0 ≤ (((numsOf ns).getD (Int.toNat 1) 0).fdiv 4).fmod 1000 := Int.fmod_nonneg_of_pos _ (by decide)
  have e1 : (((numsOf ns).getD (Int.toNat 1) 0).fdiv 4).fmod 1000 < 1000 := Int.fmod_lt_of_pos _ (by decide)
  generalize (((numsOf ns).getD (Int.toNat 1) 0).fdiv 4).fmod 1000 = z at e0 e1
  obtain ⟨mo, rfl⟩ := Int.eq_ofNat_of_zero_le e0
  refine storeX_C F N rfl (.tail h1 (.head h2)) hoM fun h3 o' F3 N3 d3 => ?_
  exact hQ mo o' _ _ _ (by omega) d3 F3 N3
end
end Mine
namespace Mine
-- LwM
open PySem PySem.W PyProof.Rows PySem.Spec PySem.Calls
set_option maxHeartbeats 8000000
@[reducible] noncomputable def ls9 : {b : Stmt // lawSt 9 = b} := by refine' ⟨_, _⟩; rotate_left; conv => lhs; whnf
noncomputable def numS (v : Nat) : Str := Str.ofString (toString (v : Int))
noncomputable def numL (v : Nat) : List Nat := (Str.ofString (toString (v : Int))).cps.toList
noncomputable def replyL (mk v : Nat) : List Nat := 50 :: 50 :: 57 :: 32 :: 40 :: mk :: mk :: mk :: (numL v ++ [mk, 41])
noncomputable def replyS (mk v : Nat) : Str := ⟨(replyL mk v).toArray⟩
theorem reply_eq (mk v : Nat) : Str.ofString "229 (" ++ ⟨#[mk, mk, mk]⟩ ++ numS v ++ ⟨#[mk]⟩ ++ Str.ofString ")" = replyS mk v := by
  apply str_ext
  rw [app_list, app_list, app_list, app_list]
  have e : (Str.ofString "229 (").cps.toList = [50, 50, 57, 32, 40] := rfl
  have e2 : (Str.ofString ")").cps.toList = [41] := rfl
  rw [e, e2]
  unfold replyS replyL numL numS
  simp
section
variable {w : World} {p : Program} {loose : List Str} {mean : ExcName → Option Value} {mg mb : Str → Option Value}
variable {dp un : Nat} {gd : Option (List Code)} {cn : Str} {a : Addr} {ccd : Value} {cP cM cK cZ cS : Addr} {outer : List Env} {A₀ : Around} {base h₀ : Heap} {L : Addr} {s : Shared} {Q : Flow → Shared → Prop} {E : Value → Shared → Prop} {m : Str → Option Value}
theorem lines_LwM_0 : True := by
  k_with_none
  k_with "lt" => first | with_reducible assumption | exact And.left (by with_reducible assumption) | exact And.left (And.right (by with_reducible assumption)) | exact And.left (And.right (And.right (by with_reducible assumption))) | exact And.left (And.right (And.right (And.right (by with_reducible assumption)))) | exact And.left (And.right (And.right (And.right (And.right (by with_reducible assumption)))))
  k_with "rl" => with_unfolding_all exact rfl
  k_with "omega" => first | (with_reducible exact om_room ‹_›) | (with_reducible exact om_le ‹_› (by k_extra "rl")) | (with_reducible exact om_ne1 (by k_extra "lt")) | lia
  k_with "subscriptTail Name Slice ref ref" => refine hold ?_
  k_with "call builtin:len" => refine hold ?_
  k_with "call builtin:min" => refine hold ?_
  k_with "call ref" => refine hold ?_
  k_with "binaryOp Add ref ref" => refine hold ?_
  k_with "eval Name" => (k_here; k_dflt (refine' nameX_L ?Fzq ?vzq ?_ ?azq ?bzq; (case Fzq => k_asm); (case azq => rfl); (case bzq => rfl); (case vzq => first | assumption | with_unfolding_all assumption); k_whole))
  k_with "subscriptTail Name Constant ref int" => refine hold ?_
  k_with "CompSrc" => refine hold ?_
  k_with "CompEnd" => refine hold ?_
  k_with "binaryOp Add str str" => refine hold ?_
  k_with "binaryOp Mult str int" => refine hold ?_
  k_with "call type:str" => refine hold ?_
  k_with "storeName" => (k_dflt (refine' storeX_F ?Fzq ?Nzq ?_ ?azq ?bzq; (case Fzq => k_asm); (case Nzq => k_asm); (case azq => rfl); (case bzq => rfl); k_whole); intro _ _ _ _; (try k_sweep))
  trivial
theorem st9 {OO O1 O2 : Addr} {us1 us2 : List Value} {p1 p2 : List Nat} {n n0 n1 n2 mk mo : Nat} {oK oM : Obj} {rest : Led} {tk tm : Tok} (B : Below A₀ base outer h₀) (X : (KF w.params).In h₀) (T : Top p loose mean mg mb h₀) (hd : dp + 500 < recursionLimit) (hu : un + 2500 < cLine) (F : Fr h₀ L s.heap m) (N : News h₀ L s.heap ((OO, listOf #[.ref O1, .ref O2] n0) :: (O2, listOf us2.toArray n2) :: (O1, listOf us1.toArray n1) :: (cK, oK) :: (cM, oM) :: rest)) (m1 : m (Str.ofString "orders") = some (.ref OO)) (hoK : oK.data = .cell (some (.str ⟨#[mk]⟩ tk))) (hoM : oM.data = .cell (some (.int mo tm))) (hmo : mo < 1000)
    (hv1 : IntsAre us1 (p1.map fun k : Nat => (k : Int))) (hv2 : IntsAre us2 (p2.map fun k : Nat => (k : Int))) (hl1 : p1.length ≤ 5) (hl2 : p2.length ≤ 5) (hp1 : ∀ k ∈ p1, k < 5) (hp2 : ∀ k ∈ p2, k < 5)
    (hQ : ∀ D us n h' tk', StrsAre us ((p1 ++ p2).map fun k => replyS mk (mo + k)) → LCg.Off1 D ((OO, listOf #[.ref O1, .ref O2] n0) :: (O2, listOf us2.toArray n2) :: (O1, listOf us1.toArray n1) :: (cK, oK) :: (cM, oM) :: rest) → Fr h₀ L h' (fun y => if y = Str.ofString "replies" then some (.ref D) else m y) → News h₀ L h' ((D, listOf us.toArray n) :: (OO, listOf #[.ref O1, .ref O2] n0) :: (O2, listOf us2.toArray n2) :: (O1, listOf us1.toArray n1) :: (cK, oK) :: (cM, oM) :: rest) → Q .next { s with heap := h', toks := tk' }) :
    wpAny (model pw w) (ktrTop dp un gd cn fs49.1 L a ccd (lawCl cP cM cK cZ cS) outer) (exec ls9.1 (envX cn fs49.1 L a ccd (lawCl cP cM cK cZ cS))) Q E s := by
  refine fold_st ?_
  intro AA en
  refine LCg.Assign_ListComp_U F rfl (by with_unfolding_all rfl) (by rfl) (by decide) (by rfl) (by decide) (by rfl) (by rfl) (by rfl) ?_
  k_steps
  unfold Hold
  refine item_L (h₀ := h₀) (L := L) (k := 0) (items := [.ref O1, .ref O2]) (n := n0) (x := .ref O1) (news := (OO, listOf #[.ref O1, .ref O2] n0) :: (O2, listOf us2.toArray n2) :: (O1, listOf us1.toArray n1) :: (cK, oK) :: (cM, oM) :: rest) ?Na (.head _) (by decide) (by decide) rfl ?_
  case Na => exact N
  k_steps
  unfold Hold
  refine item_L (h₀ := h₀) (L := L) (k := 1) (items := [.ref O1, .ref O2]) (n := n0) (x := .ref O2) (news := (OO, listOf #[.ref O1, .ref O2] n0) :: (O2, listOf us2.toArray n2) :: (O1, listOf us1.toArray n1) :: (cK, oK) :: (cM, oM) :: rest) ?Nb (.head _) (by decide) (by decide) rfl ?_
  case Nb => exact N
  k_steps
  unfold Hold
  refine kmk_add_ints (news := (OO, listOf #[.ref O1, .ref O2] n0) :: (O2, listOf us2.toArray n2) :: (O1, listOf us1.toArray n1) :: (cK, oK) :: (cM, oM) :: rest) F N (News.isList N (.tail _ (.tail _ (.head _)))) (News.isList N (.tail _ (.head _))) hv1 hv2 (fun D4 us h4 F4 N4 l4 I4 => ?_) ?z
  case z =>
    rw [List.length_map, List.length_map]
    exact le_sz (by omega)
  rw [← List.map_append] at I4
  k_steps
  unfold Hold
  have hul : us.length = (p1 ++ p2).length := I4.length.trans (List.length_map _)
  have hpl : (p1 ++ p2).length ≤ 10 := by rw [List.length_append]; omega
  have hp5 : ∀ k ∈ p1 ++ p2, k < 5 := fun k hk => by rcases List.mem_append.mp hk with h | h; exact hp1 k h; exact hp2 k h
  refine LCg.CompSrc.ledger rfl F4 N4 (.head _) (by rw [List.size_toArray, hul]; exact le_sz (by omega)) fun g => ?_
  refine comp_ind (fun i ys news => StrsAre ys (((p1 ++ p2).take i).map fun k => replyS mk (mo + k)) ∧ news = (D4, listOf us.toArray 0) :: (OO, listOf #[.ref O1, .ref O2] n0) :: (O2, listOf us2.toArray n2) :: (O1, listOf us1.toArray n1) :: (cK, oK) :: (cM, oM) :: rest) us.toArray.size ?step ?fin us.toArray.size 0 [] _ (Nat.zero_add _) ⟨.nil, rfl⟩
  case step =>
    rintro i zz news hi ⟨hI, rfl⟩ v I oI C oC D m₂ h tk E' hv' hC hx F3 N3 off
    obtain ⟨n, t, hn, rfl⟩ := ints_get I4 (by simpa using hv')
    obtain ⟨k, hk, rfl⟩ : ∃ k, (p1 ++ p2)[i]? = some k ∧ n = (k : Int) := by
      rw [List.getElem?_map] at hn
      cases hk : (p1 ++ p2)[i]? with
      | none => rw [hk] at hn; cases hn
      | some k => rw [hk] at hn; exact ⟨k, rfl, (Option.some.inj hn).symm⟩
    have hk5 := hp5 k (List.mem_of_getElem? hk)
    have hmok : MulOk ⟨#[mk]⟩ 3 := ⟨by decide, fun _ _ => by show ¬ ((1 : Int) > (2 ^ 63 - 1) / 3); decide, fun _ _ => by show Builtin.Str.tooLong (1 * 3) = false; decide +kernel⟩
    have hnum : (toString ((k : Int) + (mo : Int)) : Str) = numS (mo + k) := by
      unfold numS
      rw [show ((mo + k : Nat) : Int) = (k : Int) + (mo : Int) by omega]
    have hmul : Txt.mul ⟨#[mk]⟩ 3 = ⟨#[mk, mk, mk]⟩ := rfl
    have hln : (numS (mo + k)).length ≤ 10 := KT.len_num (by omega) (by omega)
    have e5 : (Str.ofString "229 (").length = 5 := rfl
    have e1 : (Str.ofString ")").length = 1 := rfl
    have e3 : (⟨#[mk, mk, mk]⟩ : Str).length = 3 := rfl
    have e6 : (⟨#[mk]⟩ : Str).length = 1 := rfl
    k_steps
    unfold Hold
    refine PySem.SB.mul hmok ?_
    intro _ _
    rw [hmul]
    k_steps
    unfold Hold
    refine PyProof.Rows.add_str ?_ (le_sz (by (try simp only [len_app]); omega))
    intro _ _
    k_steps
    unfold Hold
    refine str_of_int_fit (N := 2000) (by split <;> omega) (by decide) fun _ => ?_
    rw [hnum]
    k_steps
    unfold Hold
    refine PyProof.Rows.add_str ?_ (le_sz (by (try simp only [len_app]); omega))
    intro _ _
    k_steps
    unfold Hold
    refine PyProof.Rows.add_str ?_ (le_sz (by (try simp only [len_app]); omega))
    intro _ _
    k_steps
    unfold Hold
    refine PyProof.Rows.add_str ?_ (le_sz (by (try simp only [len_app]); omega))
    intro _ _
    k_steps
    unfold Hold
    refine LCg.CompEnd.intro F3 N3 _ (fun _ h => h) off (.inr ⟨_, .head _, rfl, _, rfl⟩) ⟨?_, rfl⟩
    rw [take_snoc hk, List.map_append, reply_eq]
    exact strs_snoc hI
  case fin =>
    rintro zz news ⟨hI, rfl⟩
    intro D h tk F3 N3 off
    rw [List.take_of_length_le (by rw [List.size_toArray, hul]; exact Nat.le_refl _)] at hI
    exact hQ D zz _ h tk hI off.2 F3 (drop2 N3)
end
end Mine
namespace Mine
-- Q1
open PySem PySem.W PyProof.Rows PySem.Spec PySem.Calls
set_option maxHeartbeats 8000000
theorem lines_Q1_0 : True := by
  k_with_none
  k_with "lt" => first | with_reducible assumption | exact And.left (by with_reducible assumption) | exact And.left (And.right (by with_reducible assumption)) | exact And.left (And.right (And.right (by with_reducible assumption))) | exact And.left (And.right (And.right (And.right (by with_reducible assumption)))) | exact And.left (And.right (And.right (And.right (And.right (by with_reducible assumption)))))
  k_with "rl" => with_unfolding_all exact rfl
  k_with "omega" => first | (with_reducible exact om_room ‹_›) | (with_reducible exact om_le ‹_› (by k_extra "rl")) | (with_reducible exact om_ne1 (by k_extra "lt")) | lia
  trivial
open PySem.Builtin PySem.Builtin.Re
section
variable {prog : Program} {w : World} {A : Around} {E : Value → Shared → Prop} {s : Shared}
theorem bk_search : builtinKind "re.Pattern.search" = some .method := by rw [builtinKind_eq_fast]; kernel_rfl
theorem bcs_ok (a v : Value) : (match Manifest.signature? "re.Pattern.search" with | some sig => Bind.checkArgs "re.Pattern.search" { sig with full := "Pattern.search" } ⟨[a, v], []⟩ | none => pure ()) = pure () := by
  rw [signature?_of (id := "re.Pattern.search") (n := "search".toList.reverse) (o := "re.Pattern".toList.reverse) (by kernel_rfl) owner_rep]; kernel_rfl
theorem lastOf_search : Bind.lastOf "re.Pattern.search" = "search" := by decide +kernel
theorem lastOf_rep : Bind.lastOf "re.Pattern" = "Pattern" := by decide +kernel
theorem sub_rep_module : isSubtype (.type "re.Pattern") (.type "module") = pure false := by rw [isSubtype_type]; kernel_rfl
theorem var_search : Manifest.varargsMethods.contains "re.Pattern.search" = false := by decide +kernel
theorem checkBoundS {M : Model} {a : Addr} {v : Value} {o : Obj} {Q : Unit → Shared → Prop} (hl : s.heap.get? a = some o) (hc : o.cls = .type "re.Pattern") (hd : (match o.data with | .cls _ => true | _ => false) = false) (h : Q () s) : wpAny M A (checkBoundCall "re.Pattern.search" ⟨[.ref a, v], []⟩) Q E s := by
  have hT : s.TypeIs (.ref a) "re.Pattern" := ⟨_, hl, hc⟩
  have hb := bcs_ok (.ref a) v
  unfold checkBoundCall
  cases hs : Manifest.signature? "re.Pattern.search" with
  | none => exact wpAny_pure h
  | some sig =>
    rw [hs] at hb
    simp only [bk_search, lastOf_search, var_search]
    have f3 := lastOf_rep
    refine wpAny_bind (wpAny_isInstance hT sub_rep_module ?_)
    rw [Bool.or_false, if_neg Bool.false_ne_true]
    refine wpAny_bind (wpAny_isType_no hl hd ?_)
    rw [if_neg Bool.false_ne_true]
    refine wpAny_bind (wpAny_typeOf hT ?_)
    dsimp only
    rw [f3]
    exact wpAny_of_eq hb h
theorem search_found (U P T : Addr) (tx : Array Nat) (u : Tok) (v0 v1 : Value) (its : Array Value) (n0 : Nat) {Q : Value → Shared → Prop} (hU : s.heap.get? U = some ⟨.type "builtin_function_or_method", none, .fields #[.builtin "re.Pattern.search", .ref P], #[]⟩) (hP : s.heap.get? P = some ⟨.type "re.Pattern", none, .fields #[v0, v1, .int 0 0, .none, .none, .ref T, .int 0 0], #[]⟩)
  (hT : s.heap.get? T = some ⟨.type "tuple", none, .seq its n0, #[]⟩)
  (hz : tx.size ≤ 5000) (hM : ((Sre.forSearch ((its.map reRawOf).map (·.toNat)) tx 0 0 tx.size false).runFor 4).outcome = some .matched)
  (h : ∀ h' tk a, (∀ b o, s.heap.get? b = some o → h'.get? b = some o) → Q (.ref a) { s with heap := h', toks := tk }) : wpAny (model prog w) A (call (.ref U) [.str ⟨tx⟩ u]) Q E s := by
  obtain ⟨hp, g, dr, tk, os⟩ := s
  have hTy : (⟨hp, g, dr, tk, os⟩ : Shared).TypeIs (.ref P) "re.Pattern" := ⟨_, hP, rfl⟩
  have hTt : (⟨hp, g, dr, tk, os⟩ : Shared).TypeIs (.ref T) "tuple" := ⟨_, hT, rfl⟩
  have e1 : min (Int.toNat 0) tx.size = 0 := by simp
  have e2 : min (Int.toNat (2 ^ 63 - 1)) tx.size = tx.size := Nat.min_eq_right (by have : Int.toNat (2 ^ 63 - 1) = 9223372036854775807 := by decide
                                                                                   omega)
  refine wpAny_call (codeAny_of_tree ?_)
  show wpAny _ A.in1 (callAny (.ref U) ⟨[.str ⟨tx⟩ u], []⟩) _ _ _
  simp only [callAny]
  refine wpAny_bind (wpAny_load hU ?_)
  dsimp only
  rw [if_pos (by decide)]
  show wpAny _ A.in1 (do checkBoundCall "re.Pattern.search" ⟨[.ref P, .str ⟨tx⟩ u], []⟩; again (.builtin "re.Pattern.search" ⟨[.ref P, .str ⟨tx⟩ u], []⟩)) _ _ _
  refine wpAny_bind (checkBoundS hP rfl rfl (wpAny_pure (And.intro (plainId_quiet search_slot.plain _) (codeAny_builtin search_entry ?_))))
  rw [Around.under_plainId search_slot.plain]
  unfold Builtin.«re.Pattern.search» reTarget reTextOf reAnswer
  repeat (any_goals (first | assumption | ((with_reducible show wpAny _ _ (reRunToEnd _) _ _ _); refine reRun_matched (m := Sre.forSearch ((its.map reRawOf).map (·.toNat)) tx 0 (min (Int.toNat 0) tx.size) (min (Int.toNat (2 ^ 63 - 1)) tx.size) false) (by rw [e1, e2]; exact hM) ?_) | wp_step))
  exact h _ _ _ fun b o e => Heap.get?_push_of_some _ (Heap.get?_push_of_some _ e)
end
noncomputable abbrev code2 : Array Nat := #[14, 17, 4, 1, 1, 21, 9, 0, 604043296, 1, 0, 0, 0, 0, 0, 8, 4, 0, 13, 14, 21, 9, 0, 604043296, 1, 0, 0, 0, 0, 0, 8, 4, 0, 1]
theorem found (rest : List Nat) : ((Sre.forSearch code2 ⟨50 :: 50 :: 57 :: 32 :: rest⟩ 0 0 (rest.length + 4) false).runFor 4).outcome = some .matched := by
  kernel_rfl
theorem search_K {w : World} {A : Around} {E : Value → Shared → Prop} {s : Shared} {h₀ : Heap} {L : Addr} {m : Str → Option Value} {news : Led} {rest : List Nat} {x : Str} {t : Tok} {Q : Value → Shared → Prop} (X : (KF w.params).In h₀) (F : Fr h₀ L s.heap m) (N : News h₀ L s.heap news) (hx : x.cps.toList = 50 :: 50 :: 57 :: 32 :: rest) (hz : x.length ≤ 5000)
    (h : ∀ h' tk a, Fr h₀ L h' m → News h₀ L h' news → Q (.ref a) { s with heap := h', toks := tk }) : wpAny (model pw w) A (call (.ref 841) [.str x t]) Q E s := by
  have dummy : PySem.Challenge.rw_kt0089_01 = PySem.Challenge.rw_kt0089_01 ∧ KF = KF := by
    k_fill
    exact ⟨rfl, rfl⟩
  clear dummy
  have hx' : x = ⟨⟨50 :: 50 :: 57 :: 32 :: rest⟩⟩ := str_ext (by rw [hx])
  subst hx'
  refine search_found 841 138 137 _ t _ _ _ _ (F.keep _ _ (X _ _ (by k_is))) (F.keep _ _ (X _ _ (by k_is))) (F.keep _ _ (X _ _ (by k_is))) hz ?_ fun h' tk a hk => h h' tk a (F.keeps hk) fun p hp => ⟨hk _ _ (N p hp).1, (N p hp).2⟩
  kernel_rfl
end Mine
namespace Mine
-- K14
open PySem PySem.W PyProof.Rows PySem.Spec PySem.Calls
set_option maxHeartbeats 8000000
section
variable {w : World} {p : Program} {loose : List Str} {mean : ExcName → Option Value} {mg mb : Str → Option Value}
theorem occ_no {x : Str} {c : Nat} (h : c ∉ x.cps.toList) : (Builtin.Str.occurrences x ⟨#[c]⟩ 0 x.length (x.length + 1)).isEmpty = true := by
  have h1 := StrLaws.found_one x c
  rw [decide_eq_false h] at h1
  have h1 : (Builtin.Str.occurrences x ⟨#[c]⟩ 0 x.length 1).isEmpty = true := by simpa using h1
  have h2 := StrLaws.occ_head x ⟨#[c]⟩ (x.length + 1) (by omega)
  have h3 := StrLaws.occ_head x ⟨#[c]⟩ 1 (by omega)
  rcases h2 with ⟨h0, _⟩ | ⟨i, r, _, hat, _⟩
  · rw [h0]; rfl
  · rcases h3 with ⟨_, hn⟩ | ⟨i', r', e, _⟩
    · exact absurd hat (hn i)
    · rw [e] at h1; cases h1
theorem bm_841 {h₀ h : Heap} {L : Addr} {m : Str → Option Value} (X : (KF w.params).In h₀) (F : Fr h₀ L h m) : BmAt 841 h := ⟨_, F.keep _ _ (X _ _ (by k_is))⟩
theorem callWith_841 {M : Model} {A : Around} {E : Value → Shared → Prop} {s : Shared} {pos : Pos} {first : List Value} {env : Env} {e : Expr} {rest : List Expr} {Q : Value → Shared → Prop}
    (h : wpAny M A (spliced (backTo pos (starEach (e :: rest) env))) (fun vs s₁ => BmAt 841 s₁.heap ∧ wpAny M A (call (.ref 841) (first ++ vs)) Q E s₁) E s)
    (he : starEach (e :: rest) env = (false, eval e env) :: starEach rest env := by rfl) (hplain : (backTo pos (starEach rest env)).any (·.1) = false := by rfl) :
    wpAny M A (callWith pos (.ref 841) first (backTo pos (starEach (e :: rest) env)) []) Q E s := by
  rw [he] at h ⊢
  refine callWith_fields (by show (false || (backTo pos (starEach rest env)).any (·.1)) = false; rw [hplain]; rfl) ?_
  exact evalArgs_plain h
theorem lines_K14_0 : True := by
  k_with_none
  k_with "lt" => first | with_reducible assumption | exact And.left (by with_reducible assumption) | exact And.left (And.right (by with_reducible assumption)) | exact And.left (And.right (And.right (by with_reducible assumption))) | exact And.left (And.right (And.right (And.right (by with_reducible assumption)))) | exact And.left (And.right (And.right (And.right (And.right (by with_reducible assumption)))))
  k_with "rl" => with_unfolding_all exact rfl
  k_with "omega" => first | (with_reducible exact om_room ‹_›) | (with_reducible exact om_le ‹_› (by k_extra "rl")) | (with_reducible exact om_ne1 (by k_extra "lt")) | lia
  k_with "execs cons" => ((try k_gentoks); refine fold_sh ?_; intro _; first | (with_reducible refine exec_one ?_) | ((with_reducible refine execs_seq ?_); k_fold))
  k_with "SeqQ" => first | refine seq_next ?_ | refine seq_ret ?_ | refine seq_brk ?_ | refine seq_cont ?_
  k_with "exec If" => (with_reducible refine exec_if ?_)
  k_with "IfQ" => first | (refine ifq_no (by with_reducible assumption) ?_) | (refine ifq_yes (by with_reducible assumption) ?_) | (refine ifq_no (by decide) ?_) | (refine ifq_yes (by decide) ?_) | dsimp only [IfQ]
  k_with "callWith ref" => (k_dflt (refine' callWith_841 ?_; k_whole))
  k_with "And" => ((with_reducible show BmAt _ _ ∧ _); k_dflt (refine ⟨bm_841 (by k_asm) (by k_asm), ?_⟩); (try dsimp only [List.nil_append, List.cons_append]))
  k_with "call ref" => (k_dflt (refine' search_K ?Xzq ?Fzq ?Nzq ?hxzq ?hzzq ?_; (case Xzq => k_asm); (case Fzq => k_asm); (case Nzq => k_asm); (case hxzq => assumption); (case hzzq => assumption)); intro _ _ _ _ _)
  k_with "call builtin:str.replace" => (refine rep_none (by with_reducible assumption) ?_; intro _ _)
  k_with "binaryOp Add str str" => (refine PyProof.Rows.add_str ?_ (by refine le_sz ?_; simp only [len_app, len_one]; omega); intro _ _)
  trivial
theorem c_quote (x : Str) (rest : List Nat) (hx : x.cps.toList = 50 :: 50 :: 57 :: 32 :: rest) (hz : x.length ≤ 4000) (hno : 39 ∉ x.cps.toList) (tR : Tok) (news : Led) : CtrV w p loose mean mg mb (.ref 848) news [.str x tR] (fun t => .str (Str.ofString "'" ++ x ++ Str.ofString "'") t) := by
  intro dp un gd cn cs a ccd cl outer A₀ base h₀ L m s Q E B F X N T hk hd hu hret _
  dsimp only at hret
  have hz' : x.length ≤ 5000 := by omega
  have h0 : (Builtin.Str.occurrences x (Str.ofString "'") 0 x.length (x.length + 1)).isEmpty = true := occ_no hno
  have e1 : (Str.ofString "'").length = 1 := rfl
  refine wpAny_call ?_
  k_dflt cell_enter
  refine fold_env ?_
  intro AA en
  k_steps
  · exact hret _ _ _ (by assumption) (by assumption)
  · have hz0 : (x.length : Int) = 0 := by assumption
    have : x.length = rest.length + 4 := by rw [len_toList, hx]; rfl
    omega
end
end Mine
namespace Mine
-- K15
open PySem PySem.W PyProof.Rows PySem.Spec PySem.Calls
set_option maxHeartbeats 8000000
section
variable {w : World} {p : Program} {loose : List Str} {mean : ExcName → Option Value} {mg mb : Str → Option Value}
theorem lines_K15_0 : True := by
  k_with_none
  k_with "lt" => first | with_reducible assumption | exact And.left (by with_reducible assumption) | exact And.left (And.right (by with_reducible assumption)) | exact And.left (And.right (And.right (by with_reducible assumption))) | exact And.left (And.right (And.right (And.right (by with_reducible assumption)))) | exact And.left (And.right (And.right (And.right (And.right (by with_reducible assumption)))))
  k_with "rl" => with_unfolding_all exact rfl
  k_with "omega" => first | (with_reducible exact om_room ‹_›) | (with_reducible exact om_le ‹_› (by k_extra "rl")) | (with_reducible exact om_ne1 (by k_extra "lt")) | lia
  k_with "execs cons" => ((try k_gentoks); refine fold_sh ?_; intro _; first | (with_reducible refine exec_one ?_) | ((with_reducible refine execs_seq ?_); k_fold))
  k_with "SeqQ" => first | refine seq_next ?_ | refine seq_ret ?_ | refine seq_brk ?_ | refine seq_cont ?_
  k_with "exec If" => (with_reducible refine exec_if ?_)
  k_with "IfQ" => first | (refine ifq_no (by with_reducible assumption) ?_) | (refine ifq_yes (by with_reducible assumption) ?_) | (refine ifq_no (by decide) ?_) | (refine ifq_yes (by decide) ?_) | dsimp only [IfQ]
  k_with "callWith ref" => (k_dflt (refine' callWith_841 ?_; k_whole))
  k_with "And" => ((with_reducible show BmAt _ _ ∧ _); k_dflt (refine ⟨bm_841 (by k_asm) (by k_asm), ?_⟩); (try dsimp only [List.nil_append, List.cons_append]))
  k_with "call ref" => (k_dflt (refine' search_K ?Xzq ?Fzq ?Nzq ?hxzq ?hzzq ?_; (case Xzq => k_asm); (case Fzq => k_asm); (case Nzq => k_asm); (case hxzq => assumption); (case hzzq => assumption)); intro _ _ _ _ _)
  k_with "call builtin:str.replace" => (refine rep_none (by with_reducible assumption) ?_; intro _ _)
  k_with "binaryOp Add str str" => (refine PyProof.Rows.add_str ?_ (by refine le_sz ?_; simp only [len_app, len_one]; omega); intro _ _)
  trivial
theorem c_quoteQ (x : Str) (rest : List Nat) (hx : x.cps.toList = 50 :: 50 :: 57 :: 32 :: rest) (hz : x.length ≤ 4000) (hno : 39 ∉ x.cps.toList) (tR : Tok) {A : Around} {E : Value → Shared → Prop} {s : Shared} {Q : Value → Shared → Prop} (X : (KF w.params).In s.heap) (T : Top p loose mean mg mb s.heap) (hroom : A.depth < recursionLimit)
    (hret : ∀ t h' tk, (∀ b o, s.heap.get? b = some o → h'.get? b = some o) → Q (.str (Str.ofString "'" ++ x ++ Str.ofString "'") t) { s with heap := h', toks := tk }) : wpAny (model pw w) A (call (.ref 848) [.str x tR]) Q E s := by
  have hz' : x.length ≤ 5000 := by omega
  have h0 : (Builtin.Str.occurrences x (Str.ofString "'") 0 x.length (x.length + 1)).isEmpty = true := occ_no hno
  have e1 : (Str.ofString "'").length = 1 := rfl
  refine wpAny_call ?_
  refine codeAny_call_plain hroom (X _ _ (by k_is)) rfl T.nolimit (codeRec_of X (by k_is)) rfl rfl (by decide) (by exact locs rfl) fun h₁ hns hk => ?_
  have F : Fr s.heap s.heap.objs.size h₁ _ := ⟨hns, hk, Nat.le_refl _⟩
  have N : News s.heap s.heap.objs.size h₁ [] := fun _ h => nomatch h
  refine fold_env ?_
  intro AA en
  k_steps
  · exact hret _ _ _ (Fr.keep (by assumption : Fr s.heap s.heap.objs.size _ _))
  · have hz0 : (x.length : Int) = 0 := by assumption
    have : x.length = rest.length + 4 := by rw [len_toList, hx]; rfl
    omega
end
end Mine
namespace Mine
-- Gen1
open PySem PySem.W PyProof.Rows PySem.Spec PySem.Calls
set_option maxHeartbeats 8000000
noncomputable def Reply (x : Str) : Prop := (∃ rest, x.cps.toList = 50 :: 50 :: 57 :: 32 :: rest) ∧ x.length ≤ 4000 ∧ 39 ∉ x.cps.toList
noncomputable def quoted (x : Str) : Str := Str.ofString "'" ++ x ++ Str.ofString "'"
section
variable {w : World} {p : Program} {loose : List Str} {mean : ExcName → Option Value} {mg mb : Str → Option Value}
theorem elt_K {A : Around} {E : Value → Shared → Prop} {s : Shared} {env : Env} {g : Heap} {m : Str → Option Value} {x : Str} {t : Tok} {Q : Value → Shared → Prop} {p1 p2 p3 : Pos} (hk : env.scope.kind = .function) (hl : env.kindOf "arg" = some .local) (hgl : env.kindOf "quote" = some .globalImplicit) (hg : env.globals = mainGlobals)
    (X : (KF w.params).In g) (T : Top p loose mean mg mb g) (hs : ∀ b o, g.get? b = some o → s.heap.get? b = some o) (hn : s.heap.Ns env.locals m) (hm : m "arg" = some (.str x t)) (hx : Reply x) (hroom : A.depth < recursionLimit)
    (h : ∀ t h' tk, (∀ b o, s.heap.get? b = some o → h'.get? b = some o) → Q (.str (quoted x) t) { s with heap := h', toks := tk }) :
    wpAny (model pw w) A (eval (.Call (.Name "quote" p1) [.Name "arg" p2] [] p3) env) Q E s := by
  obtain ⟨⟨rest, hr⟩, hz, hno⟩ := hx
  have Xs : (KF w.params).In s.heap := fun a o e => hs a o (X a o e)
  refine Call_ (Name_function_global hk hgl (loadGlobal_global (v := .ref 848) (hg ▸ T.g.keeps hs) (mg_of X T.g (by k_is)) ?_) (by decide))
  refine callWith_K X (by k_is) (args_cons (wpAny_Name (wpAny_loadName_local hk hl hn hm ?_) (by decide)))
  refine args_nil ⟨Xs, ?_⟩
  exact c_quoteQ x rest hr hz hno t Xs (T.keeps hs) hroom h
end
end Mine
namespace Mine
-- Gen2
open PySem PySem.W PyProof.Rows PySem.Spec PySem.Calls
set_option maxHeartbeats 8000000
theorem lines_Gen2_0 : True := by
  k_with_none
  k_with "lt" => first | with_reducible assumption | exact And.left (by with_reducible assumption) | exact And.left (And.right (by with_reducible assumption)) | exact And.left (And.right (And.right (by with_reducible assumption))) | exact And.left (And.right (And.right (And.right (by with_reducible assumption)))) | exact And.left (And.right (And.right (And.right (And.right (by with_reducible assumption)))))
  k_with "rl" => with_unfolding_all exact rfl
  k_with "omega" => first | (with_reducible exact om_room ‹_›) | (with_reducible exact om_le ‹_› (by k_extra "rl")) | (with_reducible exact om_ne1 (by k_extra "lt")) | lia
  trivial
theorem passing_all (n : Nat) : passing (fun _ => true) n 0 = List.range n := by simp [passing]
theorem code_join {w : World} {h₀ : Heap} (X : (KF w.params).In h₀) : CodeHd h₀ 839 835 := by
  have dummy : PySem.Challenge.rw_kt0089_01 = PySem.Challenge.rw_kt0089_01 ∧ KF = KF := by
    k_fill
    exact ⟨rfl, rfl⟩
  clear dummy
  exact ⟨_, _, _, _, _, _, _, _, _, X _ _ (by k_is), rfl, rfl, rfl, rfl, rfl, rfl, rfl, rfl, by decide⟩
theorem strs_get : ∀ {vs : List Value} {ss : List Str} {i : Nat} {v : Value}, StrsAre vs ss → vs[i]? = some v → ∃ z, ss[i]? = some z ∧ ∃ t, v = .str z t
  | _, _, i, _, .nil, h => by simp at h
  | _, _, 0, _, .cons y t r, h => ⟨y, rfl, t, by simpa using h.symm⟩
  | _, _, i + 1, _, .cons y t r, h => by
    obtain ⟨z, hz, t', e⟩ := strs_get r (i := i) (by simpa using h)
    exact ⟨z, by simpa using hz, t', e⟩
noncomputable def GenR (prog : Program) (w : World) (A : Around) (L a : Addr) (ss : List Str) (news : Led) (s : Shared) : Prop :=
  ∃ fp wr g St, WalksS prog w A.in4 a fp wr (GenOnlyQ g) ss.length (fun j v => ∃ z, ss[j]? = some z ∧ ∃ t, v = .str (quoted z) t) St ∧ St 0 s ∧ (∀ i s', St i s' → s'.TypeIs (.ref a) "generator") ∧ a ∈ fp ∧ (∀ b ∈ fp, b < s.heap.objs.size) ∧ ∀ b ∈ wr, L < b ∧ ∀ q ∈ news, q.1 ≠ b
theorem walks_mono {prog : Program} {w : World} {A : Around} {I : Addr} {fp wr : List Addr} {G : Array GenState → Array GenState → Prop} {n n' : Nat} {P P' : Nat → Value → Prop} {St : Nat → Shared → Prop} (W : WalksS prog w A I fp wr G n P St) (hn : n = n') (hP : ∀ j v, P j v → P' j v) : WalksS prog w A I fp wr G n' P' St := by
  subst hn
  exact ⟨W.sub, W.grefl, W.gtrans, W.frame, fun i s Q E hi st hQ => W.item i s Q E hi st fun v s' hp => hQ v s' (hP _ _ hp), W.done, W.self⟩
section
variable {w : World} {p : Program} {loose : List Str} {mean : ExcName → Option Value} {mg mb : Str → Option Value}
theorem gen_K {A : Around} {E : Value → Shared → Prop} {s : Shared} {cn : Str} {cs scope : Scope} {L a l : Addr} {ccd : Value} {cl clos : List (Str × Addr)} {g : Heap} {m : Str → Option Value} {vs : List Value} {ss : List Str} {cap : Nat} {news : Led} {Q : Value → Shared → Prop} {p1 p2 p3 px pi pos : Pos}
    (hh : A.handled = none) (hroom : A.depth + 10 < recursionLimit) (hck : cs.kind = .function) (hci : (envX cn cs L a ccd cl).kindOf "split_command" = some .local)
    (F : Fr g L s.heap m) (N : News g L s.heap ((835, tabObj #[]) :: (l, listOf vs.toArray cap) :: news)) (X : (KF w.params).In g) (T : Top p loose mean mg mb g) (C : CodeHd g 839 835) (hcd : ccd = .ref 839) (hne : ∀ q ∈ (l, listOf vs.toArray cap) :: news, q.1 ≠ 835)
    (hm : m "split_command" = some (.ref l)) (hv : StrsAre vs ss) (hr : ∀ z ∈ ss, Reply z)
    (hco : scope.isCoroutine = false) (hclos : closureFor scope (envX cn cs L a ccd cl) = pure clos) (hcell : ∀ y ∈ scope.names, y.2 ≠ .cell) (h0 : scope.names.lookup (".0" : Str) = some NameKind.local) (hx : scope.names.lookup ("arg" : Str) = some .local) (hq : scope.names.lookup ("quote" : Str) = some .globalImplicit) (hkind : scope.kind = .function)
    (h : ∀ a h' tk gs ps', gs.bare = true → Fr g L h' m → News g L h' ((835, tabObj ps') :: (l, listOf vs.toArray cap) :: news) → GenR pw w A L a ss ((835, tabObj ps') :: (l, listOf vs.toArray cap) :: news) { s with heap := h', toks := tk, gens := s.gens.push gs } → Q (.ref a) { s with heap := h', toks := tk, gens := s.gens.push gs }) :
    wpAny (model pw w) A (eval (.GeneratorExp (.Call (.Name "quote" p1) [.Name "arg" p2] [] p3) [⟨.Name "arg" px, .Name "split_command" pi, [], 0⟩] scope pos) (envX cn cs L a ccd cl)) Q E s := by
  have hl0 := N (l, listOf vs.toArray cap) (.tail _ (.head _))
  have hP0 := N (835, tabObj #[]) (.head _)
  have hls : s.heap.IsList l vs.toArray := ⟨_, hl0.1, rfl, _, rfl⟩
  have hLlt : L < s.heap.objs.size := F.ns.lt
  have hnlt : ∀ q ∈ (835, tabObj #[]) :: (l, listOf vs.toArray cap) :: news, q.1 < s.heap.objs.size := fun q hq => Heap.lt_size (N q hq).1
  have hll : l < s.heap.objs.size := hnlt _ (.tail _ (.head _))
  refine wpAny_GeneratorExp_walksQD hh hco hclos hcell h0 hx hkind (by omega) (nameX_L F hm ?_ hck hci (by decide)) (fun x => rfl)
  refine wpAny_pyIter_list hls ?_
  have hk2 : ∀ b o, s.heap.get? b = some o → (s.heap.push (⟨.type "list_iterator", none, .fields #[.ref l, .int 0 0], #[]⟩ : Obj)).get? b = some o := fun b o e => Heap.get?_push_of_some _ e
  have F2 := F.keeps hk2
  refine ⟨(T.nolimit).keeps F2.keep, ?_⟩
  have C2 := C.keeps F2.keep
  have hP2 := hk2 _ _ hP0.1
  refine wpAny_genexprCodeX hcd (C2.code hP2 (by simp [TriplesOk])) (C2.tab hP2) (by simp [codeAmong]) fun c' h₃ tk₃ hx₃ hge hlt hcode₃ _ htab₃ _ => ?_
  have hsz : s.heap.objs.size + 1 ≤ h₃.objs.size := by
    have : (s.heap.push (⟨.type "list_iterator", none, .fields #[.ref l, .int 0 0], #[]⟩ : Obj)).objs.size ≤ h₃.objs.size := Nat.le_trans hge (Nat.le_of_lt hlt)
    rwa [Heap.size_push] at this
  have hgP : g.get? 835 = none := hP0.2.2
  have keep3 : ∀ b o, b ≠ 835 → s.heap.get? b = some o → h₃.get? b = some o := fun b o hb e => hx₃ b o hb (hk2 b o e)
  have gk3 : ∀ b o, g.get? b = some o → h₃.get? b = some o := fun b o e => keep3 b o (fun q => by rw [q, hgP] at e; cases e) (F.keep b o e)
  obtain ⟨bm, ob, b1, b2, b3, b4, b5, b6⟩ := T.bmain
  refine wpAny_builtinsFor (T.g.keeps gk3) b1 b2 (gk3 _ _ b3) b4 b5 b6 ?_
  have W0 : ∀ A' : Around, A'.handled = none → Walks pw w A' s.heap.objs.size [s.heap.objs.size, l] [s.heap.objs.size] vs.toArray.size (fun i v => vs.toArray[i]? = some v) (fun i h => h.IsListIter s.heap.objs.size l i ∧ h.IsList l vs.toArray) := fun A' hA => Walks.list hA _ _ (Nat.ne_of_lt hll) _
  have hIter : (s.heap.push (⟨.type "list_iterator", none, .fields #[.ref l, .int 0 0], #[]⟩ : Obj)).IsListIter s.heap.objs.size l 0 := ⟨_, Heap.get?_push_size _ rfl, rfl, rfl⟩
  have hPI : (s.heap.objs.size : Nat) ≠ 835 := Nat.ne_of_gt (hnlt _ (.head _))
  refine ⟨s.heap.objs.size, _, _, vs.toArray.size, _, _, fun _ => true, fun i v => ∃ z, ss[i]? = some z ∧ ∃ t, v = .str (quoted z) t, rfl, W0, ⟨hIter.at fun o e => hx₃ _ o hPI e, hls.at fun o e => keep3 _ o (hne _ (.head _)) e⟩, ?_, (T.nolimit).keeps gk3, ?_, ?_, ?_⟩
  · intro b hb
    rcases List.mem_cons.mp hb with rfl | hb
    · exact hsz
    · rw [List.mem_singleton.mp hb]; exact Nat.lt_of_lt_of_le hll (Nat.le_of_succ_le hsz)
  · intro hc
    have hn := (T.nolimit).keeps F.keep
    obtain ⟨_, hn, _⟩ := hn
    exact absurd hn.lt (by rw [List.mem_singleton.mp hc]; exact Nat.lt_irrefl _)
  · intro href hhref
    have stay : ∀ (s₂ : Shared), (∀ b ∈ List.range h₃.objs.size, b ∉ [s.heap.objs.size] → ∀ o, href.get? b = some o → s₂.heap.get? b = some o) → ∀ b o, g.get? b = some o → s₂.heap.get? b = some o := fun s₂ hk b o e => by
      have e3 := gk3 b o e
      refine hk b (List.mem_range.mpr (Heap.lt_size e3)) (fun hb => ?_) o (hhref b o e3)
      have : b < s.heap.objs.size := Heap.lt_size (F.keep b o e)
      rw [List.mem_singleton.mp hb] at this
      exact Nat.lt_irrefl _ this
    refine ⟨fun A' E' i v s₂ m₂ hA hd hu hP hn hm₂ hk => ?_, fun A' E' i v s₂ m₂ hA hd hu hP _ hn hm₂ hk => ?_⟩
    · rw [List.forIn_nil]
      exact wpAny_pure ⟨rfl, s₂.heap, s₂.toks, rfl, fun _ _ e => e⟩
    · have hP' : vs[i]? = some v := by simpa using hP
      obtain ⟨z, hz, t, rfl⟩ := strs_get hv hP'
      refine elt_K (g := g) hkind hx hq rfl X T (stay s₂ hk) hn hm₂ (hr z (List.mem_of_getElem? hz)) (by omega) fun t' h' tk' hk' => ?_
      exact ⟨⟨z, hz, t', rfl⟩, h', tk', rfl, hk'⟩
  · intro a₅ h₅ tk gs hgb hag hsz₅ hk₅ W hat
    have hx5 : ∀ b o, b ≠ 835 → s.heap.get? b = some o → h₅.get? b = some o := fun b o hb e => hk₅ b o (keep3 b o hb e)
    have htab := hk₅ _ _ htab₃.2
    have F5 : Fr g L h₅ m := ⟨F.ns.at fun o e => hx5 _ o (fun q => hP0.2.1 q.symm) e, fun b o e => hk₅ b o (gk3 b o e), F.above⟩
    have N5 : News g L h₅ ((835, tabObj (#[] ++ #[rawInt pos.line, rawInt pos.col, .ref c'])) :: (l, listOf vs.toArray cap) :: news) := fun q hq => by
      rcases List.mem_cons.mp hq with rfl | hq
      · exact ⟨htab, hP0.2⟩
      · exact ⟨hx5 _ _ (hne q hq) (N q (.tail _ hq)).1, (N q (.tail _ hq)).2⟩
    have e1 : (passing (fun _ => true) vs.toArray.size 0).length = ss.length := by rw [passing_all, List.length_range]; simp [hv.length]
    have W' := walks_mono (P' := fun j v => ∃ z, ss[j]? = some z ∧ ∃ t, v = .str (quoted z) t) W e1 fun j v hp => by
      obtain ⟨i, hi, hz⟩ := hp
      rw [passing_all] at hi
      have hij : i = j := by
        have := List.getElem?_eq_some_iff.mp hi
        obtain ⟨_, e⟩ := this
        rw [List.getElem_range] at e
        exact e.symm
      rw [← hij]; exact hz
    refine h a₅ h₅ tk gs _ hgb F5 N5 ⟨_, _, _, _, W', hat, fun i s' st => st.1.typeIs, List.mem_cons_self, ?_, ?_⟩
    · intro b hb
      show b < h₅.objs.size
      rw [hsz₅]
      rcases List.mem_cons.mp hb with rfl | hb
      · exact Nat.lt_succ_self _
      · rcases List.mem_cons.mp hb with rfl | hb
        · exact Nat.lt_succ_of_lt hag
        · exact Nat.lt_succ_of_lt (Nat.lt_trans (List.mem_range.mp hb) hag)
    · intro b hb
      have hb' : s.heap.objs.size ≤ b := by
        rcases List.mem_cons.mp hb with rfl | hb
        · exact Nat.le_of_succ_le hsz
        · rw [List.mem_singleton.mp hb]; exact Nat.le_refl _
      refine ⟨Nat.lt_of_lt_of_le hLlt hb', fun q hq => ?_⟩
      have : q.1 < s.heap.objs.size := by
        rcases List.mem_cons.mp hq with rfl | hq
        · exact hnlt (835, tabObj #[]) (.head _)
        · exact hnlt q (.tail _ hq)
      exact Nat.ne_of_lt (Nat.lt_of_lt_of_le this hb')
theorem join_gen {A : Around} {E : Value → Shared → Prop} {s : Shared} {L a : Addr} {g : Heap} {m : Str → Option Value} {ss : List Str} {led : Led} {sep : Str} {t : Tok} {Q : Value → Shared → Prop} (G : GenR pw w A L a ss led s) (F : Fr g L s.heap m) (N : News g L s.heap led) (hj : JoinOk sep (ss.map quoted) = true) (hz : ss.length ≤ 5000)
    (h : ∀ s' t', Fr g L s'.heap m → News g L s'.heap led → (AllBare s.gens → AllBare s'.gens) → s'.os = s.os → s'.drawn = s.drawn → Q (.str (Txt.join sep (ss.map quoted)) t') s') : wpAny (model pw w) A (call (.builtin "str.join") [.str sep t, .ref a]) Q E s := by
  obtain ⟨fp, wr, gi, St, W, hst, hT, ha, hfp, hwr⟩ := G
  have W := W.in4_2
  refine SC.joinGen W hT hst hfp ha (fun j v hv => let ⟨z, _, u, e⟩ := hv; ⟨_, u, e⟩) (fun s' lt hm hacc => ?_) (le_sz hz)
  have hl : lt.map (·.1) = ss.map quoted := by
    apply List.ext_getElem?
    intro j
    have hsz : lt.length = ss.length := by simpa [strValues] using hacc.1
    by_cases hj : j < ss.length
    · have hj' : j < lt.length := hsz ▸ hj
      obtain ⟨z, hz, u, hv⟩ := hacc.2 j (.str lt[j].1 lt[j].2) (by simp [strValues, List.getElem?_eq_getElem hj'])
      injection hv with h1 _
      rw [List.getElem?_map, List.getElem?_map, hz, List.getElem?_eq_getElem hj', Option.map_some, Option.map_some, h1]
    · rw [List.getElem?_eq_none (by simpa [hsz] using Nat.le_of_not_lt hj), List.getElem?_eq_none (by simpa using Nat.le_of_not_lt hj)]
  rw [hl]
  have f1 : Fr g L s'.heap m := F.moved hm fun b hb => (hwr b hb).1
  have n1 : News g L s'.heap led := fun q hq => ⟨hm.heap _ _ (fun hb => (hwr _ hb).2 q hq rfl) (N q hq).1, (N q hq).2⟩
  have g1 : AllBare s.gens → AllBare s'.gens := fun ab => ab.movedS hm
  have o1 := hm.os
  have d1 := hm.drawn
  exact ⟨hj, fun t' k => h { s' with toks := k } t' f1 n1 g1 o1 d1⟩
end
end Mine
namespace Mine
-- K16
open PySem PySem.W PyProof.Rows PySem.Spec PySem.Calls
set_option maxHeartbeats 8000000
section
variable {w : World} {p : Program} {loose : List Str} {mean : ExcName → Option Value} {mg mb : Str → Option Value}
theorem lines_K16_0 : True := by
  k_with_none
  k_with "lt" => first | with_reducible assumption | exact And.left (by with_reducible assumption) | exact And.left (And.right (by with_reducible assumption)) | exact And.left (And.right (And.right (by with_reducible assumption))) | exact And.left (And.right (And.right (And.right (by with_reducible assumption)))) | exact And.left (And.right (And.right (And.right (And.right (by with_reducible assumption)))))
  k_with "rl" => with_unfolding_all exact rfl
  k_with "omega" => first | (with_reducible exact om_room ‹_›) | (with_reducible exact om_le ‹_› (by k_extra "rl")) | (with_reducible exact om_ne1 (by k_extra "lt")) | lia
  k_with "execs cons" => ((try k_gentoks); refine fold_sh ?_; intro _; first | (with_reducible refine exec_one ?_) | ((with_reducible refine execs_seq ?_); k_fold))
  k_with "SeqQ" => first | refine seq_next ?_ | refine seq_ret ?_ | refine seq_brk ?_ | refine seq_cont ?_
  k_with "eval GeneratorExp" => refine hold ?_
  k_with "call builtin:str.join" => refine hold ?_
  trivial
theorem quoted_len (z : Str) : (quoted z).length = z.length + 2 := by
  unfold quoted
  rw [len_app, len_app]
  have e : (Str.ofString "'").length = 1 := rfl
  omega
theorem quoted_sum : ∀ ss : List Str, (∀ z ∈ ss, Reply z) → ((ss.map quoted).map (·.length)).sum ≤ ss.length * 4002
  | [], _ => Nat.le_refl _
  | a :: r, h => by
    have h1 := quoted_sum r fun z hz => h z (.tail _ hz)
    have h2 := (h a (.head _)).2.1
    have h3 := quoted_len a
    simp only [List.map_cons, List.sum_cons, List.length_cons]
    omega
noncomputable abbrev CtrJ (rd ru : Nat) (w : World) (p : Program) (loose : List Str) (mean : ExcName → Option Value) (mg mb : Str → Option Value) (f : Value) (news : Led) (vs : List Value) (Post : (Value → Led → Prop) → Prop) : Prop :=
  ∀ (dp un : Nat) (gd : Option (List Code)) (cn : Str) (cs : Scope) (a : Addr) (ccd : Value) (cl : List (Str × Addr)) (outer : List Env) (A₀ : Around) (base h₀ : Heap) (L : Addr) (m : Str → Option Value) (s : Shared) (Q E : Value → Shared → Prop),
    Below A₀ base outer h₀ → Fr h₀ L s.heap m → (KF w.params).In h₀ → News h₀ L s.heap news → Top p loose mean mg mb h₀ → cs.kind = .function → dp + rd < recursionLimit → un + ru < cLine →
    (Post fun v news' => ∀ (s' : Shared), Fr h₀ L s'.heap m → News h₀ L s'.heap news' → (AllBare s.gens → AllBare s'.gens) → s'.os = s.os → s'.drawn = s.drawn → Q v s') →
      wpAny (model pw w) (ktrTop dp un gd cn cs L a ccd cl outer) (call f vs) Q E s
theorem c_join (l : Addr) (cap : Nat) (vs : List Value) (ss : List Str) (hv : StrsAre vs ss) (hr : ∀ z ∈ ss, Reply z) (hn : ss.length ≤ 20) (news : Led) (hne : ∀ q ∈ (l, listOf vs.toArray cap) :: news, q.1 ≠ 835) : CtrJ 80 400 w p loose mean mg mb (.ref 840) ((835, tabObj #[]) :: (l, listOf vs.toArray cap) :: news) [.ref l]
   (fun k => ∀ t ps, k (.str (Txt.join (Str.ofString " ") (ss.map quoted)) t) ((835, tabObj ps) :: (l, listOf vs.toArray cap) :: news)) := by
  intro dp un gd cn cs a ccd cl outer A₀ base h₀ L m s Q E B F X N T hk hd hu hret
  dsimp only at hret
  have hj : JoinOk (Str.ofString " ") (ss.map quoted) = true := joinOk_of (by have := quoted_sum ss hr; rw [List.length_map]; have e : (Str.ofString " ").length = 1 := rfl; rw [e]; omega)
  refine wpAny_call ?_
  k_dflt cell_enter
  refine fold_env ?_
  intro AA en
  k_steps
  unfold Hold
  refine' gen_K (cs := _) ?hh ?hroom rfl rfl ?F ?N ?X ?T ?C ?hcd hne ?hm hv hr rfl rfl ?hcell rfl rfl rfl rfl ?_
  case hh => exact rfl
  case hroom =>
    show dp + 1 + 10 < recursionLimit
    omega
  case F => k_asm
  case N => k_asm
  case X => k_asm
  case T => k_asm
  case C => exact code_join (by assumption)
  case hcd => exact rfl
  case hm => exact rfl
  case hcell => decide
  intro a5 h5 tk5 gs5 ps5 hb5 F5 N5 G5
  k_steps
  unfold Hold
  refine join_gen G5 (by assumption) (by assumption) hj (by omega) fun s6 t6 F6 N6 g6 o6 d6 => ?_
  k_steps
  exact hret t6 ps5 s6 (by assumption) (by assumption) (fun ab => g6 (ab.push hb5)) o6 d6
end
end Mine
namespace Mine
-- Sio2
open PySem PySem.W PyProof.Rows PySem.Spec PySem.Calls
set_option maxHeartbeats 8000000
section
variable {w : World} {h : Heap}
theorem sio_base (X : (KF w.params).In h) : Looks (model pw w) h (Bind.staticBase (.ref 686)) (.type "object") := Looks.of_peek X (by kernel_rfl)
theorem sio_made (X : (KF w.params).In h) : Looks (model pw w) h (Bind.madeBy (.ref 686)) none := Looks.of_peek X (by kernel_rfl)
theorem sio_self (X : (KF w.params).In h) : Looks (model pw w) h (isSubtype (.ref 686) (.ref 686)) true := Looks.of_peek X (by kernel_rfl)
theorem sio_top (X : (KF w.params).In h) : Looks (model pw w) h (isSubtype (.ref 686) (.type "object")) true := Looks.of_peek X (by kernel_rfl)
variable {A : Around} {R : Result → Shared → Prop} {g : Array GenState} {d : Drawn} {t : Nat} {os : OsState}
theorem new_sio (X : (KF w.params).In h) (hq : R (.ok (.ret (.ref (h.objs.size + 1)))) ⟨(h.push emptyDict).push (instObj 686 h.objs.size), g, d, t, os⟩) :
    codeAny (model pw w) A (.call (.builtin "object.__new__") ⟨[.ref 686], []⟩) R ⟨h, g, d, t, os⟩ := by
  have hC := X 686 _ (by k_is)
  have F := PySem.F.objNew
  have made := Looks.of_pure (M := model pw w) (h := h) called_object.made
  have base := sio_base X
  have self := sio_self X
  have top := sio_top X
  refine codeAny_call_builtin_code (Code.quiet_builtin _ F.quiet) ?_
  simp only [checkBuiltinCall, F.kind, F.split, F.row]
  have here : Looks (model pw w) h (Bind.madeHere "object.__new__" (.ref 686)) () := base.andThen (made.andThen (Looks.of_pure (by simp only [Option.map_some, bne_self_eq_false, Bool.false_eq_true, if_false])))
  have args : Bind.checkArgs "object.__new__" ⟨.hand, "object.__new__", "__new__", .cls, []⟩ ⟨[.ref 686], []⟩ = pure () := by kernel_rfl
  rw [args]
  repeat (first | simp only [bne_self_eq_false, Bool.false_eq_true, if_false] | lk)
  refine codeAny_builtin F.entry ?_
  unfold Builtin.«object.__new__»
  have fin : ∀ A', wpAny (model pw w) A' (do
      let d ← if typeHasDict (.ref 686) then some <$> alloc { cls := .type "dict", data := .dict #[] } else pure none
      ret (← newObj (.ref 686) .plain d)) (fun fin s' => match fin with | .done f => R (.ok f) s' | .again c' => c'.quiet = true ∧ codeAny (model pw w) A c' R s') (fun e s' => R (.error e) s') ⟨h, g, d, t, os⟩ := by
    intro A'
    show wpAny _ _ ((alloc emptyDict >>= fun x => pure (some x)) >>= _) _ _ _
    refine wpAny_bind (wpAny_bind (wpAny_alloc (wpAny_pure (wpAny_bind ?_))))
    show wpAny _ _ (newObjAsIs _ _ _) _ _ _
    unfold newObjAsIs classHasDel
    refine wpAny_bind (wpAny_alloc (wpAny_bind (wpAny_bind (wpAny_load (Heap.get?_push_of_some _ (Heap.get?_push_of_some _ hC)) (wpAny_pure ?_)))))
    refine wpAny_pure (wpAny_pure ?_)
    show R _ _
    rw [Heap.size_push]
    exact hq
  repeat (first | simp only [Bool.false_eq_true, if_false] | exact fin _ | lk)
end
end Mine
namespace Mine
-- Sio
open PySem PySem.W PyProof.Rows PySem.Spec PySem.Calls
set_option maxHeartbeats 8000000
section
variable {w : World} {p : Program} {loose : List Str} {mean : ExcName → Option Value} {mg mb : Str → Option Value}
theorem lines_Sio_0 : True := by
  k_with_none
  k_with "lt" => first | with_reducible assumption | exact And.left (by with_reducible assumption) | exact And.left (And.right (by with_reducible assumption)) | exact And.left (And.right (And.right (by with_reducible assumption))) | exact And.left (And.right (And.right (And.right (by with_reducible assumption)))) | exact And.left (And.right (And.right (And.right (And.right (by with_reducible assumption)))))
  k_with "rl" => with_unfolding_all exact rfl
  k_with "omega" => first | (with_reducible exact om_room ‹_›) | (with_reducible exact om_le ‹_› (by k_extra "rl")) | (with_reducible exact om_ne1 (by k_extra "lt")) | lia
  k_with "execs cons" => ((try k_gentoks); refine fold_sh ?_; intro _; first | (with_reducible refine exec_one ?_) | ((with_reducible refine execs_seq ?_); k_fold))
  k_with "SeqQ" => first | refine seq_next ?_ | refine seq_ret ?_ | refine seq_brk ?_ | refine seq_cont ?_
  k_with "exec If" => (with_reducible refine exec_if ?_)
  k_with "IfQ" => first | (refine ifq_no (by with_reducible assumption) ?_) | (refine ifq_yes (by with_reducible assumption) ?_) | (refine ifq_no (by decide) ?_) | (refine ifq_yes (by decide) ?_) | dsimp only [IfQ]
  k_with "compareOp IsNot ref ref" => first | refine wpAny_isNot_ref_self ?_ | (k_dflt (refine' wpAny_isNot_ref_other ?azq ?bzq ?czq ?dzq ?_; (case azq => decide); (case bzq => exact Fr.keep (by assumption) _ _ ((by assumption : Frag.In _ _) _ _ (by k_is))); (case czq => exact Fr.keep (by assumption) _ _ ((by assumption : Frag.In _ _) _ _ (by k_is))); (case dzq => decide)))
  k_with "call builtin:object.__new__" => refine hold ?_
  trivial
theorem sio_new (x : Str) (tR : Tok) {A : Around} {E : Value → Shared → Prop} {s : Shared} {Q : Value → Shared → Prop} (X : (KF w.params).In s.heap) (T : Top p loose mean mg mb s.heap) (hroom : A.depth < recursionLimit)
    (hret : ∀ o dx h' tk, (∀ b o, s.heap.get? b = some o → h'.get? b = some o) → h'.get? o = some (instObj 686 dx) → h'.get? dx = some emptyDict → s.heap.objs.size ≤ dx → dx < o → Q (.ref o) { s with heap := h', toks := tk }) : wpAny (model pw w) A (call (.ref 179) [.ref 686, .str x tR]) Q E s := by
  refine wpAny_call (codeAny_call_function hroom (X _ _ (by k_is)) rfl rfl rfl rfl (codeRec_of X (by k_is)) ?_)
  unfold bindArgs
  obtain ⟨hp, g, d, tk, os⟩ := s
  repeat (any_goals (first | assumption | ((with_reducible show wpAny _ _ (newFunctionEnv _ _ _ _ _ _ _ _ _) _ _ _); refine hold ?_) | wp_step))
  unfold Hold
  have k1 : ∀ b o, hp.get? b = some o → ((hp.push (⟨.type "tuple", none, .seq #[.str x tR] 0, #[]⟩ : Obj)).push emptyDict).get? b = some o := fun b o e => Heap.get?_push_of_some _ (Heap.get?_push_of_some _ e)
  refine wpAny_newFunctionEnv (by decide) (by exact locs rfl) (fun h₁ hns hsb => ⟨((T.nolimit).keeps k1).fresh _ hsb, codeAny_func ?_⟩) rfl
  have F : Fr hp (((hp.push (⟨.type "tuple", none, .seq #[.str x tR] 0, #[]⟩ : Obj)).push emptyDict).objs.size) h₁ _ := ⟨hns, fun b o e => hsb.extBut b o (Nat.ne_of_lt (Heap.lt_size (k1 b o e))) (Heap.get?_push_of_some _ (k1 b o e)), by simp only [Heap.size_push]; omega⟩
  have N : News hp (((hp.push (⟨.type "tuple", none, .seq #[.str x tR] 0, #[]⟩ : Obj)).push emptyDict).objs.size) h₁ [] := fun _ h => nomatch h
  refine fold_env ?_
  intro AA en
  clear hsb hns
  k_steps
  unfold Hold
  have F9 := (by assumption : Fr hp _ _ _)
  refine wpAny_call (new_sio (X.keeps F9.keep) ?_)
  refine hret _ _ _ _ (fun b o e => Heap.get?_push_of_some _ (Heap.get?_push_of_some _ (F9.keep b o e))) (by heap_get) (Heap.get?_push_of_some _ (Heap.get?_push_size _ rfl)) ?_ (Nat.lt_succ_self _)
  exact Nat.le_of_lt (Nat.lt_of_le_of_lt F9.above F9.ns.lt)
end
end Mine
namespace Mine
-- Sio3
open PySem PySem.W PyProof.Rows PySem.Spec PySem.Calls
set_option maxHeartbeats 8000000
section
variable {w : World} {p : Program} {loose : List Str} {mean : ExcName → Option Value} {mg mb : Str → Option Value}
theorem make_sio (x : Str) (tR : Tok) {A : Around} {R : Result → Shared → Prop} {s : Shared} (X : (KF w.params).In s.heap) (T : Top p loose mean mg mb s.heap) (hroom : A.depth + 1 < recursionLimit)
    (hq : ∀ o dx h' tk, (∀ b o, s.heap.get? b = some o → h'.get? b = some o) → h'.get? o = some (instObj 686 dx) → h'.get? dx = some emptyDict → s.heap.objs.size ≤ dx → dx < o →
      codeAny (model pw w) (A.under (.builtin "type.__call__" ⟨[.ref 686, .str x tR], []⟩)) (.call (.ref 456) ⟨[.ref o, .str x tR], []⟩) (InitBack o R) { s with heap := h', toks := tk }) :
    codeAny (model pw w) A (.call (.ref 686) ⟨[.str x tR], []⟩) R s := by
  obtain ⟨h, g, d, t, os⟩ := s
  have hC := X 686 _ (by k_is)
  have call : Looks (model pw w) h (specialOf (.ref 686) "__call__") (some (.builtin "type.__call__")) := looks_specialIn X (by k_is)
  have typ : Looks (model pw w) h (isInstance (.ref 686) (.type "type")) true := looks_instIn X (by k_is)
  have made := sio_made X
  have self := sio_self X
  refine codeAny_of_tree ?_
  show wpAny _ _ (callAny (.ref 686) _) _ _ _
  refine nd_load hC ?_
  show wpAny _ _ (callAny.viaDunder (.ref 686) _) _ _ _
  unfold callAny.viaDunder
  refine wpAny_bind (call.at ?_)
  dsimp only
  rw [tc_bind]
  refine wpAny_bind (wpAny_pure (wpAny_bind (wpAny_pure ?_)))
  refine wpAny_pure (a := Fin.again (.call (.builtin "type.__call__") ⟨[.ref 686, .str x tR], []⟩)) (And.intro rfl ?_)
  refine codeAny_call_builtin_at (Code.quiet_builtin _ (by decide +kernel)) entry_typeCall (check_slot tc_kind tc_split typ (tc_args _ _ _) ?_)
  unfold Builtin.«type.__call__»
  have hm : Looks (model pw w) h (mroOf (.ref 686)) [.ref 686, .ref 209, .ref 182, .type "object"] := ((Looks.ld (part := none) hC).andThen .now).andThen .now
  repeat (first | ((with_reducible show wpAny _ _ (getAttr _ _ _) _ _ _); refine hold ?_) | simp only [List.isEmpty_cons, Bool.false_eq_true, if_false] | lk)
  unfold Hold
  refine cls_bind (mc := .type "type") (g := .builtin "staticmethod.__get__") (a := .ref 183) (obj := .none) (tp := .ref 686) X (by k_is) (by k_is) (wpAny_call (sm_get (f := .ref 179) (s := ⟨h, g, d, t + 1, os⟩) X (by k_is) (handed_on rfl ?_)))
  refine wpAny_bind (wpAny_holding (sio_new x tR X T (by rw [depth_under_make]; exact hroom) fun o dx h' tk hk ho hd h1 h2 => ?_))
  have t1 : Looks (model pw w) h' (typeOf (.ref o)) (.ref 686) := (Looks.ld ho).andThen .now
  have s1 := self.keeps hk
  have X' : (KF w.params).In h' := X.keeps hk
  have i1 : Looks (model pw w) h' (typeLookup (.ref 686) "__init__") (some (.ref 456)) := looks_findIn X' (by k_is)
  have b1 : Looks (model pw w) h' (bindSpecial (.ref 456) (.ref o)) (.ref 456, [.ref o]) := bind_fn X' (.ref o) (by k_is)
  unfold isInstance callSpecial? specialOf
  repeat (first | with_reducible refine wpAny_call ?_ | lk)
  refine codeAny_mono (hq o dx h' tk hk ho hd h1 h2) fun r s' z => ?_
  rcases r with e | (v | _ | _ | _) <;> first | exact z | exact z.elim | skip
  obtain ⟨rfl, z⟩ := z
  exact wpAny_pure (wpAny_pure z)
end
end Mine
namespace Mine
-- Sio4
open PySem PySem.W PyProof.Rows PySem.Spec PySem.Calls
set_option maxHeartbeats 8000000
noncomputable abbrev sioEs (P : Params) (b : Str) (tb : Tok) (ps : Int) (tp : Tok) (ks : Tok × Tok × Tok) : List DictEntry :=
  [⟨PyData.keyHash P (Str.ofString "_StringIO__newline"), .str (Str.ofString "_StringIO__newline") ks.1, .str (Str.ofString "\n") 1072⟩, ⟨PyData.keyHash P (Str.ofString "_StringIO__buf"), .str (Str.ofString "_StringIO__buf") ks.2.1, .str b tb⟩, ⟨PyData.keyHash P (Str.ofString "_StringIO__pos"), .str (Str.ofString "_StringIO__pos") ks.2.2, .int ps tp⟩]
section
variable {w : World} {p : Program} {loose : List Str} {mean : ExcName → Option Value} {mg mb : Str → Option Value}
theorem lines_Sio4_0 : True := by
  k_with_none
  k_with "lt" => first | with_reducible assumption | exact And.left (by with_reducible assumption) | exact And.left (And.right (by with_reducible assumption)) | exact And.left (And.right (And.right (by with_reducible assumption))) | exact And.left (And.right (And.right (And.right (by with_reducible assumption)))) | exact And.left (And.right (And.right (And.right (And.right (by with_reducible assumption)))))
  k_with "rl" => with_unfolding_all exact rfl
  k_with "omega" => first | (with_reducible exact om_room ‹_›) | (with_reducible exact om_le ‹_› (by k_extra "rl")) | (with_reducible exact om_ne1 (by k_extra "lt")) | lia
  k_with "execs cons" => ((try k_gentoks); refine fold_sh ?_; intro _; first | (with_reducible refine exec_one ?_) | ((with_reducible refine execs_seq ?_); k_fold))
  k_with "SeqQ" => first | refine seq_next ?_ | refine seq_ret ?_ | refine seq_brk ?_ | refine seq_cont ?_
  k_with "exec If" => (with_reducible refine exec_if ?_)
  k_with "IfQ" => first | (refine ifq_no (by with_reducible assumption) ?_) | (refine ifq_yes (by with_reducible assumption) ?_) | (refine ifq_no (by decide) ?_) | (refine ifq_yes (by decide) ?_) | dsimp only [IfQ]
  k_with "storeName" => (k_dflt (refine' storeX_F ?Fzq ?Nzq ?_ ?azq ?bzq; (case Fzq => k_asm); (case Nzq => k_asm); (case azq => rfl); (case bzq => rfl); k_whole); intro _ _ _ _; (try k_sweep))
  k_with "k_all" => first | assumption | exact ne_allLt (by first | assumption | exact And.right (by assumption) | exact And.right (And.right (by assumption)) | exact And.right (And.right (And.right (by assumption))))
  k_with "ktr_enter" => (refine' code_def ?k1zq ?k2zq ?k3zq ?k4zq ?k5zq ?kAzq ?kFzq ?kKzq ?k6zq ?k7zq ?k8zq ?k9zq ?kBzq ?_ ?c2zq ?c3zq ?c4zq ?c5zq; (case kAzq => exact rfl); (case kFzq => exact rfl); (case kKzq => first | assumption | exact rfl); (case k1zq => k_asm); (case k2zq => k_asm); (case k3zq => k_asm); (case k4zq => k_asm); (case k5zq => k_asm); (case k6zq => k_is); (case k7zq => k_is); (case k8zq => ktr_room); (case k9zq => first | exact BindsTo.of_eq rfl | exact binds_K (by k_in) rfl (by k_is) rfl rfl rfl); (case c5zq => decide); (case kBzq => exact locs rfl); (case c2zq => exact rfl); (case c3zq => exact rfl); (case c4zq => exact rfl); k_whole; intro _ _ _ _ _ _ _ _ _; (try dsimp only); (try k_fold))
  k_with "call ref" => (k_dflt (refine wpAny_call ?_; ktr_enter))
  trivial
theorem c_sioinit (x : Str) (tR : Tok) (hx : x.length ≤ 2000) (news : Led) (o dx : Addr) (dp un : Nat) (gd : Option (List Code)) (cn : Str) (cs : Scope) (a : Addr) (ccd : Value) (cl : List (Str × Addr)) (outer : List Env) (A₀ : Around) (base h₀ : Heap) (L : Addr) (m : Str → Option Value) (s : Shared) (R : Result → Shared → Prop)
    (B : Below A₀ base outer h₀) (F : Fr h₀ L s.heap m) (X : (KF w.params).In h₀) (N : News h₀ L s.heap ((o, instObj 686 dx) :: (dx, dictOf [] 0) :: news)) (T : Top p loose mean mg mb h₀) (hk : cs.kind = .function) (hd : dp + 40 < recursionLimit) (hu : un + 200 < cLine) (hl1 : ∀ q ∈ news, q.1 < dx) (hl2 : dx < o)
    (hret : ∀ ks tp h' tk', Fr h₀ L h' m → News h₀ L h' ((o, instObj 686 dx) :: (dx, dictOf (sioEs w.params x tR 0 tp ks) 3) :: news) → R (.ok (.ret .none)) { s with heap := h', toks := tk' }) :
    codeAny (model pw w) (ktrTop dp un gd cn cs L a ccd cl outer) (.call (.ref 456) ⟨[.ref o, .str x tR], []⟩) R s := by
  have hl1 := allLt_of hl1
  have hl2 : @LT.lt Nat _ dx o := hl2
  k_dflt ktr_enter
  k_steps
  exact hret (_, _, _) _ _ _ (by assumption) (by assumption)
theorem c_sio (x : Str) (tR : Tok) (hx : x.length ≤ 2000) (news : Led) : CtrN 60 300 w p loose mean mg mb (.ref 686) news [.str x tR]
   (fun k => ∀ o dx ks tp, (∀ q ∈ news, q.1 < dx) → dx < o → k (.ref o) ((o, instObj 686 dx) :: (dx, dictOf (sioEs w.params x tR 0 tp ks) 3) :: news)) (fun _ => True) := by
  intro dp un gd cn cs a ccd cl outer A₀ base h₀ L m s Q E B F X N T hk hd hu hret _
  dsimp only at hret
  refine wpAny_call (make_sio x tR (X.keeps F.keep) (T.keeps F.keep) (by show dp + 1 < recursionLimit; omega) fun o dx h' tk' hkp ho hdx h1 h2 => ?_)
  have F' := F.keeps hkp
  have hLd : L < dx := Nat.lt_of_lt_of_le F.ns.lt h1
  have fresh : ∀ b, L < b → h₀.get? b = none := fun b hb => Heap.get?_none_of_le (Nat.le_trans F.above (Nat.le_of_lt hb))
  have hlt : ∀ q ∈ news, q.1 < dx := fun q hq => Nat.lt_of_lt_of_le (Heap.lt_size (N q hq).1) h1
  have N' : News h₀ L h' ((o, instObj 686 dx) :: (dx, dictOf [] 0) :: news) := fun q hq => by
    rcases List.mem_cons.mp hq with rfl | hq
    · exact ⟨ho, Nat.ne_of_gt (Nat.lt_trans hLd h2), fresh _ (Nat.lt_trans hLd h2)⟩
    · rcases List.mem_cons.mp hq with rfl | hq
      · exact ⟨hdx, Nat.ne_of_gt hLd, fresh _ hLd⟩
      · exact ⟨hkp _ _ (N q hq).1, (N q hq).2⟩
  exact c_sioinit x tR hx news o dx _ _ _ cn cs a ccd cl outer A₀ base h₀ L m { s with heap := h', toks := tk' } _ B F' X N' T hk (by show dp + 1 + 40 < recursionLimit; omega) (by first | (show un + 0 + 200 < cLine; omega) | (show un + 1 + 200 < cLine; omega) | (show un + 3 + 200 < cLine; omega) | (show un + 4 + 200 < cLine; omega) | (show un + 5 + 200 < cLine; omega) | (show un + 6 + 200 < cLine; omega) | (show un + 7 + 200 < cLine; omega) | (show un + 8 + 200 < cLine; omega) | (show un + 10 + 200 < cLine; omega) | (show un + 12 + 200 < cLine; omega)) hlt h2 fun ks tp h9 tk9 F9 N9 => ⟨rfl, hret o dx ks tp hlt h2 h9 tk9 F9 N9⟩
end
end Mine
namespace Mine
-- K18
open PySem PySem.W PyProof.Rows PySem.Spec PySem.Calls
set_option maxHeartbeats 8000000
section
variable {w : World} {p : Program} {loose : List Str} {mean : ExcName → Option Value} {mg mb : Str → Option Value}
theorem lines_K18_0 : True := by
  k_with_none
  k_with "lt" => first | with_reducible assumption | exact And.left (by with_reducible assumption) | exact And.left (And.right (by with_reducible assumption)) | exact And.left (And.right (And.right (by with_reducible assumption))) | exact And.left (And.right (And.right (And.right (by with_reducible assumption)))) | exact And.left (And.right (And.right (And.right (And.right (by with_reducible assumption)))))
  k_with "rl" => with_unfolding_all exact rfl
  k_with "omega" => first | (with_reducible exact om_room ‹_›) | (with_reducible exact om_le ‹_› (by k_extra "rl")) | (with_reducible exact om_ne1 (by k_extra "lt")) | lia
  k_with "execs cons" => ((try k_gentoks); refine fold_sh ?_; intro _; first | (with_reducible refine exec_one ?_) | ((with_reducible refine execs_seq ?_); k_fold))
  k_with "SeqQ" => first | refine seq_next ?_ | refine seq_ret ?_ | refine seq_brk ?_ | refine seq_cont ?_
  k_with "exec If" => (with_reducible refine exec_if ?_)
  k_with "IfQ" => first | (refine ifq_no (by with_reducible assumption) ?_) | (refine ifq_yes (by with_reducible assumption) ?_) | (refine ifq_no (by decide) ?_) | (refine ifq_yes (by decide) ?_) | dsimp only [IfQ]
  k_with "storeName" => (k_dflt (refine' storeX_F ?Fzq ?Nzq ?_ ?azq ?bzq; (case Fzq => k_asm); (case Nzq => k_asm); (case azq => rfl); (case bzq => rfl); k_whole); intro _ _ _ _; (try k_sweep))
  k_with "k_all" => first | assumption | exact ne_allLt (by first | assumption | exact And.right (by assumption) | exact And.right (And.right (by assumption)) | exact And.right (And.right (And.right (by assumption))))
  k_with "ktr_enter" => (refine' code_def ?k1zq ?k2zq ?k3zq ?k4zq ?k5zq ?kAzq ?kFzq ?kKzq ?k6zq ?k7zq ?k8zq ?k9zq ?kBzq ?_ ?c2zq ?c3zq ?c4zq ?c5zq; (case kAzq => exact rfl); (case kFzq => exact rfl); (case kKzq => first | assumption | exact rfl); (case k1zq => k_asm); (case k2zq => k_asm); (case k3zq => k_asm); (case k4zq => k_asm); (case k5zq => k_asm); (case k6zq => k_is); (case k7zq => k_is); (case k8zq => ktr_room); (case k9zq => first | exact BindsTo.of_eq rfl | exact binds_K (by k_in) rfl (by k_is) rfl rfl rfl); (case c5zq => decide); (case kBzq => exact locs rfl); (case c2zq => exact rfl); (case c3zq => exact rfl); (case c4zq => exact rfl); k_whole; intro _ _ _ _ _ _ _ _ _; (try dsimp only); (try k_fold))
  k_with "subscriptTail" => ((with_reducible show wpAny _ _ (subscriptTail _ (Expr.Slice _ _ _ _) (Value.str _ _) _) _ _ _); (first | ((with_reducible show wpAny _ _ (subscriptTail _ (Expr.Slice (some _) (some _) none _) _ _) _ _ _); refine sl_ss (s := ⟨_, _, _, _, _⟩) (by with_reducible assumption) (by assumption) (by k_asm) (by k_asm) ?_) | refine sl_ns (s := ⟨_, _, _, _, _⟩) (by with_reducible assumption) (by assumption) (by k_asm) (by k_asm) ?_); intro _ _ _ _ _)
  k_with "ite" => first | (refine ite_no (by with_reducible assumption) ?_) | (refine ite_yes (by with_reducible assumption) ?_) | (refine ite_no (by decide) ?_) | (refine ite_yes (by decide) ?_)
  k_with "call ref" => (k_dflt (refine wpAny_call ?_; ktr_enter))
  trivial
theorem c_readE (b : Str) (tb : Tok) (hb : b.length ≤ 2000) (news : Led) (o dx : Addr) (tp t1 : Tok) (ks : Tok × Tok × Tok) (hl1 : ∀ p ∈ news, p.1 ≠ dx) (hl2 : @LT.lt Nat _ dx o) : CtrN 60 300 w p loose mean mg mb (.ref 632) ((o, instObj 686 dx) :: (dx, dictOf (sioEs w.params b tb b.length tp ks) 3) :: news) [.ref o, .int 1 t1]
   (fun k => ∀ t, k (.str (Str.ofString "") t) ((o, instObj 686 dx) :: (dx, dictOf (sioEs w.params b tb b.length tp ks) 3) :: news)) (fun _ => True) := by
  intro dp un gd cn cs a ccd cl outer A₀ base h₀ L m s Q E B F X N T hk hd hu hret _
  dsimp only at hret
  have hge : decide ((b.length : Int) ≤ b.length) = true := decide_eq_true (Int.le_refl _)
  refine wpAny_call ?_
  k_dflt ktr_enter
  k_steps
  exact hret _ _ _ (by assumption) (by assumption)
theorem sl_tail (c : Nat) : Txt.slice ((⟨#[c]⟩ : Str) ++ Str.ofString " ") none (some (-1)) = ⟨#[c]⟩ := by
  rw [eq_of_beq (slice_closes_to_neg (k := 1) (by decide) (by rw [len_app, len_one]; decide) (by rw [len_app, len_one]; decide))]
  rfl
theorem sl_one {b : Str} {i : Nat} {c : Nat} (h : b.cps.toList[i]? = some c) : Txt.slice b (some (i : Int)) (some ((i : Int) + 1)) = ⟨#[c]⟩ := by
  have hi : i < b.cps.toList.length := by
    rcases Nat.lt_or_ge i b.cps.toList.length with h1 | h1
    · exact h1
    · rw [List.getElem?_eq_none h1] at h; cases h
  rw [slice_mid ⟨by omega, by omega, by omega⟩]
  have e : ((i : Int) + 1 - i).toNat = 1 := by omega
  rw [e, Int.toNat_natCast, List.drop_eq_getElem_cons hi]
  rw [List.getElem?_eq_getElem hi] at h
  rw [Option.some.inj h]; rfl
theorem lines_K18_1 : True := by
  k_with "binaryOp Add str str" => (refine PyProof.Rows.add_str ?_ (le_sz (by assumption)); intro _ _)
  trivial
theorem c_read (b : Str) (tb : Tok) (hb : b.length ≤ 2000) (i c : Nat) (hc : b.cps.toList[i]? = some c) (news : Led) (o dx : Addr) (tp t1 : Tok) (ks : Tok × Tok × Tok) (hl1 : ∀ p ∈ news, p.1 ≠ dx) (hl2 : @LT.lt Nat _ dx o) : CtrN 60 300 w p loose mean mg mb (.ref 632) ((o, instObj 686 dx) :: (dx, dictOf (sioEs w.params b tb i tp ks) 3) :: news) [.ref o, .int 1 t1]
   (fun k => ∀ t tp', k (.str ⟨#[c]⟩ t) ((o, instObj 686 dx) :: (dx, dictOf (sioEs w.params b tb ((i : Int) + 1) tp' ks) 3) :: news)) (fun _ => True) := by
  intro dp un gd cn cs a ccd cl outer A₀ base h₀ L m s Q E B F X N T hk hd hu hret _
  dsimp only at hret
  dsimp only [sioEs] at N
  have hi : i < b.length := by
    rw [len_toList]
    rcases Nat.lt_or_ge i b.cps.toList.length with h1 | h1
    · exact h1
    · rw [List.getElem?_eq_none h1] at hc; cases hc
  have hlt : decide ((b.length : Int) ≤ i) = false := decide_eq_false (by omega)
  have hb' : b.length ≤ 5000 := by omega
  have h3 := sl_tail c
  have hz2 : ((⟨#[c]⟩ : Str) ++ Str.ofString " ").length ≤ 5000 := by rw [len_app, len_one]; decide
  have hz3 : (⟨#[c]⟩ : Str).length + (Str.ofString " ").length ≤ 5000 := by rw [len_one]; decide
  have h1 := sl_one hc
  by_cases hA : i + 1 < b.length
  · have hA1 : decide ((i : Int) + 1 < b.length) = true := decide_eq_true (by omega)
    refine wpAny_call ?_
    k_dflt ktr_enter
    k_steps
    exact hret _ _ _ _ (by assumption) (by assumption)
  · have hA1 : decide ((i : Int) + 1 < b.length) = false := decide_eq_false (by omega)
    have e : (b.length : Int) = i + 1 := by omega
    have h2 : Txt.slice b (some (i : Int)) (some (b.length : Int)) = ⟨#[c]⟩ := by rw [e]; exact h1
    refine wpAny_call ?_
    k_dflt ktr_enter
    k_steps
    rename News _ _ _ _ => N9
    rw [e] at N9
    exact hret _ _ _ _ (by assumption) N9
end
end Mine
namespace Mine
-- Deq
open PySem PySem.W PyProof.Rows PySem.Spec PySem.Calls
set_option maxHeartbeats 0
noncomputable abbrev deqObj : Obj := ⟨.type "collections.deque", none, .fields #[.none, .int 0 0], #[]⟩
theorem mro_deq : mroOf (.type "collections.deque") = pure [.type "collections.deque", .type "object"] := by rw [mroOf_type]; kernel_rfl
theorem deq_new : typeLookup (.type "collections.deque") "__new__" = pure (some (.builtin "collections.deque.__new__")) := by rw [typeLookup_type, builtinLookup_eq_fast]; kernel_rfl
theorem deq_slot (n : String) (id : String) : True := trivial
theorem deq_init : Slot "collections.deque" "__init__" "collections.deque.__init__" :=
  .of (owner := "collections.deque") (n := "__init__") (by rw [typeLookup_type, builtinLookup_eq_fast]; kernel_rfl) (by decide +kernel) (by decide +kernel) (by decide +kernel)
    (by first | exact .inl (by decide +kernel) | exact .inr (by decide +kernel)) (by rw [isSubtype_type]; kernel_rfl)
theorem deq_len : Slot "collections.deque" "__len__" "collections.deque.__len__" :=
  .of (owner := "collections.deque") (n := "__len__") (by rw [typeLookup_type, builtinLookup_eq_fast]; kernel_rfl) (by decide +kernel) (by decide +kernel) (by decide +kernel)
    (by first | exact .inl (by decide +kernel) | exact .inr (by decide +kernel)) (by rw [isSubtype_type]; kernel_rfl)
theorem called_deq : TypeCalled "collections.deque" "collections.deque.__new__" "collections.deque.__init__" :=
  ⟨by decide +kernel, by decide +kernel, ⟨_, _, mro_deq⟩, madeBy_type mro_deq deq_new (by decide +kernel), by decide +kernel, by rw [isSubtype_type]; kernel_rfl, deq_init⟩
theorem owner_deq : Manifest.owners.lookup (String.ofList "collections.deque".toList.reverse.reverse) = some Manifest.sig_collections_deque := by kernel_rfl
theorem args_init (a : Value) : argsOk "collections.deque.__init__" ⟨[a], []⟩ := by
  unfold argsOk; rw [signature?_of (id := "collections.deque.__init__") (n := "__init__".toList.reverse) (o := "collections.deque".toList.reverse) (by kernel_rfl) owner_deq]; kernel_rfl
theorem deq_new_meets : Meets (Builtin.«collections.deque.__new__» ⟨[.type "collections.deque"], []⟩) (fun A R s => R (.ok (.ret (.ref s.heap.objs.size))) { s with heap := s.heap.push deqObj }) :=
  Meets.of_wp fun prog w A R s hs => by
    obtain ⟨hp, g, d, tk, os⟩ := s
    have h2 : isSubtype (.type "collections.deque") (.type Builtin.Deque.ty) = pure true := called_deq.sub
    have h3 : typeHasDict (.type "collections.deque") = false := by decide +kernel
    have h4 : ¬ ((#[] : Array Value).size > sizeLine) := by decide
    unfold Builtin.«collections.deque.__new__» Builtin.Deque.newArgs Builtin.Deque.new
    repeat (any_goals (first | assumption | simp only [h3, h4, Bool.false_eq_true, if_false] | wp_step))
    exact ⟨_, rfl, hs⟩
theorem deq_init_meets (a : Addr) : Meets (Builtin.«collections.deque.__init__» ⟨[.ref a], []⟩) (fun A R s => s.heap.get? a = some deqObj ∧ ∀ h' tk, Heap.SameBut a s.heap h' → h'.get? a = some deqObj → R (.ok (.ret .none)) { s with heap := h', toks := tk }) :=
  Meets.of_wp fun prog w A R s hs => by
    obtain ⟨hp, g, d, tk, os⟩ := s
    obtain ⟨hx, hs⟩ := hs
    unfold Builtin.«collections.deque.__init__» Builtin.Deque.clear
    repeat (any_goals (first | assumption | wp_step))
    refine ⟨_, rfl, hs _ _ (Heap.SameBut.update ..) ?_⟩
    rw [Heap.get?_update_self _ hx rfl]; rfl
section
variable {prog : Program} {w : World} {A : Around} {E : Value → Shared → Prop} {s : Shared} {h₀ : Heap} {L : Addr} {m : Str → Option Value} {news : Led} {Q : Value → Shared → Prop}
theorem call_deque (h : ∀ h' tk, (∀ b o, s.heap.get? b = some o → h'.get? b = some o) → h'.get? s.heap.objs.size = some deqObj → Q (.ref s.heap.objs.size) { s with heap := h', toks := tk }) : wpAny (model prog w) A (call (.type "collections.deque") []) Q E s := by
  refine callType_meetsIn (Q₁ := fun obj s₁ => obj = .ref s.heap.objs.size ∧ s₁ = { s with heap := s.heap.push deqObj }) (Bn := Builtin.«collections.deque.__new__») (Bi := Builtin.«collections.deque.__init__») called_deq (by kernel_rfl) (by kernel_rfl) (entryFor_of_tree (by kernel_rfl)) (entryFor_of_tree (by kernel_rfl)) (deq_new_meets.inModel prog w) ⟨rfl, rfl⟩ ?_
  rintro obj s₁ ⟨rfl, rfl⟩
  have hg : (s.heap.push deqObj).get? s.heap.objs.size = some deqObj := Heap.get?_push_size _ rfl
  refine ⟨⟨_, hg, rfl⟩, args_init _, _, deq_init_meets _, hg, fun h' tk hs ho => ⟨rfl, h h' tk (fun b o e => ?_) ho⟩⟩
  exact (hs.2 b (Nat.ne_of_lt (Heap.lt_size e))).trans (Heap.get?_push_of_some _ e)
theorem deque_K (F : Fr h₀ L s.heap m) (N : News h₀ L s.heap news) (h : ∀ l h' tk, Fr h₀ L h' m → News h₀ L h' ((l, deqObj) :: news) → (∀ p ∈ news, p.1 < l) → Q (.ref l) { s with heap := h', toks := tk }) : wpAny (model prog w) A (call (.type "collections.deque") []) Q E s := by
  refine call_deque fun h' tk hk hg => h _ h' tk (F.keeps hk) (fun q hq => ?_) fun p hp => Heap.lt_size (N p hp).1
  rcases List.mem_cons.mp hq with rfl | hq
  · exact ⟨hg, Nat.ne_of_gt F.ns.lt, Heap.get?_none_of_le (Nat.le_trans F.above (Nat.le_of_lt F.ns.lt))⟩
  · exact ⟨hk _ _ (N q hq).1, (N q hq).2⟩
end
end Mine
namespace Mine
-- K19
open PySem PySem.W PyProof.Rows PySem.Spec PySem.Calls
set_option maxHeartbeats 8000000
section
variable {w : World} {p : Program} {loose : List Str} {mean : ExcName → Option Value} {mg mb : Str → Option Value}
theorem lines_K19_0 : True := by
  k_with_none
  k_with "lt" => first | with_reducible assumption | exact And.left (by with_reducible assumption) | exact And.left (And.right (by with_reducible assumption)) | exact And.left (And.right (And.right (by with_reducible assumption))) | exact And.left (And.right (And.right (And.right (by with_reducible assumption)))) | exact And.left (And.right (And.right (And.right (And.right (by with_reducible assumption)))))
  k_with "rl" => with_unfolding_all exact rfl
  k_with "omega" => first | (with_reducible exact om_room ‹_›) | (with_reducible exact om_le ‹_› (by k_extra "rl")) | (with_reducible exact om_ne1 (by k_extra "lt")) | lia
  k_with "execs cons" => ((try k_gentoks); refine fold_sh ?_; intro _; first | (with_reducible refine exec_one ?_) | ((with_reducible refine execs_seq ?_); k_fold))
  k_with "SeqQ" => first | refine seq_next ?_ | refine seq_ret ?_ | refine seq_brk ?_ | refine seq_cont ?_
  k_with "exec If" => (with_reducible refine exec_if ?_)
  k_with "IfQ" => first | (refine ifq_no (by with_reducible assumption) ?_) | (refine ifq_yes (by with_reducible assumption) ?_) | (refine ifq_no (by decide) ?_) | (refine ifq_yes (by decide) ?_) | dsimp only [IfQ]
  k_with "storeName" => (k_dflt (refine' storeX_F ?Fzq ?Nzq ?_ ?azq ?bzq; (case Fzq => k_asm); (case Nzq => k_asm); (case azq => rfl); (case bzq => rfl); k_whole); intro _ _ _ _; (try k_sweep))
  k_with "k_all" => first | assumption | exact ne_allLt (by first | assumption | exact And.right (by assumption) | exact And.right (And.right (by assumption)) | exact And.right (And.right (And.right (by assumption))))
  k_with "ktr_enter" => (refine' code_def ?k1zq ?k2zq ?k3zq ?k4zq ?k5zq ?kAzq ?kFzq ?kKzq ?k6zq ?k7zq ?k8zq ?k9zq ?kBzq ?_ ?c2zq ?c3zq ?c4zq ?c5zq; (case kAzq => exact rfl); (case kFzq => exact rfl); (case kKzq => first | assumption | exact rfl); (case k1zq => k_asm); (case k2zq => k_asm); (case k3zq => k_asm); (case k4zq => k_asm); (case k5zq => k_asm); (case k6zq => k_is); (case k7zq => k_is); (case k8zq => ktr_room); (case k9zq => first | exact BindsTo.of_eq rfl | exact binds_K (by k_in) rfl (by k_is) rfl rfl rfl); (case c5zq => decide); (case kBzq => exact locs rfl); (case c2zq => exact rfl); (case c3zq => exact rfl); (case c4zq => exact rfl); k_whole; intro _ _ _ _ _ _ _ _ _; (try dsimp only); (try k_fold))
  k_with "call ref" => (k_dflt (refine' c_sio _ _ (by assumption) _ _ _ _ _ _ _ _ _ _ _ _ _ _ _ _ _ _ ?k1zq ?k2zq ?k3zq ?k4zq ?k5zq ?kKzq ?kdzq ?kuzq ?kRzq trivial; (case k1zq => k_asm); (case k2zq => k_asm); (case k3zq => k_asm); (case k4zq => k_asm); (case k5zq => k_asm); (case kKzq => exact rfl); (case kdzq => ktr_room); (case kuzq => ktr_units)); intro _ _ _ _ _ _ _ _ _ _; rename_i l1 l2 _ _ _ _; (try k_lt l1); (try k_lt2 l2); (try k_sweep); revert l1 l2; intro _ _)
  k_with "call type:collections.deque" => (k_dflt (refine' deque_K ?Fzq ?Nzq ?_; (case Fzq => k_asm); (case Nzq => k_asm); k_whole); intro _ _ _ _ _ _; rename_i l1; (try k_lt l1); (try k_sweep); revert l1; intro _)
  trivial
noncomputable abbrev wordCh : Str := Str.ofString "abcdfeghijklmnopqrstuvwxyzABCDEFGHIJKLMNOPQRSTUVWXYZ0123456789_ßàáâãäåæçèéêëìíîïðñòóôõöøùúûüýþÿÀÁÂÃÄÅÆÇÈÉÊËÌÍÎÏÐÑÒÓÔÕÖØÙÚÛÜÝÞ"
noncomputable abbrev lexEs (P : Params) (io d1 d2 : Addr) (com : Str) (ws : Bool) (st : Value) (tok : Str) (tt : Tok) (ks vt : List Tok) : List DictEntry :=
  [⟨PyData.keyHash P (Str.ofString "instream"), .str (Str.ofString "instream") (ks.getD 0 0), .ref io⟩,
   ⟨PyData.keyHash P (Str.ofString "infile"), .str (Str.ofString "infile") (ks.getD 1 0), .none⟩,
   ⟨PyData.keyHash P (Str.ofString "posix"), .str (Str.ofString "posix") (ks.getD 2 0), .bool true⟩,
   ⟨PyData.keyHash P (Str.ofString "eof"), .str (Str.ofString "eof") (ks.getD 3 0), .none⟩,
   ⟨PyData.keyHash P (Str.ofString "commenters"), .str (Str.ofString "commenters") (ks.getD 4 0), .str com (vt.getD 0 0)⟩,
   ⟨PyData.keyHash P (Str.ofString "wordchars"), .str (Str.ofString "wordchars") (ks.getD 5 0), .str wordCh (vt.getD 1 0)⟩,
   ⟨PyData.keyHash P (Str.ofString "whitespace"), .str (Str.ofString "whitespace") (ks.getD 6 0), .str (Str.ofString " \t\x0d\n") (vt.getD 2 0)⟩,
   ⟨PyData.keyHash P (Str.ofString "whitespace_split"), .str (Str.ofString "whitespace_split") (ks.getD 7 0), .bool ws⟩,
   ⟨PyData.keyHash P (Str.ofString "quotes"), .str (Str.ofString "quotes") (ks.getD 8 0), .str (Str.ofString "'\"") (vt.getD 3 0)⟩,
   ⟨PyData.keyHash P (Str.ofString "escape"), .str (Str.ofString "escape") (ks.getD 9 0), .str (Str.ofString "\\") (vt.getD 4 0)⟩,
   ⟨PyData.keyHash P (Str.ofString "escapedquotes"), .str (Str.ofString "escapedquotes") (ks.getD 10 0), .str (Str.ofString "\"") (vt.getD 5 0)⟩,
   ⟨PyData.keyHash P (Str.ofString "state"), .str (Str.ofString "state") (ks.getD 11 0), st⟩,
   ⟨PyData.keyHash P (Str.ofString "pushback"), .str (Str.ofString "pushback") (ks.getD 12 0), .ref d1⟩,
   ⟨PyData.keyHash P (Str.ofString "lineno"), .str (Str.ofString "lineno") (ks.getD 13 0), .int 1 (vt.getD 6 0)⟩,
   ⟨PyData.keyHash P (Str.ofString "debug"), .str (Str.ofString "debug") (ks.getD 14 0), .int 0 (vt.getD 7 0)⟩,
   ⟨PyData.keyHash P (Str.ofString "token"), .str (Str.ofString "token") (ks.getD 15 0), .str tok tt⟩,
   ⟨PyData.keyHash P (Str.ofString "filestack"), .str (Str.ofString "filestack") (ks.getD 16 0), .ref d2⟩,
   ⟨PyData.keyHash P (Str.ofString "source"), .str (Str.ofString "source") (ks.getD 17 0), .none⟩,
   ⟨PyData.keyHash P (Str.ofString "_punctuation_chars"), .str (Str.ofString "_punctuation_chars") (ks.getD 18 0), .str (Str.ofString "") (vt.getD 8 0)⟩]
theorem lt_trans_all {a b : Nat} (h : a < b) : ∀ {l : Led}, AllLt a l → AllLt b l
  | [], _ => trivial
  | _ :: _, h2 => ⟨Nat.lt_trans h2.1 h, lt_trans_all h h2.2⟩
theorem c_lexinit (x : Str) (tR : Tok) (hx : x.length ≤ 2000) (news : Led) (o dx : Addr) (dp un : Nat) (gd : Option (List Code)) (cn : Str) (cs : Scope) (a : Addr) (ccd : Value) (cl : List (Str × Addr)) (outer : List Env) (A₀ : Around) (base h₀ : Heap) (L : Addr) (m : Str → Option Value) (s : Shared) (R : Result → Shared → Prop)
    (B : Below A₀ base outer h₀) (F : Fr h₀ L s.heap m) (X : (KF w.params).In h₀) (N : News h₀ L s.heap ((o, instObj 821 dx) :: (dx, dictOf [] 0) :: news)) (T : Top p loose mean mg mb h₀) (hk : cs.kind = .function) (hd : dp + 100 < recursionLimit) (hu : un + 500 < cLine) (hl1 : ∀ q ∈ news, q.1 < dx) (hl2 : dx < o)
    (hret : ∀ d1 d2 io di tp ks3 tst tt ks vt h' tk', o < di → di < io → io < d1 → d1 < d2 → Fr h₀ L h' m → News h₀ L h' ((d2, deqObj) :: (d1, deqObj) :: (io, instObj 686 di) :: (di, dictOf (sioEs w.params x tR 0 tp ks3) 3) :: (o, instObj 821 dx) :: (dx, dictOf (lexEs w.params io d1 d2 (Str.ofString "#") false (.str (Str.ofString " ") tst) (Str.ofString "") tt ks vt) 19) :: news) → R (.ok (.ret .none)) { s with heap := h', toks := tk' }) :
    codeAny (model pw w) (ktrTop dp un gd cn cs L a ccd cl outer) (.call (.ref 745) ⟨[.ref o, .str x tR], [(Str.ofString "posix", .bool true)]⟩) R s := by
  have hl1 := allLt_of hl1
  have hl2 : @LT.lt Nat _ dx o := hl2
  have hl3 : @LT.lt Nat _ dx o ∧ AllLt o news := ⟨hl2, lt_trans_all hl2 hl1⟩
  k_dflt ktr_enter
  k_steps
  refine hret _ _ _ _ _ _ _ _ [_, _, _, _, _, _, _, _, _, _, _, _, _, _, _, _, _, _, _] [_, _, _, _, _, _, _, _, _] _ _ ?_ ?_ ?_ ?_ (by assumption) (by assumption)
  all_goals first | assumption | exact And.left (by assumption)
end
end Mine
namespace Mine
-- Px
open PySem PySem.W PyProof.Rows PySem.Spec PySem.Calls
set_option maxHeartbeats 4000000
set_option genInjectivity false
set_option genSizeOf false
inductive PV | none | bool (b : Bool) | str (x : Str) | int (i : Int) | self
noncomputable def PV.is (o : Addr) : PV → Value → Prop
  | .none, v => v = .none
  | .bool b, v => v = .bool b
  | .str x, v => ∃ t, v = .str x t
  | .int i, v => ∃ t, v = .int i t
  | .self, v => v = .ref o
noncomputable abbrev PE := List (Str × PV)
noncomputable abbrev PZ := List Nat
inductive EV (e : Expr) : Type
  | name (x : Str) (p : Pos) (h : e = .Name x p)
  | const (c : Const) (k : Nat) (p : Pos) (h : e = .Constant c k p)
  | attr (x : Str) (p : Pos) (a : Str) (q : Pos) (h : e = .Attribute (.Name x p) a q)
  | cmp (l : Expr) (op : CmpOp) (r : Expr) (p : Pos) (h : e = .Compare l [op] [r] p)
  | tup (es : List Expr) (k : Nat) (p : Pos) (h : e = .Tuple es k p)
  | bool (op : BoolOp) (vs : List Expr) (p : Pos) (h : e = .BoolOp op vs p)
  | not (x : Expr) (p : Pos) (h : e = .UnaryOp .Not x p)
  | other
noncomputable def viewE (e : Expr) : EV e := match e with
  | .Name x p => .name x p rfl
  | .Constant c k p => .const c k p rfl
  | .Attribute b a q => match b with
    | .Name x p => .attr x p a q rfl
    | _ => .other
  | .Compare l ops rs p => match ops, rs with
    | [op], [r] => .cmp l op r p rfl
    | _, _ => .other
  | .Tuple es k p => .tup es k p rfl
  | .BoolOp op vs p => .bool op vs p rfl
  | .UnaryOp op x p => match op with
    | .Not => .not x p rfl
    | _ => .other
  | _ => .other
inductive SV (s : Stmt) : Type
  | pass (p : Pos) (h : s = .Pass p)
  | brk (p : Pos) (h : s = .Break p)
  | cont (p : Pos) (h : s = .Continue p)
  | ret (e : Expr) (p : Pos) (h : s = .Return (some e) p)
  | assign (t e : Expr) (p : Pos) (h : s = .Assign [t] e p)
  | aug (t e : Expr) (p : Pos) (h : s = .AugAssign t .Add e p)
  | ifs (t : Expr) (b o : List Stmt) (p : Pos) (h : s = .If t b o p)
  | other
noncomputable def viewS (s : Stmt) : SV s := match s with
  | .Pass p => .pass p rfl
  | .Break p => .brk p rfl
  | .Continue p => .cont p rfl
  | .Return e p => match e with
    | some e => .ret e p rfl
    | none => .other
  | .Assign ts e p => match ts with
    | [t] => .assign t e p rfl
    | _ => .other
  | .AugAssign t op e p => match op with
    | .Add => .aug t e p rfl
    | _ => .other
  | .If t b o p => .ifs t b o p rfl
  | _ => .other
noncomputable def pcmp (op : CmpOp) (a b : PV) : Option Bool := match a, b with
  | .str x, .str y => match op with
    | .Eq => some (x == y)
    | .NotEq => some (x != y)
    | .In => some (!(Builtin.Str.occurrences y x 0 y.length 1).isEmpty)
    | .NotIn => some (!!(Builtin.Str.occurrences y x 0 y.length 1).isEmpty)
    | _ => none
  | .none, .none => match op with
    | .Is => some true
    | _ => none
  | .str _, .none => match op with
    | .Is => some false
    | _ => none
  | .int a, .int b => match op with
    | .GtE => some (decide (b ≤ a))
    | .Gt => some (decide (b < a))
    | _ => none
  | _, _ => none
noncomputable def pcv : Const → Option PV
  | .none => some .none
  | .bool b => some (.bool b)
  | .str x => some (.str x)
  | .int i => some (.int i)
  | _ => none
noncomputable def pconst (e : Expr) : Option Str := match viewE e with
  | .const c _ _ _ => match pcv c with
    | some (.str x) => some x
    | _ => none
  | _ => none
noncomputable def pconsts : List Expr → Option (List Str)
  | [] => some []
  | e :: r => match pconst e, pconsts r with
    | some x, some xs => some (x :: xs)
    | _, _ => none
noncomputable def isIn : CmpOp → Bool
  | .In => true
  | _ => false
noncomputable def pcomp (pv : Expr → Option PV) (l : Expr) (op : CmpOp) (r : Expr) : Option Bool := match viewE r with
  | .tup es _ _ _ => match pv l, pconsts es with
    | some (.str x), some ys => if isIn op && Nat.ble ys.length 8 then some (ys.any (· == x)) else none
    | _, _ => none
  | _ => if behindInMarks op r then none else match pv l, pv r with
    | some a, some b => pcmp op a b
    | _, _ => none
structure PS where
  nm : PE
  st : PV
  tok : PV
noncomputable def pname (nm : PE) (x : Str) : Option PV := if x == ("__debug__" : Str) then none else nm.lookup x
noncomputable def pattr (fx : PE) (S : PS) (x a : Str) : Option PV := match pname S.nm x with
  | some .self => if a == ("state" : Str) then some S.st else if a == ("token" : Str) then some S.tok else fx.lookup a
  | _ => none
noncomputable def pvalS (fx : PE) (S : PS) (rec : Expr → Option PV) (e : Expr) : Option PV := match viewE e with
    | .name x _ _ => pname S.nm x
    | .const c _ _ _ => pcv c
    | .attr x _ a _ _ => pattr fx S x a
    | .cmp l op r _ _ => (pcomp rec l op r).map .bool
    | _ => none
noncomputable def pval (fx : PE) (S : PS) : Nat → Expr → Option PV
  | 0, _ => none
  | n + 1, e => pvalS fx S (pval fx S n) e
noncomputable def ptruth : PV → Option (Bool × PZ)
  | .bool b => some (b, [])
  | .str x => some ((x.length : Int) != 0, [x.length])
  | .none => some (false, [])
  | .int i => some (i != 0, [])
  | .self => none
noncomputable def isAnd : BoolOp → Bool
  | .And => true
  | .Or => false
noncomputable def pall (op : Bool) : List (Option (Bool × PZ)) → Option (Bool × PZ)
  | [] => some (op, [])
  | x :: r => match x, pall op r with
    | some (b, z), some (c, y) => some (bif op then b && c else b || c, z ++ y)
    | _, _ => none
noncomputable def ptestS (fx : PE) (S : PS) (pv : Expr → Option PV) (rec : Expr → Option (Bool × PZ)) (e : Expr) : Option (Bool × PZ) := match viewE e with
    | .bool op vs _ _ => pall (isAnd op) (vs.map rec)
    | .not x _ _ => (rec x).map fun r => (!r.1, r.2)
    | .cmp l op r _ _ => (pcomp pv l op r).map fun b => (b, [])
    | .name x _ _ => (pname S.nm x).bind ptruth
    | .attr x _ a _ _ => (pattr fx S x a).bind ptruth
    | _ => none
noncomputable def ptest (fx : PE) (S : PS) : Nat → Expr → Option (Bool × PZ)
  | 0, _ => none
  | n + 1, e => ptestS fx S (pval fx S n) (ptest fx S n) e
inductive PFl | next | brk | cont | ret (v : PV) | stuck (s : Stmt)
structure PR where
  fl : PFl
  S : PS
  path : List Bool
  ok : Bool
  zs : PZ
noncomputable def setN (x : Str) (v : PV) (nm : PE) : PE := (x, v) :: nm.filter fun q => !(q.1 == x)
noncomputable def psetA (S : PS) (a : Str) (v : PV) : Option PS := if a == ("state" : Str) then some ⟨S.nm, v, S.tok⟩ else if a == ("token" : Str) then some ⟨S.nm, S.st, v⟩ else none
noncomputable def pset (loc : List Str) (t : Expr) (v : PV) (S : PS) : Option PS := match viewE t with
  | .name x _ _ => if loc.contains x then some ⟨setN x v S.nm, S.st, S.tok⟩ else none
  | .attr x _ a _ _ => match pname S.nm x with
    | some .self => psetA S a v
    | _ => none
  | _ => none
noncomputable def paug (t : Expr) (S : PS) (v : PV) : Option (PS × Nat) := match viewE t with
  | .attr x _ a _ _ => match pname S.nm x, S.tok, v with
    | some .self, .str u, .str v => if a == ("token" : Str) then some (⟨S.nm, S.st, .str (u ++ v)⟩, u.length + v.length) else none
    | _, _, _ => none
  | _ => none
noncomputable def pthen (r : PR) (k : PS → List Bool → Option PR) : Option PR := match r.fl with
  | .next => (k r.S r.path).map fun r2 => ⟨r2.fl, r2.S, r2.path, r.ok && r2.ok, r.zs ++ r2.zs⟩
  | _ => some r
noncomputable def pxS (loc : List Str) (fx : PE) (rec : List Stmt → List Bool → PS → Option PR) (s : Stmt) (rest : List Stmt) (path : List Bool) (S : PS) : Option PR := match viewS s with
      | .pass _ _ => rec rest path S
      | .brk _ _ => some ⟨.brk, S, path, true, []⟩
      | .cont _ _ => some ⟨.cont, S, path, true, []⟩
      | .ret e _ _ => (pval fx S 9 e).map fun v => ⟨.ret v, S, path, true, []⟩
      | .assign t e _ _ => (pval fx S 9 e).bind fun v => (pset loc t v S).bind fun q => rec rest path q
      | .aug t e _ _ => (pval fx S 9 e).bind fun v => (paug t S v).bind fun q => (rec rest path q.1).map fun r => ⟨r.fl, r.S, r.path, r.ok, q.2 :: r.zs⟩
      | .ifs t b o _ _ => (ptest fx S 9 t).bind fun c => match path with
        | [] => none
        | d :: path => (rec (bif d then b else o) path S).bind fun r => pthen ⟨r.fl, r.S, r.path, (c.1 == d) && r.ok, c.2 ++ r.zs⟩ fun S path => rec rest path S
      | .other => some ⟨.stuck s, S, path, true, []⟩
noncomputable def px (loc : List Str) (fx : PE) : Nat → List Stmt → List Bool → PS → Option PR
  | 0, _, _, _ => none
  | n + 1, l, path, S => match l with
    | [] => some ⟨.next, S, path, true, []⟩
    | s :: rest => pxS loc fx (px loc fx n) s rest path S
noncomputable def Names (o : Addr) (nm : PE) (m : Str → Option Value) : Prop := ∀ q ∈ nm, ∃ v, q.2.is o v ∧ m q.1 = some v
theorem lookup_mem {nm : PE} {x : Str} {v : PV} (e : nm.lookup x = some v) : (x, v) ∈ nm := by
  induction nm with
  | nil => cases e
  | cons q r ih =>
    obtain ⟨y, z⟩ := q
    rw [List.lookup_cons] at e
    cases hy : x == y with
    | true =>
      rw [hy] at e
      simp only [Option.some.injEq] at e
      rw [← e, eq_of_beq hy]; exact List.mem_cons_self
    | false =>
      rw [hy] at e
      exact List.mem_cons_of_mem _ (ih e)
theorem Names.set {o : Addr} {nm : PE} {m : Str → Option Value} (h : Names o nm m) {x : Str} {v : PV} {u : Value} (hu : v.is o u) : Names o (setN x v nm) (fun y => if y = x then some u else m y) := fun q hq => by
  rcases List.mem_cons.mp hq with rfl | hq
  · exact ⟨u, hu, if_pos rfl⟩
  · obtain ⟨h1, h2⟩ := List.mem_filter.mp hq
    obtain ⟨u', a, b⟩ := h q h1
    exact ⟨u', a, (if_neg (by simpa using h2)).trans b⟩
structure PC where
  prog : Program
  w : World
  A : Around
  E : Value → Shared → Prop
  h₀ : Heap
  (L o a : Addr)
  cn : Str
  cs : Scope
  ccd : Value
  cl : List (Str × Addr)
  led : Value → Value → Led
  fx : PE
  loc : List Str
structure PVs where
  m : Str → Option Value
  (vs vt : Value)
noncomputable abbrev PC.env (C : PC) : Env := envX C.cn C.cs C.L C.a C.ccd C.cl
noncomputable abbrev PC.W {α : Type} (C : PC) (x : Sem α) (Q : α → Shared → Prop) (s : Shared) : Prop := wpAny (model C.prog C.w) C.A x Q C.E s
noncomputable abbrev upS (s : Shared) (h : Heap) (tk : Nat) : Shared := { s with heap := h, toks := tk }
noncomputable abbrev PC.Good (C : PC) (V : PVs) (h : Heap) : Prop := Fr C.h₀ C.L h V.m ∧ News C.h₀ C.L h (C.led V.vs V.vt)
noncomputable def PC.Reads (C : PC) : Prop := ∀ (s : Shared) (V : PVs) (a : Str) (pv : PV) (Q : Value → Shared → Prop), C.Good V s.heap → C.fx.lookup a = some pv → (∀ v h' tk, pv.is C.o v → C.Good V h' → Q v (upS s h' tk)) → C.W (getAttr (.ref C.o) a true) Q s
noncomputable def PC.ReadsIn (C : PC) (a : Str) (f : PVs → Value) : Prop := ∀ (s : Shared) (V : PVs) (Q : Value → Shared → Prop), C.Good V s.heap → handedIn (f V) = true → (∀ tk, Q (f V) (upS s s.heap tk)) → C.W (getAttr (.ref C.o) a true) Q s
noncomputable def PC.Writes (C : PC) (a : Str) (f : PVs → Value → PVs) : Prop := ∀ (s : Shared) (V : PVs) (v : Value) (Q : Unit → Shared → Prop), C.Good V s.heap → (∀ h' tk, C.Good (f V v) h' → Q () (upS s h' tk)) → C.W (setAttr (.ref C.o) a v) Q s
theorem is_handed {o : Addr} {pv : PV} {v : Value} (h : pv.is o v) : handedIn v = true := by
  cases pv <;> simp only [PV.is] at h <;> first | (obtain ⟨_, rfl⟩ := h; rfl) | (subst h; rfl)
structure PC.Ok (C : PC) : Prop where
  kind : C.cs.kind = .function
  locs : ∀ x ∈ C.loc, C.env.kindOf x = some .local
  reads : C.Reads
  rst : C.ReadsIn (Str.ofString "state") fun V => V.vs
  rtk : C.ReadsIn (Str.ofString "token") fun V => V.vt
  wst : C.Writes (Str.ofString "state") fun V v => ⟨V.m, v, V.vt⟩
  wtk : C.Writes (Str.ofString "token") fun V v => ⟨V.m, V.vs, v⟩
structure After (C : PC) (S : PS) (V : PVs) (h : Heap) : Prop where
  st : S.st.is C.o V.vs
  tok : S.tok.is C.o V.vt
  good : C.Good V h
  names : Names C.o S.nm V.m
  loc : ∀ q ∈ S.nm, q.1 ∈ C.loc
section
variable {C : PC} {S : PS} {V : PVs}
theorem After.move {h h' : Heap} (AF : After C S V h) (g : C.Good V h') : After C S V h' := ⟨AF.st, AF.tok, g, AF.names, AF.loc⟩
theorem pname_dbg {nm : PE} {x : Str} {v : PV} (h : pname nm x = some v) : nm.lookup x = some v ∧ (x == ("__debug__" : Str)) = false := by
  unfold pname at h
  cases hd : x == ("__debug__" : Str) with
  | true => rw [hd] at h; cases h
  | false => rw [hd] at h; exact ⟨h, rfl⟩
theorem name_sound (K : C.Ok) {x : Str} {pos : Pos} {pv : PV} (h : pname S.nm x = some pv) {s : Shared} (AF : After C S V s.heap) {Q : Value → Shared → Prop} (hQ : ∀ v, pv.is C.o v → Q v s) : C.W (eval (.Name x pos) C.env) Q s := by
  obtain ⟨h, hd⟩ := pname_dbg h
  obtain ⟨u, h1, h2⟩ := AF.names _ (lookup_mem h)
  exact nameX_L AF.good.1 h2 (hQ u h1) K.kind (K.locs x (AF.loc _ (lookup_mem h))) hd
theorem pcmp_sound {op : CmpOp} {a b : PV} {c : Bool} (h : pcmp op a b = some c) {u v : Value} (hu : a.is C.o u) (hv : b.is C.o v) {s : Shared} {Q : Value → Shared → Prop} (hQ : Q (.bool c) s) : C.W (compareOp op u v) Q s := by
  delta pcmp at h
  cases a <;> cases b <;> first | (cases h; done) | (cases op <;> first | (cases h; done) | skip)
  all_goals cases h
  · obtain rfl := hu; obtain rfl := hv; exact is_none_none hQ
  · obtain ⟨_, rfl⟩ := hu; obtain rfl := hv; exact is_str_none hQ
  · obtain ⟨_, rfl⟩ := hu; obtain ⟨_, rfl⟩ := hv; exact PyProof.Rows.eq_str hQ
  · obtain ⟨_, rfl⟩ := hu; obtain ⟨_, rfl⟩ := hv; exact PyProof.Rows.ne_str hQ
  · obtain ⟨_, rfl⟩ := hu; obtain ⟨_, rfl⟩ := hv; exact PyProof.Rows.in_str hQ
  · obtain ⟨_, rfl⟩ := hu; obtain ⟨_, rfl⟩ := hv; exact P.notIn_str hQ
  · obtain ⟨_, rfl⟩ := hu; obtain ⟨_, rfl⟩ := hv; exact PyProof.Rows.gt_int hQ
  · obtain ⟨_, rfl⟩ := hu; obtain ⟨_, rfl⟩ := hv; exact PyProof.Rows.ge_int hQ
theorem pconst_of {e : Expr} {x : Str} (h : pconst e = some x) : ∃ k p, e = .Constant (.str x) k p := by
  delta pconst at h
  generalize viewE e = v at h
  cases v <;> try cases h
  rename_i c k p he
  dsimp only at h
  subst he
  cases c <;> cases h
  exact ⟨k, p, rfl⟩
theorem consts_sound {env : Env} {pos : Pos} {es : List Expr} : ∀ {ys : List Str}, pconsts es = some ys → ∀ {s : Shared} {Q : List Value → Shared → Prop}, (∀ vs tk, StrsAre vs ys → vs.length = ys.length → Q vs (upS s s.heap tk)) → C.W (spliced (backTo pos (starEach es env))) Q s := by
  induction es with
  | nil =>
    intro ys h s Q hQ
    cases h
    exact spliced_none (hQ [] s.toks .nil rfl)
  | cons e r ih =>
    intro ys h s Q hQ
    have h : (match pconst e, pconsts r with
      | some x, some xs => some (x :: xs)
      | _, _ => none) = some ys := h
    cases h1 : pconst e with
    | none => rw [h1] at h; cases h
    | some x =>
      cases h2 : pconsts r with
      | none => rw [h1, h2] at h; cases h
      | some xs =>
        rw [h1, h2] at h
        cases h
        obtain ⟨k, p, rfl⟩ := pconst_of h1
        exact spliced_more (Constant_str (ih h2 fun vs tk a b => hQ _ tk (.cons _ _ a) (congrArg (· + 1) b)))
noncomputable def Does (C : PC) (S : PS) (V : PVs) (env : Env) (e : Expr) (pv : PV) : Prop :=
  ∀ (s : Shared) (Q : Value → Shared → Prop), After C S V s.heap → (∀ v h' tk, pv.is C.o v → After C S V h' → Q v (upS s h' tk)) → C.W (eval e env) Q s
theorem marks_of {pv : Expr → Option PV} {l r : Expr} {op : CmpOp} {c : Bool} (h : pcomp pv l op r = some c) : behindInMarks op r = false := by
  cases hb : behindInMarks op r with
  | false => rfl
  | true =>
    delta pcomp at h
    rw [hb] at h
    generalize viewE r = v at h
    cases v <;> first | (cases h; done) | skip
    rename_i he
    clear h
    subst he
    cases hb
noncomputable abbrev Cmps (C : PC) (env : Env) (l : Expr) (op : CmpOp) (r : Expr) (Q : Value → Shared → Prop) (s : Shared) : Prop := C.W (eval l env) (fun u s₁ => C.W (eval r env) (fun v s₂ => C.W (compareOp op u v) Q s₂) s₁) s
theorem comp_else {env : Env} {pv : Expr → Option PV} (ih : ∀ e p, pv e = some p → Does C S V env e p)
    {l r : Expr} {op : CmpOp} {c : Bool} (h : (if behindInMarks op r then none else match pv l, pv r with | some a, some b => pcmp op a b | _, _ => none) = some c) {s : Shared} {Q : Value → Shared → Prop} (AF : After C S V s.heap)
    (hQ : ∀ h' tk, After C S V h' → Q (.bool c) (upS s h' tk)) : Cmps C env l op r Q s := by
  split at h
  · cases h
  · cases h1 : pv l with
    | none => rw [h1] at h; cases h
    | some a =>
     cases h2 : pv r with
     | none => rw [h1, h2] at h; cases h
     | some b =>
      rw [h1, h2] at h
      exact ih _ _ h1 s _ AF fun v h' tk hv AF' => ih _ _ h2 (upS s h' tk) _ AF' fun u h2 tk2 hu AF2 => pcmp_sound h hv hu (hQ h2 tk2 AF2)
theorem comp_sound {env : Env} {pv : Expr → Option PV} (ih : ∀ e p, pv e = some p → Does C S V env e p)
    {l r : Expr} {op : CmpOp} {c : Bool} (h : pcomp pv l op r = some c) {s : Shared} {Q : Value → Shared → Prop} (AF : After C S V s.heap)
    (hQ : ∀ h' tk, After C S V h' → Q (.bool c) (upS s h' tk)) : Cmps C env l op r Q s := by
  delta pcomp at h
  generalize viewE r = v at h
  cases v
  case tup es k p he =>
    dsimp only at h
    subst he
    cases h1 : pv l with
    | none => rw [h1] at h; cases h
    | some a =>
     cases h2 : pconsts es with
     | none => rw [h1, h2] at h; cases a <;> cases h
     | some ys =>
      rw [h1, h2] at h
      cases a <;> first | (cases h; done) | skip
      dsimp only at h
      split at h
      · rename_i hle
        simp only [Bool.and_eq_true] at hle
        have hle' := Nat.le_of_ble_eq_true hle.2
        cases op <;> first | (cases hle.1; done) | skip
        cases h
        refine ih _ _ h1 s _ AF fun v h' tk hv AF' => Tuple_ (consts_sound h2 fun us tk2 hs hlen => ?_)
        obtain ⟨t, rfl⟩ := hv
        refine kup_newTuple (s := upS s h' tk2) AF'.good.1 AF'.good.2 (fun D h9 F9 N9 l9 => ?_) (by rw [hlen]; exact le_sz (Nat.le_trans hle' (by decide)))
        refine in_tuple_strs (s := upS s h9 tk2) (News.isTup (sl := #[]) (d := none) (n := 0) N9 List.mem_cons_self) hs ?_
        exact hQ h9 tk2 (AF'.move ⟨F9, fun q hq => N9 q (List.mem_cons_of_mem _ hq)⟩)
      · cases h
  all_goals exact comp_else ih h AF hQ
theorem const_sound {env : Env} {c : Const} {k : Nat} {p : Pos} {pv : PV} (h : pcv c = some pv) : Does C S V env (.Constant c k p) pv := fun s Q AF hQ => by
  cases c <;> cases h
  · exact Constant_none (hQ _ s.heap s.toks rfl AF)
  · exact Constant_bool (hQ _ s.heap s.toks rfl AF)
  · exact wpAny_Constant_int (hQ _ s.heap _ ⟨_, rfl⟩ AF)
  · exact Constant_str (hQ _ s.heap _ ⟨_, rfl⟩ AF)
theorem attr_sound (K : C.Ok) {x y : Str} {p q : Pos} {pv : PV} (h : pattr C.fx S x y = some pv) : Does C S V C.env (.Attribute (.Name x p) y q) pv := fun s Q AF hQ => by
  delta pattr at h
  cases hx : pname S.nm x with
  | none => rw [hx] at h; cases h
  | some vx =>
    rw [hx] at h
    cases vx <;> first | (cases h; done) | skip
    dsimp only at h
    refine Attribute_name (name_sound K hx AF fun v hv => ?_)
    obtain rfl := hv
    split at h
    · rename_i ha
      rw [eq_of_beq ha]
      cases h
      exact K.rst s V Q AF.good (is_handed AF.st) fun tk => hQ _ s.heap tk AF.st AF
    · split at h
      · rename_i ha
        rw [eq_of_beq ha]
        cases h
        exact K.rtk s V Q AF.good (is_handed AF.tok) fun tk => hQ _ s.heap tk AF.tok AF
      · exact K.reads s V _ pv Q AF.good h fun v h' tk hv g => hQ v h' tk hv (AF.move g)
theorem pval_sound (K : C.Ok) (n : Nat) : ∀ (e : Expr) (pv : PV), pval C.fx S n e = some pv → Does C S V C.env e pv := by
  induction n with
  | zero => intro e pv h; cases h
  | succ n ih =>
    intro e pv h s Q AF hQ
    have h : pvalS C.fx S (pval C.fx S n) e = some pv := h
    delta pvalS at h
    generalize viewE e = v at h
    cases v
    case name x p he => (dsimp only at h; subst he; exact name_sound K h AF fun v hv => hQ v s.heap s.toks hv AF)
    case const c k p he => (dsimp only at h; subst he; exact const_sound h s Q AF hQ)
    case attr x p b q he => (dsimp only at h; subst he; exact attr_sound K h s Q AF hQ)
    case cmp l op r p he =>
      dsimp only at h
      subst he
      obtain ⟨c, hc, rfl⟩ := Option.map_eq_some_iff.mp h
      exact wpAny_Compare1 (comp_sound ih hc AF fun h' tk AF' => hQ _ h' tk rfl AF') (marks_of hc)
    all_goals cases h
theorem truth_sound {pv : PV} {b : Bool} {z : PZ} (h : ptruth pv = some (b, z)) (hz : ∀ k ∈ z, k ≤ 5000) {v : Value} (hv : pv.is C.o v) {s : Shared} {Q : Bool → Shared → Prop} (hQ : ∀ tk, Q b (upS s s.heap tk)) : C.W (truthy v) Q s := by
  cases pv <;> cases h
  · obtain rfl := hv; exact truthy_none (hQ s.toks)
  · obtain rfl := hv; exact wpAny_truthy_bool (hQ s.toks)
  · obtain ⟨t, rfl⟩ := hv
    exact KXt.truthy rfl (Nat.le_trans (hz _ List.mem_cons_self) (by decide)) hQ
  · obtain ⟨t, rfl⟩ := hv; exact PyProof.Rows.truthy_int (hQ s.toks)
noncomputable def TestsW (C : PC) (S : PS) (V : PVs) (env : Env) (e : Expr) (b : Bool) (whole : Sem Value) : Prop :=
  ∀ (s : Shared) (Q : Bool → Shared → Prop), After C S V s.heap → (∀ h' tk, After C S V h' → Q b (upS s h' tk)) → C.W (isTrue e env whole) Q s
theorem all_sound {env : Env} {pos : Pos} {op : BoolOp} {f : Expr → Option (Bool × PZ)} (ih : ∀ e b z, f e = some (b, z) → (∀ k ∈ z, k ≤ 5000) → TestsW C S V env e b (eval e env)) (whole : Sem Value) (es : List Expr) :
    ∀ (b : Bool) (z : PZ), pall (isAnd op) (es.map f) = some (b, z) → (∀ k ∈ z, k ≤ 5000) → TestsW C S V env (.BoolOp op es pos) b whole := by
  induction es with
  | nil =>
    intro b z h hz s Q AF hQ
    cases op <;> cases h
    · exact isTrue_and_nil (hQ s.heap s.toks AF)
    · exact isTrue_or_nil (hQ s.heap s.toks AF)
  | cons x r ihr =>
    intro b z h hz s Q AF hQ
    rw [List.map_cons] at h
    have h : (match f x, pall (isAnd op) (r.map f) with
      | some (b, z), some (c, y) => some (bif isAnd op then b && c else b || c, z ++ y)
      | _, _ => none) = some (b, z) := h
    cases h1 : f x with
    | none => rw [h1] at h; cases h
    | some q1 =>
     cases h2 : pall (isAnd op) (r.map f) with
     | none => rw [h1, h2] at h; cases h
     | some q2 =>
      rw [h1, h2] at h
      obtain ⟨b1, z1⟩ := q1
      obtain ⟨b2, z2⟩ := q2
      cases h
      have h3 := ih _ _ _ h1 (fun k hk => hz k (List.mem_append_left _ hk)) s
      have h4 := ihr _ _ h2 (fun k hk => hz k (List.mem_append_right _ hk))
      cases op with
      | And =>
        refine isTrue_and (h3 _ AF fun h' tk AF' => ?_)
        cases b1 with
        | true => exact h4 _ _ AF' hQ
        | false => exact hQ h' tk AF'
      | Or =>
        refine isTrue_or (h3 _ AF fun h' tk AF' => ?_)
        cases b1 with
        | false => exact h4 _ _ AF' hQ
        | true => exact hQ h' tk AF'
theorem ptest_sound (K : C.Ok) (n : Nat) : ∀ (e : Expr) (b : Bool) (z : PZ), ptest C.fx S n e = some (b, z) → (∀ k ∈ z, k ≤ 5000) → TestsW C S V C.env e b (eval e C.env) := by
  induction n with
  | zero => intro e b z h; cases h
  | succ n ih =>
    intro e b z h hz s Q AF hQ
    have h : ptestS C.fx S (pval C.fx S n) (ptest C.fx S n) e = some (b, z) := h
    delta ptestS at h
    generalize viewE e = v at h
    cases v
    case bool op es pos he => (dsimp only at h; subst he; exact all_sound ih _ es b z h hz s Q AF hQ)
    case not x pos he =>
      dsimp only at h
      subst he
      obtain ⟨⟨c, y⟩, h1, h2⟩ := Option.map_eq_some_iff.mp h
      cases h2
      exact isTrue_not (ih _ _ _ h1 hz s _ AF hQ)
    case cmp l op r p he =>
      dsimp only at h
      subst he
      obtain ⟨c, hc, h3⟩ := Option.map_eq_some_iff.mp h
      cases h3
      exact wpAny_isTrue_Compare1 (comp_sound (pval_sound K n) hc AF fun h' tk AF' => wpAny_truthy_bool (hQ h' tk AF')) (marks_of hc)
    case name x p he =>
      dsimp only at h
      subst he
      obtain ⟨v, h1, h2⟩ := Option.bind_eq_some_iff.mp h
      exact isTrue_plain (name_sound K h1 AF fun u hu => truth_sound h2 hz hu fun tk => hQ s.heap tk AF)
    case attr x p b q he =>
      dsimp only at h
      subst he
      obtain ⟨v, h1, h2⟩ := Option.bind_eq_some_iff.mp h
      exact isTrue_plain (attr_sound K h1 s _ AF fun u h' tk hu AF' => truth_sound h2 hz hu fun tk => hQ h' tk AF')
    all_goals cases h
theorem swaps_of {fx : PE} {n : Nat} {e : Expr} {pv : PV} {t : Option Expr} {l : Nat} {env : Env} (h : pval fx S n e = some pv) : swapsWith e t l env = pure false := by
  cases n with
  | zero => cases h
  | succ n =>
    have h : pvalS fx S (pval fx S n) e = some pv := h
    delta pvalS at h
    generalize viewE e = v at h
    cases v <;> first | (cases h; done) | (rename_i he; clear h; subst he; rfl)
noncomputable def flIs (o : Addr) : PFl → Flow → Prop
  | .next, f => f = .next
  | .brk, f => f = .brk
  | .cont, f => f = .cont
  | .ret v, f => ∃ u, v.is o u ∧ f = .ret u
  | .stuck _, _ => False
noncomputable def Ends (C : PC) (s : Shared) (S : PS) (fl : PFl) (Q : Flow → Shared → Prop) : Prop := ∀ f h' tk V', flIs C.o fl f → After C S V' h' → Q f (upS s h' tk)
noncomputable def Stops (C : PC) (s : Shared) (S : PS) (fl : PFl) : Prop := ∀ x, fl = .stuck x → ∀ Q' h' tk V', After C S V' h' → C.W (exec x C.env) Q' (upS s h' tk)
theorem set_sound (K : C.Ok) {t e : Expr} {p : Pos} {v : PV} {q : PS} (h1 : pval C.fx S 9 e = some v) (h2 : pset C.loc t v S = some q) {s : Shared} (AF : After C S V s.heap) {Q : Flow → Shared → Prop}
    (hQ : Ends C s q .next Q) : C.W (exec (.Assign [t] e p) C.env) Q s := by
  have h1' := pval_sound K 9 _ _ h1 (V := V) s
  delta pset at h2
  generalize viewE t = u at h2
  cases u
  case name x xp he =>
    dsimp only at h2
    subst he
    split at h2
    · rename_i hc
      cases h2
      have hy : x ∈ C.loc := List.contains_iff_mem.mp hc
      refine wpAny_Assign_Name (h1' _ AF fun u h' tk hu AF' => ?_) (swaps_of h1)
      refine storeX_L (s := upS s h' tk) AF'.good.1 AF'.good.2 (fun h2 F2 N2 => ?_) K.kind (K.locs x hy)
      refine hQ .next h2 _ ⟨fun y => if y = x then some u else V.m y, V.vs, V.vt⟩ rfl ⟨AF.st, AF.tok, ⟨F2, N2⟩, AF.names.set hu, fun q hq => ?_⟩
      rcases List.mem_cons.mp hq with rfl | hq
      · exact hy
      · exact AF.loc q (List.mem_filter.mp hq).1
    · cases h2
  case attr x xp b bp he =>
    dsimp only at h2
    subst he
    cases hx : pname S.nm x with
    | none => rw [hx] at h2; cases h2
    | some vx =>
      rw [hx] at h2
      cases vx <;> first | (cases h2; done) | skip
      dsimp only at h2
      refine plainObj_wpAny_Assign_Attribute (h1' _ AF fun u h' tk hu AF' => ?_) (swaps_of h1)
      refine name_sound K hx (s := upS s h' tk) AF' fun ov hov => ?_
      obtain rfl := hov
      delta psetA at h2
      split at h2
      · rename_i hb
        rw [eq_of_beq hb]
        cases h2
        exact K.wst _ V u _ AF'.good fun h2 tk2 g => hQ .next h2 tk2 ⟨V.m, u, V.vt⟩ rfl ⟨hu, AF.tok, g, AF.names, AF.loc⟩
      · split at h2
        · rename_i hb
          rw [eq_of_beq hb]
          cases h2
          exact K.wtk _ V u _ AF'.good fun h2 tk2 g => hQ .next h2 tk2 ⟨V.m, V.vs, u⟩ rfl ⟨AF.st, hu, g, AF.names, AF.loc⟩
        · cases h2
  all_goals cases h2
theorem aug_sound (K : C.Ok) {t e : Expr} {p : Pos} {v : PV} {q : PS × Nat} (h1 : pval C.fx S 9 e = some v) (h2 : paug t S v = some q) (hz : q.2 ≤ 5000) {s : Shared} (AF : After C S V s.heap) {Q : Flow → Shared → Prop}
    (hQ : Ends C s q.1 .next Q) : C.W (exec (.AugAssign t .Add e p) C.env) Q s := by
  delta paug at h2
  generalize viewE t = u at h2
  cases u
  case attr x xp b bp he =>
    dsimp only at h2
    subst he
    cases hx : pname S.nm x with
    | none => rw [hx] at h2; cases h2
    | some vx =>
      rw [hx] at h2
      cases vx <;> first | (cases h2; done) | skip
      cases ht : S.tok <;> rw [ht] at h2 <;> first | (cases h2; done) | skip
      cases v <;> first | (cases h2; done) | skip
      rename_i u v
      dsimp only at h2
      split at h2
      · rename_i hb
        cases h2
        rw [eq_of_beq hb]
        refine wpAny_AugAssign_AttributeAny (name_sound K hx AF fun ov hov => ?_)
        obtain rfl := hov
        refine K.rtk s V _ AF.good (is_handed AF.tok) fun tk => ?_
        refine pval_sound K 9 _ _ h1 (upS s s.heap tk) _ AF fun w' h' tk' hw AF' => ?_
        have h3 := AF.tok
        rw [ht] at h3
        obtain ⟨t1, h3⟩ := h3
        obtain ⟨t2, rfl⟩ := hw
        show C.W (inplaceOp .Add V.vt (Value.str v t2)) _ _
        rw [h3]
        refine PyProof.Rows.iadd_str (fun t' tk3 => ?_) (le_sz hz)
        exact K.wtk _ V (.str (u ++ v) t') _ AF'.good fun h9 tk9 g => hQ .next h9 tk9 ⟨V.m, V.vs, .str (u ++ v) t'⟩ rfl ⟨AF.st, ⟨_, rfl⟩, g, AF.names, AF.loc⟩
      · cases h2
  all_goals cases h2
theorem px_sound (K : C.Ok) (n : Nat) : ∀ (body : List Stmt) (path : List Bool) (S : PS) (r : PR), px C.loc C.fx n body path S = some r → r.ok = true → (∀ z ∈ r.zs, z ≤ 5000) → ∀ (s : Shared) (V : PVs) (Q : Flow → Shared → Prop), After C S V s.heap →
    Ends C s r.S r.fl Q → Stops C s r.S r.fl → C.W (execs body C.env) Q s := by
  induction n with
  | zero => intro body path S r h; cases h
  | succ n ih =>
    intro body path S r h hok hz s V Q AF hQ hS
    cases body with
    | nil =>
      cases h
      exact wpAny_execs_nil (hQ .next s.heap s.toks V rfl AF)
    | cons x rest =>
      have h : pxS C.loc C.fx (px C.loc C.fx n) x rest path S = some r := h
      delta pxS at h
      generalize viewS x = v at h
      cases v
      case pass p he => (dsimp only at h; subst he; exact wpAny_execs_cons (wpAny_Pass (ih rest path S r h hok hz s V Q AF hQ hS)))
      case brk p he => (dsimp only at h; subst he; cases h; exact wpAny_execs_cons (wpAny_Break (hQ .brk s.heap s.toks V rfl AF)))
      case cont p he => (dsimp only at h; subst he; cases h; exact wpAny_execs_cons (wpAny_Continue (hQ .cont s.heap s.toks V rfl AF)))
      case ret e p he =>
        dsimp only at h
        subst he
        obtain ⟨v, h1, h2⟩ := Option.map_eq_some_iff.mp h
        cases h2
        exact wpAny_execs_cons (wpAny_Return_some (pval_sound K 9 _ _ h1 s _ AF fun u h' tk hu AF' => hQ _ h' tk V ⟨u, hu, rfl⟩ AF'))
      case assign t e p he =>
        dsimp only at h
        subst he
        obtain ⟨v, h1, h⟩ := Option.bind_eq_some_iff.mp h
        obtain ⟨q, h2, h⟩ := Option.bind_eq_some_iff.mp h
        refine wpAny_execs_cons (set_sound K h1 h2 AF fun f h' tk V' hf AF' => ?_)
        obtain rfl := hf
        exact ih rest path _ r h hok hz (upS s h' tk) V' Q AF' hQ hS
      case aug t e p he =>
        dsimp only at h
        subst he
        obtain ⟨v, h1, h⟩ := Option.bind_eq_some_iff.mp h
        obtain ⟨q, h2, h⟩ := Option.bind_eq_some_iff.mp h
        obtain ⟨r', h3, h4⟩ := Option.map_eq_some_iff.mp h
        cases h4
        refine wpAny_execs_cons (aug_sound K h1 h2 (hz _ List.mem_cons_self) AF fun f h' tk V' hf AF' => ?_)
        obtain rfl := hf
        exact ih rest path _ r' h3 hok (fun z hz' => hz z (List.mem_cons_of_mem _ hz')) (upS s h' tk) V' Q AF' hQ hS
      case ifs t b els p he =>
        dsimp only at h
        subst he
        obtain ⟨⟨c, z⟩, h1, h⟩ := Option.bind_eq_some_iff.mp h
        cases path with
        | nil => cases h
        | cons d path =>
          obtain ⟨r1, h2, h⟩ := Option.bind_eq_some_iff.mp h
          have key : ((c == d) && r1.ok) = true → (∀ k ∈ z ++ r1.zs, k ≤ 5000) → ∀ Q1 : Flow → Shared → Prop, Ends C s r1.S r1.fl Q1 → Stops C s r1.S r1.fl → C.W (exec (.If t b els p) C.env) Q1 s := by
            intro k1 k2 Q1 q1 q2
            simp only [Bool.and_eq_true] at k1
            obtain rfl := eq_of_beq k1.1
            have h3 := ih _ _ _ r1 h2 k1.2 (fun k hk => k2 k (List.mem_append_right _ hk))
            refine exec_if (ptest_sound K 9 _ _ _ h1 (fun k hk => k2 k (List.mem_append_left _ hk)) s _ AF fun h' tk AF' => ?_)
            cases c with
            | true => exact ifq_yes rfl (h3 (upS s h' tk) V Q1 AF' q1 q2)
            | false => exact ifq_no rfl (h3 (upS s h' tk) V Q1 AF' q1 q2)
          obtain ⟨fl, S1, path1, ok1, zs1⟩ := r1
          cases fl with
          | next =>
            obtain ⟨r2, h3, h4⟩ := Option.map_eq_some_iff.mp h
            cases h4
            rw [Bool.and_eq_true] at hok
            refine execs_seq (key hok.1 (fun k hk => hz k (List.mem_append_left _ hk)) _ (fun f h' tk V' hf AF' => ?_) (fun x hx => by cases hx))
            obtain rfl := hf
            exact seq_next (ih rest _ _ r2 h3 hok.2 (fun k hk => hz k (List.mem_append_right _ hk)) (upS s h' tk) V' Q AF' hQ hS)
          | _ =>
            cases h
            refine execs_seq (key hok hz _ (fun f h' tk V' hf AF' => ?_) hS)
            have hq := hQ f h' tk V' hf AF'
            first
              | (obtain rfl := hf; exact hq)
              | (obtain ⟨u, hu, rfl⟩ := hf; exact hq)
              | exact hf.elim
      case other =>
        cases h
        exact wpAny_execs_cons (hS x rfl _ s.heap s.toks V AF)
end
end Mine
namespace Mine
-- Rt1
open PySem PySem.W PyProof.Rows PySem.Spec PySem.Calls
set_option maxHeartbeats 8000000
theorem room_of {a n k L : Nat} (h : a + n < L) (hk : k ≤ n) : a + k < L := Nat.lt_of_le_of_lt (Nat.add_le_add_left hk a) h
theorem room_of3 {a n j k L : Nat} (h : a + n < L) (hk : j + k ≤ n) : a + j + k < L := by omega
noncomputable abbrev lexE2 (P : Params) (io d1 d2 : Addr) (vs vt : Value) (ks : List Tok) (us : Nat → Tok) : List DictEntry :=
  [⟨PyData.keyHash P (Str.ofString "instream"), .str (Str.ofString "instream") (ks.getD 0 0), .ref io⟩,
   ⟨PyData.keyHash P (Str.ofString "infile"), .str (Str.ofString "infile") (ks.getD 1 0), .none⟩,
   ⟨PyData.keyHash P (Str.ofString "posix"), .str (Str.ofString "posix") (ks.getD 2 0), .bool true⟩,
   ⟨PyData.keyHash P (Str.ofString "eof"), .str (Str.ofString "eof") (ks.getD 3 0), .none⟩,
   ⟨PyData.keyHash P (Str.ofString "commenters"), .str (Str.ofString "commenters") (ks.getD 4 0), .str (Str.ofString "") (us 0)⟩,
   ⟨PyData.keyHash P (Str.ofString "wordchars"), .str (Str.ofString "wordchars") (ks.getD 5 0), .str wordCh (us 1)⟩,
   ⟨PyData.keyHash P (Str.ofString "whitespace"), .str (Str.ofString "whitespace") (ks.getD 6 0), .str (Str.ofString " \t\x0d\n") (us 2)⟩,
   ⟨PyData.keyHash P (Str.ofString "whitespace_split"), .str (Str.ofString "whitespace_split") (ks.getD 7 0), .bool true⟩,
   ⟨PyData.keyHash P (Str.ofString "quotes"), .str (Str.ofString "quotes") (ks.getD 8 0), .str (Str.ofString "'\"") (us 3)⟩,
   ⟨PyData.keyHash P (Str.ofString "escape"), .str (Str.ofString "escape") (ks.getD 9 0), .str (Str.ofString "\\") (us 4)⟩,
   ⟨PyData.keyHash P (Str.ofString "escapedquotes"), .str (Str.ofString "escapedquotes") (ks.getD 10 0), .str (Str.ofString "\"") (us 5)⟩,
   ⟨PyData.keyHash P (Str.ofString "state"), .str (Str.ofString "state") (ks.getD 11 0), vs⟩,
   ⟨PyData.keyHash P (Str.ofString "pushback"), .str (Str.ofString "pushback") (ks.getD 12 0), .ref d1⟩,
   ⟨PyData.keyHash P (Str.ofString "lineno"), .str (Str.ofString "lineno") (ks.getD 13 0), .int 1 (us 6)⟩,
   ⟨PyData.keyHash P (Str.ofString "debug"), .str (Str.ofString "debug") (ks.getD 14 0), .int 0 (us 7)⟩,
   ⟨PyData.keyHash P (Str.ofString "token"), .str (Str.ofString "token") (ks.getD 15 0), vt⟩,
   ⟨PyData.keyHash P (Str.ofString "filestack"), .str (Str.ofString "filestack") (ks.getD 16 0), .ref d2⟩,
   ⟨PyData.keyHash P (Str.ofString "source"), .str (Str.ofString "source") (ks.getD 17 0), .none⟩,
   ⟨PyData.keyHash P (Str.ofString "_punctuation_chars"), .str (Str.ofString "_punctuation_chars") (ks.getD 18 0), .str (Str.ofString "") (us 8)⟩]
structure LexP where
  (o dx io di d1 d2 : Addr)
  (x : Str)
  (tx : Tok)
  (ks3 : Tok × Tok × Tok)
  ks : List Tok
  us : Nat → Tok
  news : Led
noncomputable abbrev lexL (P : Params) (l : LexP) (i : Int) (tp : Tok) (vs vt : Value) : Led :=
  (l.io, instObj 686 l.di) :: (l.di, dictOf (sioEs P l.x l.tx i tp l.ks3) 3) :: (l.o, instObj 821 l.dx) :: (l.dx, dictOf (lexE2 P l.io l.d1 l.d2 vs vt l.ks l.us) 19) :: (l.d2, deqObj) :: (l.d1, deqObj) :: l.news
structure LexP.ok (l : LexP) : Prop where
  h1 : @LT.lt Nat _ l.dx l.o
  h2 : @LT.lt Nat _ l.o l.di
  h3 : @LT.lt Nat _ l.di l.io
  h4 : @LT.lt Nat _ l.io l.d1
  h5 : @LT.lt Nat _ l.d1 l.d2
  hl : ∀ q ∈ l.news, q.1 ≠ l.dx ∧ q.1 ≠ l.di
noncomputable abbrev lexFx : PE := [(Str.ofString "posix", .bool true), (Str.ofString "commenters", .str (Str.ofString "")), (Str.ofString "wordchars", .str wordCh), (Str.ofString "whitespace", .str (Str.ofString " \t\x0d\n")),
  (Str.ofString "whitespace_split", .bool true), (Str.ofString "quotes", .str (Str.ofString "'\"")), (Str.ofString "escape", .str (Str.ofString "\\")), (Str.ofString "escapedquotes", .str (Str.ofString "\"")), (Str.ofString "debug", .int 0), (Str.ofString "punctuation_chars", .str (Str.ofString ""))]
section
variable {w : World} {p : Program} {loose : List Str} {mean : ExcName → Option Value} {mg mb : Str → Option Value} {A₀ : Around} {base h₀ : Heap} {L a : Addr} {cn : Str} {cs : Scope} {ccd : Value} {cl : List (Str × Addr)} {outer : List Env} {E : Value → Shared → Prop} {dp un : Nat} {gd : Option (List Code)}
theorem lines_Rt1_0 : True := by
  k_with_none
  k_with "lt" => first | with_reducible assumption | exact And.left (by with_reducible assumption) | exact And.left (And.right (by with_reducible assumption)) | exact And.left (And.right (And.right (by with_reducible assumption))) | exact And.left (And.right (And.right (And.right (by with_reducible assumption)))) | exact And.left (And.right (And.right (And.right (And.right (by with_reducible assumption)))))
  k_with "rl" => with_unfolding_all exact rfl
  k_with "omega" => first | (with_reducible exact om_room ‹_›) | (with_reducible exact om_le ‹_› (by k_extra "rl")) | (with_reducible exact om_ne1 (by k_extra "lt")) | lia
  k_with "k_all" => first | assumption | exact ne_allLt (by first | assumption | exact And.right (by assumption) | exact And.right (And.right (by assumption)) | exact And.right (And.right (And.right (by assumption))))
  trivial
theorem lex_own {l : LexP} {i : Int} {tp : Tok} (X : (KF w.params).In h₀) {s : Shared} {m : Str → Option Value} {vs vt v : Value} {name : Str} {A : Around} {Q : Value → Shared → Prop} {attr : Option Value} (F : Fr h₀ L s.heap m) (N : News h₀ L s.heap (lexL w.params l i tp vs vt))
    (hg : plainGet (KF w.params) 821 name = true) (ha : findIn (KF w.params) (.ref 821) name = some attr) (hn : noGet (KF w.params) attr = true) (hl : getL name (lexE2 w.params l.io l.d1 l.d2 vs vt l.ks l.us) = some (some v)) (hv : handedIn v = true)
    (h : ∀ tk, Q v { s with toks := tk }) : wpAny (model pw w) A (getAttr (.ref l.o) name true) Q E s :=
  get_own F X (InstAt.of_news N (.tail _ (.tail _ (.head _))) (.tail _ (.tail _ (.tail _ (.head _))))) hg (by k_is) ha hn hl hv (h _)
theorem lines_Rt1_1 : True := by
  k_with "ktr_enter" => (refine' code_def ?k1zq ?k2zq ?k3zq ?k4zq ?k5zq ?kAzq ?kFzq ?kKzq ?k6zq ?k7zq ?k8zq ?k9zq ?kBzq ?_ ?c2zq ?c3zq ?c4zq ?c5zq; (case kAzq => exact rfl); (case kFzq => exact rfl); (case kKzq => first | assumption | exact rfl); (case k1zq => k_asm); (case k2zq => k_asm); (case k3zq => k_asm); (case k4zq => k_asm); (case k5zq => k_asm); (case k6zq => k_is); (case k7zq => k_is); (case k8zq => first | ktr_room | omega | (trace_state; fail)); (case k9zq => exact BindsTo.of_eq rfl); (case c5zq => decide); (case kBzq => exact locs rfl); (case c2zq => exact rfl); (case c3zq => exact rfl); (case c4zq => exact rfl); k_whole; intro _ _ _ _ _ _ _ _ _; (try dsimp only); (try k_fold))
  trivial
theorem lex_punct {l : LexP} (ok : l.ok) {i : Int} {tp : Tok} {s : Shared} {m : Str → Option Value} {vs vt : Value} {Q : Value → Shared → Prop}
    (B : Below A₀ base outer h₀) (F : Fr h₀ L s.heap m) (X : (KF w.params).In h₀) (N : News h₀ L s.heap (lexL w.params l i tp vs vt)) (T : Top p loose mean mg mb h₀) (hk : cs.kind = .function) (hd : dp + 160 < recursionLimit) (hu : un + 900 < cLine)
    (hQ : ∀ h' tk, Fr h₀ L h' m → News h₀ L h' (lexL w.params l i tp vs vt) → Q (.str (Str.ofString "") (l.us 8)) { s with heap := h', toks := tk }) :
    wpAny (model pw w) (ktrTop dp un gd cn cs L a ccd cl outer) (getAttr (.ref l.o) (Str.ofString "punctuation_chars") true) Q E s := by
  obtain ⟨o, dx, io, di, d1, d2, x, tx, ks3, ks, us, news⟩ := l
  dsimp only [lexL] at N hQ ⊢
  k_dflt (refine' get_prop ?k1 ?k2 ?k3 ?k4 ?k5 ?k6 ?k7 ?k8 ?k9 ?_; (case k1 => k_asm); (case k2 => k_asm); (case k3 => k_inst); (case k4 => k_is); (case k5 => k_is); (case k6 => k_is); (case k7 => k_is); (case k8 => k_is); (case k9 => k_is); k_whole; ktr_enter)
  k_steps
  exact hQ _ _ (by assumption) (by assumption)
theorem lex_upd {P : Params} {l : LexP} (ok : l.ok) {i : Int} {tp : Tok} {vs vt vs' vt' : Value} : Upd l.dx (dictOf (lexE2 P l.io l.d1 l.d2 vs vt l.ks l.us) 19) (dictOf (lexE2 P l.io l.d1 l.d2 vs' vt' l.ks l.us) 19) (lexL P l i tp vs vt) (lexL P l i tp vs' vt') := by
  obtain ⟨h1, h2, h3, h4, h5, hl⟩ := ok
  have g2 := Nat.lt_trans h1 h2
  have g3 := Nat.lt_trans g2 h3
  have g4 := Nat.lt_trans g3 h4
  have g5 := Nat.lt_trans g4 h5
  refine .tail (Nat.ne_of_gt g3) (.tail (Nat.ne_of_gt g2) (.tail (Nat.ne_of_gt h1) (.head ?_)))
  intro p hp
  rcases List.mem_cons.mp hp with rfl | hp
  · exact Nat.ne_of_gt g5
  · rcases List.mem_cons.mp hp with rfl | hp
    · exact Nat.ne_of_gt g4
    · exact (hl p hp).1
theorem lex_set {l : LexP} (ok : l.ok) {i : Int} {tp : Tok} (X : (KF w.params).In h₀) {s : Shared} {m : Str → Option Value} {vs vt v vs' vt' : Value} {name : Str} {A : Around} {Q : Unit → Shared → Prop} (F : Fr h₀ L s.heap m) (N : News h₀ L s.heap (lexL w.params l i tp vs vt))
    (ht : takerIn (KF w.params) 821 name = some none) (hl : (getL name (lexE2 w.params l.io l.d1 l.d2 vs vt l.ks l.us)).isSome = true)
    (e : (putL name (PyData.keyHash w.params name) (.str name (s.toks + 1)) v (lexE2 w.params l.io l.d1 l.d2 vs vt l.ks l.us), putN name (lexE2 w.params l.io l.d1 l.d2 vs vt l.ks l.us) 19) = (lexE2 w.params l.io l.d1 l.d2 vs' vt' l.ks l.us, 19))
    (h : ∀ h' tk, Fr h₀ L h' m → News h₀ L h' (lexL w.params l i tp vs' vt') → Q () { s with heap := h', toks := tk }) : wpAny (model pw w) A (setAttr (.ref l.o) name v) Q E s :=
  set_dict F X N (InstAt.of_news N (.tail _ (.tail _ (.head _))) (.tail _ (.tail _ (.tail _ (.head _))))) rfl (by k_is) (by k_is) ht (by k_is) hl e (lex_upd ok) (Nat.le_of_ble_eq_true rfl) fun h' F' N' => h h' _ F' N'
noncomputable abbrev lexC (w : World) (dp un : Nat) (gd : Option (List Code)) (cn : Str) (cs : Scope) (L a : Addr) (ccd : Value) (cl : List (Str × Addr)) (outer : List Env) (E : Value → Shared → Prop) (h₀ : Heap) (l : LexP) (i : Int) (tp : Tok) (loc : List Str) : PC :=
  ⟨pw, w, ktrTop dp un gd cn cs L a ccd cl outer, E, h₀, L, l.o, a, cn, cs, ccd, cl, lexL w.params l i tp, lexFx, loc⟩
theorem lex_px {l : LexP} (ok : l.ok) {i : Int} {tp : Tok} (loc : List Str)
    (B : Below A₀ base outer h₀) (X : (KF w.params).In h₀) (T : Top p loose mean mg mb h₀) (hk : cs.kind = .function) (hd : dp + 160 < recursionLimit) (hu : un + 900 < cLine) (hloc : ∀ x ∈ loc, (envX cn cs L a ccd cl).kindOf x = some .local) :
    (lexC w dp un gd cn cs L a ccd cl outer E h₀ l i tp loc).Ok where
  kind := hk
  locs := hloc
  reads := by
    intro s V a pv Q g h hQ
    have := lookup_mem h
    clear h
    revert this
    simp only [List.mem_cons, List.not_mem_nil, or_false, Prod.mk.injEq]
    rintro (⟨rfl, rfl⟩ | ⟨rfl, rfl⟩ | ⟨rfl, rfl⟩ | ⟨rfl, rfl⟩ | ⟨rfl, rfl⟩ | ⟨rfl, rfl⟩ | ⟨rfl, rfl⟩ | ⟨rfl, rfl⟩ | ⟨rfl, rfl⟩ | ⟨rfl, rfl⟩)
    · exact lex_own X g.1 g.2 (by k_is) (by k_is) (by k_is) rfl rfl fun tk => hQ _ s.heap tk rfl g
    · exact lex_own X g.1 g.2 (by k_is) (by k_is) (by k_is) rfl rfl fun tk => hQ _ s.heap tk ⟨_, rfl⟩ g
    · exact lex_own X g.1 g.2 (by k_is) (by k_is) (by k_is) rfl rfl fun tk => hQ _ s.heap tk ⟨_, rfl⟩ g
    · exact lex_own X g.1 g.2 (by k_is) (by k_is) (by k_is) rfl rfl fun tk => hQ _ s.heap tk ⟨_, rfl⟩ g
    · exact lex_own X g.1 g.2 (by k_is) (by k_is) (by k_is) rfl rfl fun tk => hQ _ s.heap tk rfl g
    · exact lex_own X g.1 g.2 (by k_is) (by k_is) (by k_is) rfl rfl fun tk => hQ _ s.heap tk ⟨_, rfl⟩ g
    · exact lex_own X g.1 g.2 (by k_is) (by k_is) (by k_is) rfl rfl fun tk => hQ _ s.heap tk ⟨_, rfl⟩ g
    · exact lex_own X g.1 g.2 (by k_is) (by k_is) (by k_is) rfl rfl fun tk => hQ _ s.heap tk ⟨_, rfl⟩ g
    · exact lex_own X g.1 g.2 (by k_is) (by k_is) (by k_is) rfl rfl fun tk => hQ _ s.heap tk ⟨_, rfl⟩ g
    · exact lex_punct ok B g.1 X g.2 T hk hd hu fun h' tk F' N' => hQ _ h' tk ⟨_, rfl⟩ ⟨F', N'⟩
  rst := fun s V Q g hv h => lex_own X g.1 g.2 (by k_is) (by k_is) (by k_is) rfl hv h
  rtk := fun s V Q g hv h => lex_own X g.1 g.2 (by k_is) (by k_is) (by k_is) rfl hv h
  wst := fun s V v Q g h => lex_set ok X g.1 g.2 (by k_is) rfl rfl fun h' tk F' N' => h h' tk ⟨F', N'⟩
  wtk := fun s V v Q g h => lex_set ok X g.1 g.2 (by k_is) rfl rfl fun h' tk F' N' => h h' tk ⟨F', N'⟩
end
end Mine
namespace Mine
-- LexPlain

inductive LS | sp | q (c : Nat) | a | fin
deriving DecidableEq
noncomputable def isWs (c : Nat) : Bool := c == 32
noncomputable def isQ (c : Nat) : Bool := c == 39 || c == 34
-- one read_token: (token of the answer, quoted) ; none = ValueError 'No closing quotation'
noncomputable def rd : LS → List Nat → Bool → List Nat → Option ((List Nat × Bool) × LS × List Nat)
  | .fin, _, qd, r => some (([], qd), .fin, r)
  | .sp, tok, qd, [] => some ((tok, qd), .fin, [])
  | .sp, tok, qd, c :: r => if isWs c then (if tok.isEmpty && !qd then rd .sp tok qd r else some ((tok, qd), .sp, r)) else if isQ c then rd (.q c) tok qd r else rd .a [c] qd r
  | .q _, _, _, [] => none
  | .q k, tok, _, c :: r => if c == k then rd .a tok true r else rd (.q k) (tok ++ [c]) true r
  | .a, tok, qd, [] => some ((tok, qd), .fin, [])
  | .a, tok, qd, c :: r => if isWs c then (if tok.isEmpty && !qd then rd .sp tok qd r else some ((tok, qd), .sp, r)) else if isQ c then rd (.q c) tok qd r else rd .a (tok ++ [c]) qd r
-- the words: none at an error; an answer [] not quoted is the end
noncomputable def words : Nat → LS → List Nat → Option (List (List Nat))
  | 0, _, _ => some []
  | n + 1, st, x => match rd st [] false x with
    | none => none
    | some ((t, qd), st', r) => if t.isEmpty && !qd then some [] else (words n st' r).map (t :: ·)
noncomputable def str (s : String) : List Nat := s.toList.map (·.toNat)
theorem rd_q {k : Nat} : ∀ {s : List Nat} {tok r : List Nat}, k ∉ s → rd (.q k) tok true (s ++ k :: r) = rd .a (tok ++ s) true r
  | [], tok, r, _ => by simp [rd]
  | c :: s, tok, r, h => by
    have hc : ¬ c = k := fun e => h (e ▸ List.mem_cons_self)
    have hs : k ∉ s := fun e => h (List.mem_cons_of_mem _ e)
    show rd (.q k) tok true (c :: (s ++ k :: r)) = _
    rw [rd, if_neg (by simpa using hc), rd_q hs]
    simp
theorem rd_word {s r : List Nat} (h : 39 ∉ s) (hs : s ≠ []) : rd .sp [] false (39 :: (s ++ 39 :: r)) = rd .a s true r := by
  obtain ⟨c, t, rfl⟩ := List.exists_cons_of_ne_nil hs
  have hc : ¬ c = 39 := fun e => h (e ▸ List.mem_cons_self)
  have ht : 39 ∉ t := fun e => h (List.mem_cons_of_mem _ e)
  have e1 : rd .sp [] false (39 :: (c :: t ++ 39 :: r)) = rd (.q 39) [] false (c :: (t ++ 39 :: r)) := by simp [rd, isWs, isQ]
  have e2 : rd (.q 39) [] false (c :: (t ++ 39 :: r)) = rd (.q 39) ([] ++ [c]) true (t ++ 39 :: r) := by rw [rd, if_neg (by simpa using hc)]
  rw [e1, e2, rd_q ht]
  simp
noncomputable def quotedL (s : List Nat) : List Nat := 39 :: (s ++ [39])
noncomputable def joined : List (List Nat) → List Nat
  | [] => []
  | [s] => quotedL s
  | s :: r => quotedL s ++ 32 :: joined r
theorem words_joined : ∀ (ss : List (List Nat)) (n : Nat), ss.length < n → ss ≠ [] → (∀ s ∈ ss, 39 ∉ s ∧ s ≠ []) → words n .sp (joined ss) = some ss
  | [], _, _, h, _ => absurd rfl h
  | [s], n + 1, _, _, h => by
    have h1 := (h s List.mem_cons_self)
    have e : rd .sp [] false (joined [s]) = some ((s, true), .fin, []) := by
      show rd .sp [] false (39 :: (s ++ [39])) = _
      rw [rd_word h1.1 h1.2]; rfl
    rw [words, e]
    cases n with
    | zero => simp at *
    | succ n => simp [words, rd]
  | s :: t :: r, n + 1, hn, _, h => by
    have h1 := (h s List.mem_cons_self)
    have e : rd .sp [] false (joined (s :: t :: r)) = some ((s, true), .sp, joined (t :: r)) := by
      show rd .sp [] false (39 :: (s ++ [39]) ++ 32 :: joined (t :: r)) = _
      have e0 : 39 :: (s ++ [39]) ++ 32 :: joined (t :: r) = 39 :: (s ++ 39 :: (32 :: joined (t :: r))) := by simp
      rw [e0, rd_word h1.1 h1.2]
      simp [rd, isWs]
    rw [words, e]
    have ih := words_joined (t :: r) n (by simp at hn ⊢; lia) (by simp) (fun z hz => h z (List.mem_cons_of_mem _ hz))
    simp [ih]
theorem rd_pairs : ∀ (j : Nat) (r : List Nat), rd .a [] true (List.replicate (2 * j) 34 ++ r) = rd .a [] true r
  | 0, r => rfl
  | j + 1, r => by
    have e : List.replicate (2 * (j + 1)) 34 ++ r = 34 :: 34 :: (List.replicate (2 * j) 34 ++ r) := by
      rw [show 2 * (j + 1) = 2 * j + 1 + 1 by lia, List.replicate_succ, List.replicate_succ]; rfl
    rw [e, ← rd_pairs j r]
    simp [rd, isWs, isQ]
theorem marks_even (j : Nat) : words 5 .sp (List.replicate (2 * j) 34 ++ [32, 120]) = some (if j = 0 then [[120]] else [[], [120]]) := by
  cases j with
  | zero => decide
  | succ j =>
    have e : List.replicate (2 * (j + 1)) 34 ++ [32, 120] = 34 :: 34 :: (List.replicate (2 * j) 34 ++ [32, 120]) := by
      rw [show 2 * (j + 1) = 2 * j + 1 + 1 by lia, List.replicate_succ, List.replicate_succ]; rfl
    have e2 : rd .sp [] false (34 :: 34 :: (List.replicate (2 * j) 34 ++ [32, 120])) = rd .a [] true (List.replicate (2 * j) 34 ++ [32, 120]) := by simp [rd, isWs, isQ]
    rw [e, words, e2, rd_pairs, if_neg (by lia)]
    decide
theorem marks_odd (j : Nat) : words 5 .sp (List.replicate (2 * j + 1) 34 ++ [32, 120]) = none := by
  have e3 : rd (.q 34) [] true [32, 120] = none := by decide
  cases j with
  | zero => decide
  | succ j =>
    have e : List.replicate (2 * (j + 1) + 1) 34 ++ [32, 120] = 34 :: 34 :: (List.replicate (2 * j) 34 ++ 34 :: [32, 120]) := by
      rw [show 2 * (j + 1) + 1 = (2 * j + 1) + 1 + 1 by lia, List.replicate_succ, List.replicate_succ, List.replicate_succ']; simp
    have e2 : rd .sp [] false (34 :: 34 :: (List.replicate (2 * j) 34 ++ 34 :: [32, 120])) = rd .a [] true (List.replicate (2 * j) 34 ++ 34 :: [32, 120]) := by simp [rd, isWs, isQ]
    rw [e, words, e2, rd_pairs]
    decide
end Mine
namespace Mine
-- Rt3
open PySem PySem.W PyProof.Rows PySem.Spec PySem.Calls
set_option maxHeartbeats 8000000
theorem lines_Rt3_0 : True := by
  k_with_none
  k_with "lt" => first | with_reducible assumption | exact And.left (by with_reducible assumption) | exact And.left (And.right (by with_reducible assumption)) | exact And.left (And.right (And.right (by with_reducible assumption))) | exact And.left (And.right (And.right (And.right (by with_reducible assumption)))) | exact And.left (And.right (And.right (And.right (And.right (by with_reducible assumption)))))
  k_with "rl" => with_unfolding_all exact rfl
  k_with "omega" => first | (with_reducible exact om_room ‹_›) | (with_reducible exact om_le ‹_› (by k_extra "rl")) | (with_reducible exact om_ne1 (by k_extra "lt")) | lia
  trivial
noncomputable def rtLoop : List Stmt := match mb35x6.1 with
  | _ :: _ :: .While _ b _ _ :: _ => b
  | _ => []
noncomputable def rtRest : List Stmt := rtLoop.tail
noncomputable def rtEnd : List Stmt := mb35x6.1.drop 3
noncomputable def rtLoc : List Str := [Str.ofString "self", Str.ofString "quoted", Str.ofString "escapedstate", Str.ofString "nextchar", Str.ofString "result"]
noncomputable def LS.pv : LS → PV
  | .sp => .str (Str.ofString " ")
  | .q c => .str ⟨#[c]⟩
  | .a => .str (Str.ofString "a")
  | .fin => .none
noncomputable abbrev strL (l : List Nat) : Str := ⟨l.toArray⟩
noncomputable abbrev S0 (z : LS) (tok : Str) (qd : Bool) (ch : Str) : PS := ⟨[(Str.ofString "self", .self), (Str.ofString "quoted", .bool qd), (Str.ofString "escapedstate", .str (Str.ofString " ")), (Str.ofString "nextchar", .str ch)], z.pv, .str tok⟩
noncomputable abbrev rx (path : List Bool) (S : PS) : Option PR := px rtLoc lexFx 40 rtRest path S
theorem x_fin (tok : Str) (qd : Bool) : rx [false, false, true] (S0 .fin tok qd (strL [])) = some ⟨.brk, ⟨(S0 .fin tok qd (strL [])).nm, .none, .str (Str.ofString "")⟩, [], true, []⟩ := by kernel_rfl
theorem x_sp_ws : rx [false, false, false, true, false, true, false, false] (S0 .sp (strL []) false (strL [32])) = some ⟨.cont, S0 .sp (strL []) false (strL [32]), [], true, [1, 0]⟩ := by kernel_rfl
theorem x_sp_q39 : rx [false, false, false, true, false, false, false, false, false, false, true, false] (S0 .sp (strL []) false (strL [39])) = some ⟨.next, S0 (.q 39) (strL []) false (strL [39]), [], true, [1]⟩ := by kernel_rfl
theorem x_sp_q34 : rx [false, false, false, true, false, false, false, false, false, false, true, false] (S0 .sp (strL []) false (strL [34])) = some ⟨.next, S0 (.q 34) (strL []) false (strL [34]), [], true, [1]⟩ := by kernel_rfl
theorem x_sp_x : rx [false, false, false, true, false, false, false, false, true] (S0 .sp (strL []) false (strL [120])) = some ⟨.next, S0 .a (strL [120]) false (strL [120]), [], true, [1]⟩ := by kernel_rfl
noncomputable abbrev S1 (st : PV) (tok : Str) (ch : Str) : PS := ⟨[(Str.ofString "quoted", .bool true), (Str.ofString "self", .self), (Str.ofString "escapedstate", .str (Str.ofString " ")), (Str.ofString "nextchar", .str ch)], st, .str tok⟩
theorem x_q39_e (tok : Str) (qd : Bool) : rx [false, false, false, false, true, false, true, false] (S0 (.q 39) tok qd (strL [39])) = some ⟨.next, S1 LS.a.pv tok (strL [39]), [], true, [1]⟩ := by kernel_rfl
theorem x_q34_e (tok : Str) (qd : Bool) : rx [false, false, false, false, true, false, true, false] (S0 (.q 34) tok qd (strL [34])) = some ⟨.next, S1 LS.a.pv tok (strL [34]), [], true, [1]⟩ := by kernel_rfl
noncomputable def qch : List Nat := [32, 33, 34, 40, 41, 48, 49, 50, 51, 52, 53, 54, 55, 56, 57, 124]
theorem x_q39_c (tok : Str) (qd : Bool) : ∀ c ∈ qch, rx [false, false, false, false, true, false, false, false] (S0 (.q 39) tok qd (strL [c])) = some ⟨.next, S1 (.str (strL [39])) (tok ++ strL [c]) (strL [c]), [], true, [1, tok.length + 1]⟩ := by
  unfold qch
  repeat (refine List.forall_mem_cons.mpr ⟨by kernel_rfl, ?_⟩)
  intro _ h
  cases h
theorem x_q34_c (tok : Str) (qd : Bool) : ∀ c ∈ [32, 120], rx [false, false, false, false, true, false, false, false] (S0 (.q 34) tok qd (strL [c])) = some ⟨.next, S1 (.str (strL [34])) (tok ++ strL [c]) (strL [c]), [], true, [1, tok.length + 1]⟩ := by
  repeat (refine List.forall_mem_cons.mpr ⟨by kernel_rfl, ?_⟩)
  intro _ h
  cases h
noncomputable def rtRaise : Stmt := match rx [false, false, false, false, true, true, false] (S0 (.q 34) (strL []) true (strL [])) with
  | some r => match r.fl with
    | PFl.stuck s => s
    | _ => .Pass ⟨0, 0, 0, 0⟩
  | none => .Pass ⟨0, 0, 0, 0⟩
theorem x_q34_n (tok : Str) (qd : Bool) : rx [false, false, false, false, true, true, false] (S0 (.q 34) tok qd (strL [])) = some ⟨.stuck rtRaise, S1 (.str (strL [34])) tok (strL []), [], true, [0]⟩ := by kernel_rfl
theorem x_a_n (tok : Str) (qd : Bool) : rx [false, false, false, false, false, false, true, true] (S0 .a tok qd (strL [])) = some ⟨.brk, ⟨(S0 .a tok qd (strL [])).nm, .none, .str tok⟩, [], true, [0]⟩ := by kernel_rfl
theorem x_a_ws (tok : Str) (qd : Bool) : rx [false, false, false, false, false, false, true, false, true, false, true] (S0 .a tok qd (strL [32])) = some ⟨.brk, S0 .sp tok qd (strL [32]), [], ((((tok.length : Int) != 0) || ((qd && true) || false)) == true) && true, [1, tok.length]⟩ := by kernel_rfl
theorem x_a_q39 (tok : Str) (qd : Bool) : rx [false, false, false, false, false, false, true, false, false, false, false, true] (S0 .a tok qd (strL [39])) = some ⟨.next, S0 (.q 39) tok qd (strL [39]), [], true, [1]⟩ := by kernel_rfl
theorem x_a_q34 (tok : Str) (qd : Bool) : rx [false, false, false, false, false, false, true, false, false, false, false, true] (S0 .a tok qd (strL [34])) = some ⟨.next, S0 (.q 34) tok qd (strL [34]), [], true, [1]⟩ := by kernel_rfl
theorem x_a_x (tok : Str) (qd : Bool) : rx [false, false, false, false, false, false, true, false, false, false, false, false, false, true] (S0 .a tok qd (strL [120])) = some ⟨.next, S0 .a (tok ++ strL [120]) qd (strL [120]), [], true, [1, tok.length + 1]⟩ := by kernel_rfl
-- one turn, told by the reader's own states
structure Turn (z : LS) (tok : List Nat) (qd : Bool) (ch : List Nat) (fl : PFl) (z' : LS) (tok' : List Nat) (qd' : Bool) : Prop where
  out : ∃ path nm ok zs, rx path (S0 z (strL tok) qd (strL ch)) = some ⟨fl, ⟨nm, z'.pv, .str (strL tok')⟩, [], ok, zs⟩ ∧ ok = true ∧ (∀ k ∈ zs, k ≤ 5000) ∧ (Str.ofString "self", .self) ∈ nm ∧ (Str.ofString "quoted", .bool qd') ∈ nm ∧ (Str.ofString "escapedstate", .str (Str.ofString " ")) ∈ nm
theorem all_small {l : PZ} (h : l.all (Nat.ble · 5000) = true) : ∀ k ∈ l, k ≤ 5000 := fun k hk => Nat.le_of_ble_eq_true (List.all_eq_true.mp h k hk)
theorem two_small {n : Nat} (h : n ≤ 4000) : ∀ k ∈ [1, n + 1], k ≤ 5000 := fun k hk => by
  rcases List.mem_cons.mp hk with rfl | hk
  · decide
  · rw [List.mem_singleton.mp hk]; omega
theorem strL_app (l k : List Nat) : strL l ++ strL k = strL (l ++ k) := mk_app l k
theorem strL_len (l : List Nat) : (strL l).length = l.length := len_mk l
section
variable {tok : List Nat} {qd : Bool}
theorem Turn.of0 {z z' : LS} {tok' ch : List Nat} {qd' : Bool} {fl : PFl} {path : List Bool} {ok : Bool} {zs : PZ} {tk' : Str} (h : rx path (S0 z (strL tok) qd (strL ch)) = some ⟨fl, ⟨(S0 z (strL tok) qd' (strL ch)).nm, z'.pv, .str tk'⟩, [], ok, zs⟩) (ht : tk' = strL tok') (hok : ok = true) (hz : ∀ k ∈ zs, k ≤ 5000) : Turn z tok qd ch fl z' tok' qd' := by
  subst ht
  exact ⟨path, _, ok, zs, h, hok, hz, .head _, .tail _ (.head _), .tail _ (.tail _ (.head _))⟩
theorem Turn.of1 {z z' : LS} {tok' ch : List Nat} {fl : PFl} {path : List Bool} {ok : Bool} {zs : PZ} {tk' : Str} (h : rx path (S0 z (strL tok) qd (strL ch)) = some ⟨fl, S1 z'.pv tk' (strL ch), [], ok, zs⟩) (ht : tk' = strL tok') (hok : ok = true) (hz : ∀ k ∈ zs, k ≤ 5000) : Turn z tok qd ch fl z' tok' true := by
  subst ht
  exact ⟨path, _, ok, zs, h, hok, hz, .tail _ (.head _), .head _, .tail _ (.tail _ (.head _))⟩
theorem T_fin : Turn .fin tok qd [] .brk .fin [] qd := .of0 (x_fin _ _) rfl rfl (all_small rfl)
theorem T_sp_ws : Turn .sp [] false [32] .cont .sp [] false := .of0 x_sp_ws rfl rfl (all_small rfl)
theorem T_sp_q {c : Nat} (hc : c = 39 ∨ c = 34) : Turn .sp [] false [c] .next (.q c) [] false := by
  rcases hc with rfl | rfl
  · exact .of0 x_sp_q39 rfl rfl (all_small rfl)
  · exact .of0 x_sp_q34 rfl rfl (all_small rfl)
theorem T_sp_x : Turn .sp [] false [120] .next .a [120] false := .of0 x_sp_x rfl rfl (all_small rfl)
theorem T_q_e {k : Nat} (hk : k = 39 ∨ k = 34) : Turn (.q k) tok qd [k] .next .a tok true := by
  rcases hk with rfl | rfl
  · exact .of1 (x_q39_e _ _) rfl rfl (all_small rfl)
  · exact .of1 (x_q34_e _ _) rfl rfl (all_small rfl)
noncomputable def qok (k c : Nat) : Prop := k = 39 ∧ c ∈ qch ∨ k = 34 ∧ c ∈ [32, 120]
theorem T_q_c {k c : Nat} (h : qok k c) (ht : tok.length ≤ 4000) : Turn (.q k) tok qd [c] .next (.q k) (tok ++ [c]) true := by
  have hz : ∀ k ∈ [1, (strL tok).length + 1], k ≤ 5000 := two_small (by rw [strL_len]; exact ht)
  rcases h with ⟨rfl, hc⟩ | ⟨rfl, hc⟩
  · exact .of1 (x_q39_c _ _ c hc) (strL_app _ _) rfl hz
  · exact .of1 (x_q34_c _ _ c hc) (strL_app _ _) rfl hz
theorem T_a_n : Turn .a tok qd [] .brk .fin tok qd := .of0 (x_a_n _ _) rfl rfl (all_small rfl)
theorem T_a_ws (h : tok ≠ [] ∨ qd = true) (ht : tok.length ≤ 4000) : Turn .a tok qd [32] .brk .sp tok qd := by
  refine .of0 (x_a_ws _ _) rfl ?_ ?_
  · rw [strL_len]
    rcases h with h | rfl
    · have : ((tok.length : Int) != 0) = true := by
        cases tok with
        | nil => exact absurd rfl h
        | cons a r => exact bne_iff_ne.mpr (by rw [List.length_cons]; omega)
      rw [this]; rfl
    · simp
  · intro k hk
    rcases List.mem_cons.mp hk with rfl | hk
    · decide
    · rw [List.mem_singleton.mp hk, strL_len]; omega
theorem T_a_q {c : Nat} (hc : c = 39 ∨ c = 34) : Turn .a tok qd [c] .next (.q c) tok qd := by
  rcases hc with rfl | rfl
  · exact .of0 (x_a_q39 _ _) rfl rfl (all_small rfl)
  · exact .of0 (x_a_q34 _ _) rfl rfl (all_small rfl)
theorem T_a_x (ht : tok.length ≤ 4000) : Turn .a tok qd [120] .next .a (tok ++ [120]) qd := .of0 (x_a_x _ _) (strL_app _ _) rfl (two_small (by rw [strL_len]; exact ht))
end
-- the end of read_token
noncomputable abbrev S2 (st : PV) (tok : Str) (qd : Bool) : PS := ⟨[(Str.ofString "self", .self), (Str.ofString "quoted", .bool qd)], st, .str tok⟩
noncomputable abbrev ex (path : List Bool) (S : PS) : Option PR := px rtLoc lexFx 40 rtEnd path S
theorem x_end_no (st : PV) : ex [true, false] (S2 st (strL []) false) = some ⟨.ret .none, ⟨[(Str.ofString "result", .none), (Str.ofString "self", .self), (Str.ofString "quoted", .bool false)], st, .str (Str.ofString "")⟩, [], true, []⟩ := by kernel_rfl
theorem x_end (st : PV) (tok : Str) (qd : Bool) : ex [false, false] (S2 st tok qd) = some ⟨.ret (.str tok), ⟨[(Str.ofString "result", .str tok), (Str.ofString "self", .self), (Str.ofString "quoted", .bool qd)], st, .str (Str.ofString "")⟩, [], (((!qd && ((tok == Str.ofString "") && true)) == false) && true) && true, []⟩ := by kernel_rfl
end Mine
namespace Mine
-- Rt4
open PySem PySem.W PyProof.Rows PySem.Spec PySem.Calls
set_option maxHeartbeats 8000000
theorem rtRaise_eq : rtRaise = .Raise (some (.Call (.Name (Str.ofString "ValueError") ⟨771, 26, 771, 36⟩) [.Constant (.str (Str.ofString "No closing quotation")) 0 ⟨771, 37, 771, 59⟩] [] ⟨771, 26, 771, 60⟩)) none ⟨771, 20, 771, 60⟩ := by kernel_rfl
noncomputable def sane : LS → List Nat → Prop
  | .fin, r => r = []
  | .sp, [] => False
  | .sp, c :: r => c = 32 ∧ sane .sp r ∨ (c = 39 ∨ c = 34) ∧ sane (.q c) r ∨ c = 120 ∧ sane .a r
  | .q k, [] => k = 34
  | .q k, c :: r => (k = 39 ∨ k = 34) ∧ (c = k ∧ sane .a r ∨ c ≠ k ∧ qok k c ∧ sane (.q k) r)
  | .a, [] => True
  | .a, c :: r => c = 32 ∧ sane .sp r ∨ (c = 39 ∨ c = 34) ∧ sane (.q c) r ∨ c = 120 ∧ sane .a r
noncomputable def inv : LS → List Nat → Bool → Prop
  | .fin, tok, qd => tok = [] ∧ qd = false
  | .sp, tok, qd => tok = [] ∧ qd = false
  | .q _, _, _ => True
  | .a, tok, qd => tok ≠ [] ∨ qd = true
noncomputable def Goes (z : LS) (tok : List Nat) (qd : Bool) (c : Nat) (r : List Nat) : Prop :=
  ∃ fl z' tok' qd', Turn z tok qd [c] fl z' tok' qd' ∧ sane z' r ∧ ((fl = .next ∨ fl = .cont) ∧ rd z tok qd (c :: r) = rd z' tok' qd' r ∧ inv z' tok' qd' ∧ tok'.length ≤ tok.length + 1 ∨ fl = .brk ∧ rd z tok qd (c :: r) = some ((tok', qd'), z', r) ∧ inv z' [] false)
theorem isQ_of {c : Nat} (h : c = 39 ∨ c = 34) : isWs c = false ∧ isQ c = true := by rcases h with rfl | rfl <;> exact ⟨rfl, rfl⟩
theorem goes {z : LS} {tok : List Nat} {qd : Bool} {c : Nat} {r : List Nat} (hs : sane z (c :: r)) (hi : inv z tok qd) (ht : tok.length ≤ 4000) : Goes z tok qd c r := by
  cases z with
  | fin => cases hs
  | sp =>
    obtain ⟨rfl, rfl⟩ := hi
    rcases hs with ⟨rfl, h⟩ | ⟨hc, h⟩ | ⟨rfl, h⟩
    · exact ⟨_, _, _, _, T_sp_ws, h, .inl ⟨.inr rfl, rfl, ⟨rfl, rfl⟩, Nat.zero_le _⟩⟩
    · refine ⟨_, _, _, _, T_sp_q hc, h, .inl ⟨.inl rfl, ?_, trivial, Nat.zero_le _⟩⟩
      simp only [rd, (isQ_of hc).1, (isQ_of hc).2, Bool.false_eq_true, if_false, if_true]
    · exact ⟨_, _, _, _, T_sp_x, h, .inl ⟨.inl rfl, rfl, .inl (by decide), Nat.le_refl _⟩⟩
  | q k =>
    obtain ⟨hk, h⟩ := hs
    rcases h with ⟨rfl, h⟩ | ⟨hn, hq, h⟩
    · refine ⟨_, _, _, _, T_q_e hk, h, .inl ⟨.inl rfl, ?_, .inr rfl, Nat.le_succ _⟩⟩
      simp only [rd, beq_self_eq_true, if_true]
    · refine ⟨_, _, _, _, T_q_c hq ht, h, .inl ⟨.inl rfl, ?_, trivial, by rw [List.length_append]; exact Nat.le_refl _⟩⟩
      have : (c == k) = false := beq_false_of_ne hn
      simp only [rd, this, Bool.false_eq_true, if_false]
  | a =>
    have hi : tok ≠ [] ∨ qd = true := hi
    rcases hs with ⟨rfl, h⟩ | ⟨hc, h⟩ | ⟨rfl, h⟩
    · refine ⟨_, _, _, _, T_a_ws hi ht, h, .inr ⟨rfl, ?_, rfl, rfl⟩⟩
      have : (tok.isEmpty && !qd) = false := by
        rcases hi with hi | rfl
        · cases tok with
          | nil => exact absurd rfl hi
          | cons => rfl
        · simp
      have e : isWs 32 = true := rfl
      simp only [rd, this, e, Bool.false_eq_true, if_false, if_true]
    · refine ⟨_, _, _, _, T_a_q hc, h, .inl ⟨.inl rfl, ?_, trivial, Nat.le_succ _⟩⟩
      simp only [rd, (isQ_of hc).1, (isQ_of hc).2, Bool.false_eq_true, if_false, if_true]
    · exact ⟨_, _, _, _, T_a_x ht, h, .inl ⟨.inl rfl, rfl, .inl (by simp), by rw [List.length_append]; exact Nat.le_refl _⟩⟩
theorem goesE {z : LS} {tok : List Nat} {qd : Bool} (hs : sane z []) (hi : inv z tok qd) : z = .q 34 ∧ rd z tok qd [] = none ∨ ∃ z' tok' qd', Turn z tok qd [] .brk z' tok' qd' ∧ rd z tok qd [] = some ((tok', qd'), z', []) ∧ sane z' [] ∧ inv z' [] false := by
  cases z with
  | fin => exact .inr ⟨_, _, _, T_fin, rfl, rfl, rfl, rfl⟩
  | sp => cases hs
  | q k => obtain rfl : k = 34 := hs; exact .inl ⟨rfl, rfl⟩
  | a => exact .inr ⟨_, _, _, T_a_n, rfl, rfl, rfl, rfl⟩
section
variable {w : World} {dp un : Nat} {gd : Option (List Code)} {cn : Str} {cs : Scope} {L a : Addr} {ccd : Value} {cl : List (Str × Addr)} {outer : List Env} {E : Value → Shared → Prop} {h₀ : Heap} {l : LexP} {i : Int} {tp : Tok}
theorem after_names {C : PC} {S S' : PS} {V : PVs} {h : Heap} (AF : After C S V h) (hn : ∀ q ∈ S'.nm, q ∈ S.nm) (h1 : S'.st = S.st) (h2 : S'.tok = S.tok) : After C S' V h := by
  refine ⟨by rw [h1]; exact AF.st, by rw [h2]; exact AF.tok, AF.good, fun q hq => AF.names q (hn q hq), fun q hq => AF.loc q (hn q hq)⟩
theorem turn_px (K : (lexC w dp un gd cn cs L a ccd cl outer E h₀ l i tp rtLoc).Ok) {z z' : LS} {tok tok' ch : List Nat} {qd qd' : Bool} {fl : PFl} (T : Turn z tok qd ch fl z' tok' qd') (hns : ∀ x, fl ≠ .stuck x) {s : Shared} {V : PVs} {Q : Flow → Shared → Prop}
    (AF : After (lexC w dp un gd cn cs L a ccd cl outer E h₀ l i tp rtLoc) (S0 z (strL tok) qd (strL ch)) V s.heap)
    (hQ : ∀ f h' tk V', flIs l.o fl f → After (lexC w dp un gd cn cs L a ccd cl outer E h₀ l i tp rtLoc) (S2 z'.pv (strL tok') qd') V' h' → (∃ v, V'.m (Str.ofString "escapedstate") = some (.str (Str.ofString " ") v)) → Q f (upS s h' tk)) :
    wpAny (model pw w) (ktrTop dp un gd cn cs L a ccd cl outer) (execs rtRest (envX cn cs L a ccd cl)) Q E s := by
  obtain ⟨path, nm, ok, zs, hx, hok, hz, h1, h2, h3⟩ := T.out
  refine px_sound K 40 rtRest path _ _ hx hok hz s V Q AF (fun f h' tk V' hf AF' => hQ f h' tk V' hf (after_names AF' ?_ rfl rfl) ?_) (fun x hx => absurd hx (hns x))
  · intro q hq
    rcases List.mem_cons.mp hq with rfl | hq
    · exact h1
    · rw [List.mem_singleton.mp hq]; exact h2
  · obtain ⟨v, ⟨t, rfl⟩, hm⟩ := AF'.names _ h3
    exact ⟨t, hm⟩
theorem end_px (K : (lexC w dp un gd cn cs L a ccd cl outer E h₀ l i tp rtLoc).Ok) {st : PV} {tok : List Nat} {qd : Bool} {s : Shared} {V : PVs} {Q : Flow → Shared → Prop}
    (AF : After (lexC w dp un gd cn cs L a ccd cl outer E h₀ l i tp rtLoc) (S2 st (strL tok) qd) V s.heap)
    (hQ : ∀ v h' tk (V' : PVs), (if tok = [] ∧ qd = false then v = .none else ∃ t, v = .str (strL tok) t) → st.is l.o V'.vs → (PV.str (Str.ofString "")).is l.o V'.vt → Fr h₀ L h' V'.m → News h₀ L h' (lexL w.params l i tp V'.vs V'.vt) → Q (.ret v) (upS s h' tk)) :
    wpAny (model pw w) (ktrTop dp un gd cn cs L a ccd cl outer) (execs rtEnd (envX cn cs L a ccd cl)) Q E s := by
  by_cases h : tok = [] ∧ qd = false
  · obtain ⟨rfl, rfl⟩ := h
    refine px_sound K 40 rtEnd _ _ _ (x_end_no st) rfl (fun _ h => nomatch h) s V Q AF (fun f h' tk V' hf AF' => ?_) (fun x hx => by cases hx)
    obtain ⟨u, hu, rfl⟩ := hf
    exact hQ u h' tk V' (by rw [if_pos ⟨rfl, rfl⟩]; exact hu) AF'.st AF'.tok AF'.good.1 AF'.good.2
  · refine px_sound K 40 rtEnd _ _ _ (x_end st (strL tok) qd) ?_ (fun _ h => nomatch h) s V Q AF (fun f h' tk V' hf AF' => ?_) (fun x hx => by cases hx)
    · show ((((!qd && ((strL tok == Str.ofString "") && true)) == false) && true) && true) = true
      cases qd with
      | true => rfl
      | false =>
        cases tok with
        | nil => exact absurd ⟨rfl, rfl⟩ h
        | cons c r =>
          have : (strL (c :: r) == Str.ofString "") = false := beq_false_of_ne fun e => by
            have := congrArg Str.length e
            rw [strL_len] at this
            cases this
          rw [this]; rfl
    · obtain ⟨u, hu, rfl⟩ := hf
      exact hQ u h' tk V' (by rw [if_neg h]; exact hu) AF'.st AF'.tok AF'.good.1 AF'.good.2
end
end Mine
namespace Mine
-- Rt2
open PySem PySem.W PyProof.Rows PySem.Spec PySem.Calls
set_option maxHeartbeats 8000000
structure RS where
  i : Nat
  tp : Tok
  vs : Value
  vt : Value
  qd : Bool
  te : Tok
section
variable {w : World} {p : Program} {loose : List Str} {mean : ExcName → Option Value} {mg mb : Str → Option Value}
theorem lines_Rt2_0 : True := by
  k_with_none
  k_with "lt" => first | with_reducible assumption | exact And.left (by with_reducible assumption) | exact And.left (And.right (by with_reducible assumption)) | exact And.left (And.right (And.right (by with_reducible assumption))) | exact And.left (And.right (And.right (And.right (by with_reducible assumption)))) | exact And.left (And.right (And.right (And.right (And.right (by with_reducible assumption)))))
  k_with "rl" => with_unfolding_all exact rfl
  k_with "omega" => first | (with_reducible exact om_room ‹_›) | (with_reducible exact om_le ‹_› (by k_extra "rl")) | (with_reducible exact om_ne1 (by k_extra "lt")) | lia
  k_with "execs cons" => ((try k_gentoks); refine fold_sh ?_; intro _; first | (with_reducible refine exec_one ?_) | ((with_reducible refine execs_seq ?_); k_fold))
  k_with "SeqQ" => first | refine seq_next ?_ | refine seq_ret ?_ | refine seq_brk ?_ | refine seq_cont ?_
  k_with "exec If" => (with_reducible refine exec_if ?_)
  k_with "IfQ" => first | (refine ifq_no (by with_reducible assumption) ?_) | (refine ifq_yes (by with_reducible assumption) ?_) | (refine ifq_no (by decide) ?_) | (refine ifq_yes (by decide) ?_) | dsimp only [IfQ]
  k_with "storeName" => (k_dflt (refine' storeX_F ?Fzq ?Nzq ?_ ?azq ?bzq; (case Fzq => k_asm); (case Nzq => k_asm); (case azq => rfl); (case bzq => rfl); k_whole); intro _ _ _ _; (try k_sweep))
  k_with "exec While" => refine hold ?_
  k_with "call type:ValueError" => refine hold ?_
  k_with "WPost" => first | refine wpost_next ?_ | refine wpost_ret ?_ | refine wpost_cont ?_ | refine wpost_brk ?_
  k_with "ite" => first | (refine ite_no (by with_reducible assumption) ?_) | (refine ite_yes (by with_reducible assumption) ?_) | (refine ite_no (by decide) ?_) | (refine ite_yes (by decide) ?_)
  k_with "call ref" => refine hold ?_
  k_with "getAttr ref" => ((with_reducible show wpAny _ _ (getAttr _ (Str.ofString "punctuation_chars") _) _ _ _); k_dflt (refine' lex_punct (by assumption) ?Bzq ?Fzq ?Xzq ?Nzq ?Tzq ?kzq ?dzq ?uzq ?_; (case Bzq => k_asm); (case Fzq => k_asm); (case Xzq => k_asm); (case Nzq => k_asm); (case Tzq => k_asm); (case kzq => exact rfl); (case dzq => exact room_of3 (n := 200) (by assumption) (by decide)); (case uzq => exact room_of3 (n := 1000) (by assumption) (by decide))); intro _ _ _ _)
  trivial
theorem drop_cons {X : List Nat} {i c : Nat} {r : List Nat} (h : X.drop i = c :: r) : X[i]? = some c ∧ X.drop (i + 1) = r ∧ i < X.length := by
  have h1 : i < X.length := by
    rcases Nat.lt_or_ge i X.length with h1 | h1
    · exact h1
    · rw [List.drop_eq_nil_of_le h1] at h; cases h
  rw [List.drop_eq_getElem_cons h1] at h
  obtain ⟨h2, h3⟩ := List.cons.inj h
  exact ⟨by rw [List.getElem?_eq_getElem h1, h2], h3, h1⟩
theorem call_ve {prog : Program} {w : World} {A : Around} {E : Value → Shared → Prop} {s : Shared} {v : Value} (h : ∀ h' e, Heap.MadeExc s.heap h' e "ValueError" [v] → E (.ref e) { s with heap := h' }) : wpAny (model prog w) A (call (.type "ValueError") [v]) (Raisable E) E s :=
  wpAny_call_exc F.excCall_ValueError (fun h' e hm => by
    obtain ⟨t, h1, h2, h3⟩ := hm.there
    exact ⟨e, _, _, _, _, _, excClass_ValueError, rfl, h1, rfl, rfl, rfl, h h' e hm⟩) (le_sz (by show 1 ≤ 5000; decide))
theorem lex_ne {l : LexP} (ok : l.ok) {ob ob' : Obj} : ∀ q ∈ (l.o, ob) :: (l.dx, ob') :: (l.d2, deqObj) :: (l.d1, deqObj) :: l.news, q.1 ≠ l.di := by
  obtain ⟨h1, h2, h3, h4, h5, hl⟩ := ok
  have g2 := Nat.lt_trans h1 h2
  have g4 := Nat.lt_trans h3 h4
  have g5 := Nat.lt_trans g4 h5
  intro p hp
  rcases List.mem_cons.mp hp with rfl | hp
  · exact Nat.ne_of_lt h2
  · rcases List.mem_cons.mp hp with rfl | hp
    · exact Nat.ne_of_lt g2
    · rcases List.mem_cons.mp hp with rfl | hp
      · exact Nat.ne_of_gt g5
      · rcases List.mem_cons.mp hp with rfl | hp
        · exact Nat.ne_of_gt g4
        · exact (hl p hp).2
theorem rt_loc4 {z : LS} {tok ch : Str} {qd : Bool} : ∀ q ∈ (S0 z tok qd ch).nm, q.1 ∈ rtLoc := by
  intro q hq
  rcases List.mem_cons.mp hq with rfl | hq
  · exact .head _
  · rcases List.mem_cons.mp hq with rfl | hq
    · exact .tail _ (.head _)
    · rcases List.mem_cons.mp hq with rfl | hq
      · exact .tail _ (.tail _ (.head _))
      · rw [List.mem_singleton.mp hq]; exact .tail _ (.tail _ (.tail _ (.head _)))
theorem rt_names4 {z : LS} {o : Addr} {tok ch : Str} {qd : Bool} {m : Str → Option Value} (h1 : ∃ v, PV.self.is o v ∧ m (Str.ofString "self") = some v) (h2 : ∃ v, (PV.bool qd).is o v ∧ m (Str.ofString "quoted") = some v)
    (h3 : ∃ v, (PV.str (Str.ofString " ")).is o v ∧ m (Str.ofString "escapedstate") = some v) (h4 : ∃ v, (PV.str ch).is o v ∧ m (Str.ofString "nextchar") = some v) : Names o (S0 z tok qd ch).nm m := by
  intro q hq
  rcases List.mem_cons.mp hq with rfl | hq
  · exact h1
  · rcases List.mem_cons.mp hq with rfl | hq
    · exact h2
    · rcases List.mem_cons.mp hq with rfl | hq
      · exact h3
      · rw [List.mem_singleton.mp hq]; exact h4
theorem rt_locs {cn : Str} {L a : Addr} {ccd : Value} {cl : List (Str × Addr)} : ∀ x ∈ rtLoc, (envX cn ms35x6.1 L a ccd cl).kindOf x = some .local := by
  intro x hx
  rcases List.mem_cons.mp hx with rfl | hx
  · rfl
  · rcases List.mem_cons.mp hx with rfl | hx
    · rfl
    · rcases List.mem_cons.mp hx with rfl | hx
      · rfl
      · rcases List.mem_cons.mp hx with rfl | hx
        · rfl
        · rw [List.mem_singleton.mp hx]; rfl
theorem wpost_go {σ : Type} {h₀ : Heap} {L : Addr} {s s₂ : Shared} {Ld : σ → Led} {ps : σ → List (Str × Value)} {P : σ → Prop} {μ : σ → Nat} {Q : Flow → Shared → Prop} {n : Nat} {f : Flow} (hf : f = .next ∨ f = .cont) (h : WEnd h₀ L s Ld ps P μ n s₂) : WPost h₀ L s Ld ps P μ Q n f s₂ := by
  rcases hf with rfl | rfl <;> exact h
theorem rt_loc2 {st : PV} {tok : Str} {qd : Bool} : ∀ q ∈ (S2 st tok qd).nm, q.1 ∈ rtLoc := by
  intro q hq
  rcases List.mem_cons.mp hq with rfl | hq
  · exact .head _
  · rw [List.mem_singleton.mp hq]; exact .tail _ (.head _)
theorem rt_names2 {st : PV} {o : Addr} {tok : Str} {qd : Bool} {m : Str → Option Value} (h1 : ∃ v, PV.self.is o v ∧ m (Str.ofString "self") = some v) (h2 : ∃ v, (PV.bool qd).is o v ∧ m (Str.ofString "quoted") = some v) : Names o (S2 st tok qd).nm m := by
  intro q hq
  rcases List.mem_cons.mp hq with rfl | hq
  · exact h1
  · rw [List.mem_singleton.mp hq]; exact h2
noncomputable abbrev RdOk (l : LexP) (i : Nat) (z : LS) : Prop := i ≤ l.x.cps.toList.length ∧ sane z (l.x.cps.toList.drop i) ∧ inv z [] false
theorem c_rtok {l : LexP} (ok : l.ok) (hx : l.x.length ≤ 2000) (i : Nat) (z : LS) (tp : Tok) (vs vt : Value) (h1 : z.pv.is l.o vs) (h2 : (PV.str (Str.ofString "")).is l.o vt) (hs : RdOk l i z)
    (dp un : Nat) (gd : Option (List Code)) (cn : Str) (cs : Scope) (a : Addr) (ccd : Value) (cl : List (Str × Addr)) (outer : List Env) (A₀ : Around) (base h₀ : Heap) (L : Addr) (m : Str → Option Value) (s : Shared) (Q E : Value → Shared → Prop)
    (B : Below A₀ base outer h₀) (F : Fr h₀ L s.heap m) (X : (KF w.params).In h₀) (N : News h₀ L s.heap (lexL w.params l i tp vs vt)) (T : Top p loose mean mg mb h₀) (hk : cs.kind = .function) (hd : dp + 200 < recursionLimit) (hu : un + 1000 < cLine)
    (hQ : ∀ tok qd z' r i' v tp' vs' vt', rd z [] false (l.x.cps.toList.drop i) = some ((tok, qd), z', r) → l.x.cps.toList.drop i' = r → RdOk l i' z' → (if tok = [] ∧ qd = false then v = .none else ∃ t, v = .str (strL tok) t) → z'.pv.is l.o vs' → (PV.str (Str.ofString "")).is l.o vt' →
      ∀ (h' : Heap) (tk' : Nat), Fr h₀ L h' m → News h₀ L h' (lexL w.params l i' tp' vs' vt') → Q v { s with heap := h', toks := tk' })
    (hE : rd z [] false (l.x.cps.toList.drop i) = none → ∀ e t u i' tp' vs' vt' g h' tk', RaisedS base g (envX cn cs L a ccd cl :: outer) e (.type "ValueError") t [.str (Str.ofString "No closing quotation") u] (lexL w.params l i' tp' vs' vt') h' → Fr h₀ L g m → g.UpToSlots h' → E (.ref e) { s with heap := h', toks := tk' }) :
    wpAny (model pw w) (ktrTop dp un gd cn cs L a ccd cl outer) (call (.ref 789) [.ref l.o]) Q E s := by
  refine wpAny_call ?_
  k_dflt cell_enter
  refine fold_env ?_
  intro AA en
  k_steps
  rename Fr _ _ _ _ => F2
  rename News _ _ _ _ => N2
  rename_i g1 L1 hh1 FG1 B1 X1 T1 q1 e1 tk1 _ q2 e2 hh2 m2 tk2 _ q3 e3 hh3 m3 _
  have hend : ∀ (z2 : LS) (tok2 : List Nat) (qd2 : Bool) (i' : Nat) (tp' : Tok) (V8 : PVs) (h8 : Heap) (tk8 : Nat), rd z [] false (l.x.cps.toList.drop i) = some ((tok2, qd2), z2, l.x.cps.toList.drop i') → RdOk l i' z2 → z2.pv.is l.o V8.vs → (PV.str (strL tok2)).is l.o V8.vt →
      Fr g1 L1 h8 V8.m → News g1 L1 h8 (lexL w.params l i' tp' V8.vs V8.vt) → V8.m (Str.ofString "self") = some (.ref l.o) → V8.m (Str.ofString "quoted") = some (.bool qd2) → qk .next (upS s h8 tk8) := by
    intro z2 tok2 qd2 i' tp' V8 h8 tk8 hrd hok hst htk F8 N8 n1 n2
    refine seq_next ?_
    refine end_px (i := (i' : Int)) (tp := tp') (V := V8) (st := z2.pv) (tok := tok2) (qd := qd2) (lex_px ok rtLoc B1 X1 T1 ?kk ?dd ?uu ?ll) ?AF ?QQ
    case kk => exact rfl
    case dd => exact room_of3 (n := 200) hd (by decide)
    case uu => exact room_of3 (n := 1000) hu (by decide)
    case ll => exact rt_locs
    case AF => exact ⟨hst, htk, ⟨F8, N8⟩, rt_names2 ⟨_, rfl, n1⟩ ⟨_, rfl, n2⟩, rt_loc2⟩
    case QQ =>
      intro v h10 tk10 V10 hv hst10 htk10 F10 N10
      k_steps
      exact hQ tok2 qd2 z2 _ i' v tp' V10.vs V10.vt hrd rfl hok hv hst10 htk10 _ _ (by assumption) (by assumption)
  unfold Hold
  refine' w_while (h₀ := g1) (L := L1) (σ := RS) (fun c => lexL w.params l c.i c.tp c.vs c.vt) (fun c => [(Str.ofString "self", .ref l.o), (Str.ofString "quoted", .bool c.qd), (Str.ofString "escapedstate", .str (Str.ofString " ") c.te)])
    (fun c => ∃ z' tok, z'.pv.is l.o c.vs ∧ (PV.str (strL tok)).is l.o c.vt ∧ c.i ≤ l.x.cps.toList.length ∧ tok.length ≤ c.i ∧ sane z' (l.x.cps.toList.drop c.i) ∧ inv z' tok c.qd ∧ rd z' tok c.qd (l.x.cps.toList.drop c.i) = rd z [] false (l.x.cps.toList.drop i)) (fun c => l.x.cps.toList.length - c.i) ⟨i, tp, vs, vt, false, ?te⟩ F2 N2 ?hn ?hk2 ?hp ?turn
  case hn => exact fun _ h => h
  case hk2 => exact names_cons (by with_unfolding_all exact rfl) (names_cons (by with_unfolding_all exact rfl) (names_cons (by with_unfolding_all exact rfl) names_nil))
  case hp => exact ⟨z, [], h1, h2, hs.1, Nat.zero_le _, hs.2.1, hs.2.2, rfl⟩
  rintro c u h9 tk9 ⟨z', tok, p1, p2, p3, p4, p5, p6, p7⟩ F9 N9
  refine fold_wq ?_
  intro q9
  dsimp only [kstB] at F9
  k_steps
  unfold Hold
  rename News _ _ _ _ => N7
  have hne : ∀ q ∈ (l.o, instObj 821 l.dx) :: (l.dx, dictOf (lexE2 w.params l.io l.d1 l.d2 c.vs c.vt l.ks l.us) 19) :: (l.d2, deqObj) :: (l.d1, deqObj) :: l.news, q.1 ≠ l.di := lex_ne ok
  rcases hX : l.x.cps.toList.drop c.i with _ | ⟨ch, r⟩
  · have hi : c.i = l.x.length := by
      have := List.drop_eq_nil_iff.mp hX
      have := len_toList l.x
      omega
    rw [hi] at N7
    refine' c_readE l.x l.tx hx _ l.io l.di c.tp _ l.ks3 hne ok.h3 _ _ _ _ _ _ _ _ _ _ _ _ _ _ _ _ _ ?k1 ?k2 ?k3 ?k4 ?k5 ?kK ?kd ?ku ?kR trivial
    case k1 => k_asm
    case k2 => k_asm
    case k3 => k_asm
    case k4 => exact N7
    case k5 => k_asm
    case kK => exact rfl
    case kd => exact room_of3 (n := 200) (by assumption) (by decide)
    case ku => exact room_of3 (n := 1000) (by assumption) (by decide)
    case kR =>
      intro t5 h5 tk5 F5 N5
      refine storeX_F F5 N5 (fun h6 => ?_) rfl rfl
      intro m6 F6 N6
      refine seq_next ?_
      rcases goesE (z := z') (hX ▸ p5) p6 with ⟨rfl, hnone⟩ | ⟨z2, tok2, qd2, Tn, hrd, s2, i2⟩
      · refine px_sound (C := lexC w _ _ _ _ _ _ _ _ _ _ _ _ l (l.x.length : Int) c.tp rtLoc) (lex_px ok rtLoc B1 X1 T1 ?kk ?dd ?uu ?ll) 40 rtRest _ _ _ (x_q34_n (strL tok) c.qd) rfl (all_small rfl) _ ⟨m6, c.vs, c.vt⟩ _ ?AF (fun f h' tk V' hf => hf.elim) ?SS
        case kk => exact rfl
        case dd => exact room_of3 (n := 200) hd (by decide)
        case uu => exact room_of3 (n := 1000) hu (by decide)
        case ll => exact rt_locs
        case AF => exact ⟨p1, p2, ⟨F6, N6⟩, rt_names4 ⟨_, rfl, rfl⟩ ⟨_, rfl, rfl⟩ ⟨_, ⟨_, rfl⟩, rfl⟩ ⟨_, ⟨_, rfl⟩, rfl⟩, rt_loc4⟩
        case SS =>
          rintro x ⟨rfl⟩ Q' h8 tk8 V8 AF8
          obtain ⟨F8, N8⟩ := AF8.good
          rw [rtRaise_eq]
          show wpAny (model pw w) AA (exec _ en) Q' ek _
          k_steps
          unfold Hold
          refine call_ve ?_
          intro h12 e12 hm12
          refine leave_raiseS B1 (Heap.MadeExc.of hm12) F8 N8 fun h13 t13 R13 _ U13 => ?_
          exact hE (by rw [← p7, hX]; exact hnone) _ _ _ _ _ _ _ _ _ _ R13 FG1 U13
      · refine turn_px (ch := []) (i := (l.x.length : Int)) (tp := c.tp) (V := ⟨m6, c.vs, c.vt⟩) (lex_px ok rtLoc B1 X1 T1 ?kk ?dd ?uu ?ll) Tn ?ns ?AF ?QQ
        case kk => exact rfl
        case dd => exact room_of3 (n := 200) hd (by decide)
        case uu => exact room_of3 (n := 1000) hu (by decide)
        case ll => exact rt_locs
        case ns => intro x h; cases h
        case AF => exact ⟨p1, p2, ⟨F6, N6⟩, rt_names4 ⟨_, rfl, rfl⟩ ⟨_, rfl, rfl⟩ ⟨_, ⟨_, rfl⟩, rfl⟩ ⟨_, ⟨_, rfl⟩, rfl⟩, rt_loc4⟩
        case QQ =>
          intro f h8 tk8 V8 hf AF8 he8
          obtain ⟨u1, e1, n1⟩ := AF8.names _ (.head _)
          obtain ⟨u2, e2, n2⟩ := AF8.names _ (.tail _ (.head _))
          obtain rfl := e1
          obtain rfl := e2
          obtain rfl := hf
          refine hend z2 tok2 qd2 l.x.length c.tp V8 h8 tk8 ?_ ⟨Nat.le_of_eq (len_toList l.x), ?_, i2⟩ AF8.st AF8.tok AF8.good.1 AF8.good.2 n1 n2
          · rw [← p7, ← hi, hX]; exact hrd
          · rw [← hi, hX]; exact s2
  · obtain ⟨d1, d2, d3⟩ := drop_cons hX
    refine' c_read l.x l.tx hx c.i ch d1 _ l.io l.di c.tp _ l.ks3 hne ok.h3 _ _ _ _ _ _ _ _ _ _ _ _ _ _ _ _ _ ?k1 ?k2 ?k3 ?k4 ?k5 ?kK ?kd ?ku ?kR trivial
    case k1 => k_asm
    case k2 => k_asm
    case k3 => k_asm
    case k4 => exact N7
    case k5 => k_asm
    case kK => exact rfl
    case kd => exact room_of3 (n := 200) (by assumption) (by decide)
    case ku => exact room_of3 (n := 1000) (by assumption) (by decide)
    case kR =>
      intro t5 tp5 h5 tk5 F5 N5
      refine storeX_F F5 N5 (fun h6 => ?_) rfl rfl
      intro m6 F6 N6
      refine seq_next ?_
      obtain ⟨fl, z2, tok2, qd2, Tn, s2, hcase⟩ := goes (z := z') (hX ▸ p5) p6 (by have := len_toList l.x; omega)
      refine turn_px (i := (c.i : Int) + 1) (tp := tp5) (V := ⟨m6, c.vs, c.vt⟩) (lex_px ok rtLoc B1 X1 T1 ?kk ?dd ?uu ?ll) Tn ?ns ?AF ?QQ
      case kk => exact rfl
      case dd => exact room_of3 (n := 200) hd (by decide)
      case uu => exact room_of3 (n := 1000) hu (by decide)
      case ll => exact rt_locs
      case ns =>
        rintro x rfl
        rcases hcase with ⟨h | h, _⟩ | ⟨h, _⟩ <;> cases h
      case AF => exact ⟨p1, p2, ⟨F6, N6⟩, rt_names4 ⟨_, rfl, rfl⟩ ⟨_, rfl, rfl⟩ ⟨_, ⟨_, rfl⟩, rfl⟩ ⟨_, ⟨_, rfl⟩, rfl⟩, rt_loc4⟩
      case QQ =>
        intro f h8 tk8 V8 hf AF8 he8
        obtain ⟨te8, he8⟩ := he8
        obtain ⟨u1, e1, n1⟩ := AF8.names _ (.head _)
        obtain ⟨u2, e2, n2⟩ := AF8.names _ (.tail _ (.head _))
        obtain rfl := e1
        obtain rfl := e2
        rcases hcase with ⟨hfl, hrd, hinv, hln⟩ | ⟨hfl, hrd⟩
        · have hff : f = .next ∨ f = .cont := by
            rcases hfl with rfl | rfl
            · exact .inl hf
            · exact .inr hf
          have n1 : V8.m (Str.ofString "self") = some (.ref l.o) := n1
          have n2 : V8.m (Str.ofString "quoted") = some (.bool qd2) := n2
          refine wpost_go hff (w_end ⟨c.i + 1, tp5, V8.vs, V8.vt, qd2, te8⟩ AF8.good.1 AF8.good.2 (fun _ h => h) (names_cons n1 (names_cons n2 (names_cons he8 names_nil)))
            ⟨z2, tok2, AF8.st, AF8.tok, d3, ?_, ?_, hinv, ?_⟩ ?_)
          · show tok2.length ≤ c.i + 1
            omega
          · show sane z2 (List.drop (c.i + 1) _)
            rw [d2]; exact s2
          · show rd z2 tok2 qd2 (List.drop (c.i + 1) _) = _
            rw [d2, ← hrd, ← p7, hX]
          · show _ - (c.i + 1) < _ - c.i
            omega
        · subst hfl
          obtain rfl := hf
          refine hend z2 tok2 qd2 (c.i + 1) tp5 V8 h8 tk8 ?_ ⟨d3, ?_, hrd.2⟩ AF8.st AF8.tok AF8.good.1 AF8.good.2 n1 n2
          · rw [← p7, hX, d2]; exact hrd.1
          · rw [d2]; exact s2
end
end Mine
namespace Mine
-- Deq2
open PySem PySem.W PyProof.Rows PySem.Spec PySem.Calls
set_option maxHeartbeats 0
theorem deq_len_meets (a : Addr) : Meets (Builtin.«collections.deque.__len__» ⟨[.ref a], []⟩) (fun A R s => s.heap.get? a = some deqObj ∧ R (.ok (.ret (.int 0 s.toks))) { s with toks := s.toks + 1 }) :=
  Meets.of_wp fun prog w A R s hs => by
    obtain ⟨hp, g, d, tk, os⟩ := s
    obtain ⟨hx, hs⟩ := hs
    unfold Builtin.«collections.deque.__len__» Builtin.Deque.size
    repeat (any_goals (first | assumption | wp_step))
    exact ⟨_, rfl, hs⟩
theorem deq_noBool : typeLookup (.type "collections.deque") "__bool__" = pure none := by rw [typeLookup_type, builtinLookup_eq_fast]; kernel_rfl
theorem args_deqlen (a : Value) : argsOk "collections.deque.__len__" ⟨[a], []⟩ := by
  unfold argsOk; rw [signature?_of (id := "collections.deque.__len__") (n := "__len__".toList.reverse) (o := "collections.deque".toList.reverse) (by kernel_rfl) owner_deq]; kernel_rfl
section
variable {prog : Program} {w : World} {A : Around} {E : Value → Shared → Prop} {s : Shared} {h₀ : Heap} {L t : Addr} {news : Led}
theorem len_deq {Q : Value → Shared → Prop} (ht : s.heap.get? t = some deqObj) (h : ∀ k tk, Q (.int 0 k) { s with toks := tk }) : wpAny (model prog w) A (Builtin.«len» ⟨[.ref t], []⟩) (fun fin s' => ∃ r, fin = .done (.ret r) ∧ Q r s') E s := by
  have hT : s.TypeIs (.ref t) "collections.deque" := ⟨_, ht, rfl⟩
  unfold Builtin.«len»
  refine wpAny_bind (m := oneArg "len" _) (wpAny_pure ?_)
  refine wpAny_bind (m := callSpecial? (.ref t) (Str.ofString "__len__")) (wpAny_callSpecial?_slot (name := Str.ofString "__len__") hT deq_len
    (call_meets deq_len hT (entryFor_of_tree (by kernel_rfl)) (args_deqlen _) (deq_len_meets t) ⟨ht, ?_⟩))
  show wpAny _ _ _ _ _ { s with toks := s.toks + 1 }
  refine wpAny_bind (wpAny_holding (wpAny_pure ?_))
  refine wpAny_bind (wpAny_letGo ?_)
  exact wpAny_bind (wpAny_mkInt (wpAny_pure ⟨_, rfl, h _ _⟩))
theorem truthy_deq {Q : Bool → Shared → Prop} (N : News h₀ L s.heap news) (hm : (t, deqObj) ∈ news) (h : ∀ tk, Q false { s with toks := tk }) : wpAny (model prog w) A (truthy (.ref t)) Q E s := by
  have ht := (N _ hm).1
  have hT : s.TypeIs (.ref t) "collections.deque" := ⟨_, ht, rfl⟩
  have key : wpAny (model prog w) A (runValue (.builtin "len" ⟨[.ref t], []⟩)) (fun r s' => (∃ k, r = .int 0 k) ∧ Q false s') E s := by
    refine wpAny_runValue (codeAny_builtin entry_len ?_)
    rw [Around.under_plainId plain_len _]
    exact wpAny_mono (len_deq (Q := fun r s' => (∃ k, r = .int 0 k) ∧ Q false s') ht fun k tk => ⟨⟨_, rfl⟩, h tk⟩)
      (fun fin s' h' => by obtain ⟨r, rfl, hq⟩ := h'; exact hq) fun _ _ e => e
  unfold truthy
  first
    | refine wpAny_bind (wpAny_callSpecial?_none (name := Str.ofString "__bool__") hT deq_noBool ?_)
    | refine wpAny_bind (wpAny_pure (wpAny_bind (wpAny_callSpecial?_none (name := Str.ofString "__bool__") hT deq_noBool ?_)))
  first
    | refine wpAny_bind (wpAny_specialOf (name := Str.ofString "__len__") hT deq_len.lookup ?_)
    | refine wpAny_bind (wpAny_pure (wpAny_bind (wpAny_specialOf (name := Str.ofString "__len__") hT deq_len.lookup ?_)))
  first
    | exact wpAny_bind (wpAny_mono key (fun r s' h' => by obtain ⟨⟨k, rfl⟩, hq⟩ := h'; exact wpAny_pure hq) fun _ _ e => e)
    | exact wpAny_bind (wpAny_pure (wpAny_bind (wpAny_mono key (fun r s' h' => by obtain ⟨⟨k, rfl⟩, hq⟩ := h'; exact wpAny_pure hq) fun _ _ e => e)))
end
end Mine
namespace Mine
-- Rt5
open PySem PySem.W PyProof.Rows PySem.Spec PySem.Calls
set_option maxHeartbeats 8000000
theorem mem_d1 {P : Params} {l : LexP} {i : Int} {tp : Tok} {vs vt : Value} : (l.d1, deqObj) ∈ lexL P l i tp vs vt := .tail _ (.tail _ (.tail _ (.tail _ (.tail _ (.head _)))))
theorem mem_d2 {P : Params} {l : LexP} {i : Int} {tp : Tok} {vs vt : Value} : (l.d2, deqObj) ∈ lexL P l i tp vs vt := .tail _ (.tail _ (.tail _ (.tail _ (.head _))))
section
variable {w : World} {p : Program} {loose : List Str} {mean : ExcName → Option Value} {mg mb : Str → Option Value}
theorem lines_Rt5_0 : True := by
  k_with_none
  k_with "lt" => first | with_reducible assumption | exact And.left (by with_reducible assumption) | exact And.left (And.right (by with_reducible assumption)) | exact And.left (And.right (And.right (by with_reducible assumption))) | exact And.left (And.right (And.right (And.right (by with_reducible assumption)))) | exact And.left (And.right (And.right (And.right (And.right (by with_reducible assumption)))))
  k_with "rl" => with_unfolding_all exact rfl
  k_with "omega" => first | (with_reducible exact om_room ‹_›) | (with_reducible exact om_le ‹_› (by k_extra "rl")) | (with_reducible exact om_ne1 (by k_extra "lt")) | lia
  k_with "execs cons" => ((try k_gentoks); refine fold_sh ?_; intro _; first | (with_reducible refine exec_one ?_) | ((with_reducible refine execs_seq ?_); k_fold))
  k_with "SeqQ" => first | refine seq_next ?_ | refine seq_ret ?_ | refine seq_brk ?_ | refine seq_cont ?_
  k_with "exec If" => (with_reducible refine exec_if ?_)
  k_with "IfQ" => first | (refine ifq_no (by with_reducible assumption) ?_) | (refine ifq_yes (by with_reducible assumption) ?_) | (refine ifq_no (by decide) ?_) | (refine ifq_yes (by decide) ?_) | dsimp only [IfQ]
  k_with "storeName" => (k_dflt (refine' storeX_F ?Fzq ?Nzq ?_ ?azq ?bzq; (case Fzq => k_asm); (case Nzq => k_asm); (case azq => rfl); (case bzq => rfl); k_whole); intro _ _ _ _; (try k_sweep))
  k_with "call ref" => refine hold ?_
  k_with "truthy ref" => (k_dflt (refine truthy_deq (by k_asm) (by first | exact mem_d1 | exact mem_d2) ?_); intro _)
  trivial
theorem c_get {l : LexP} (ok : l.ok) (hx : l.x.length ≤ 2000) (i : Nat) (z : LS) (tp : Tok) (vs vt : Value) (h1 : z.pv.is l.o vs) (h2 : (PV.str (Str.ofString "")).is l.o vt) (hs : RdOk l i z)
    (dp un : Nat) (gd : Option (List Code)) (cn : Str) (cs : Scope) (a : Addr) (ccd : Value) (cl : List (Str × Addr)) (outer : List Env) (A₀ : Around) (base h₀ : Heap) (L : Addr) (m : Str → Option Value) (s : Shared) (Q E : Value → Shared → Prop)
    (B : Below A₀ base outer h₀) (F : Fr h₀ L s.heap m) (X : (KF w.params).In h₀) (N : News h₀ L s.heap (lexL w.params l i tp vs vt)) (T : Top p loose mean mg mb h₀) (hk : cs.kind = .function) (hd : dp + 240 < recursionLimit) (hu : un + 1200 < cLine)
    (hQ : ∀ tok qd z' r i' v tp' vs' vt', rd z [] false (l.x.cps.toList.drop i) = some ((tok, qd), z', r) → l.x.cps.toList.drop i' = r → RdOk l i' z' → (if tok = [] ∧ qd = false then v = .none else ∃ t, v = .str (strL tok) t) → z'.pv.is l.o vs' → (PV.str (Str.ofString "")).is l.o vt' →
      ∀ (h' : Heap) (tk' : Nat), Fr h₀ L h' m → News h₀ L h' (lexL w.params l i' tp' vs' vt') → Q v { s with heap := h', toks := tk' })
    (hE : rd z [] false (l.x.cps.toList.drop i) = none → ∀ e t u i' tp' vs' vt' g h' tk', RaisedS base g (envX cn cs L a ccd cl :: outer) e (.type "ValueError") t [.str (Str.ofString "No closing quotation") u] (lexL w.params l i' tp' vs' vt') h' → Fr h₀ L g m → g.UpToSlots h' → E (.ref e) { s with heap := h', toks := tk' }) :
    wpAny (model pw w) (ktrTop dp un gd cn cs L a ccd cl outer) (call (.ref 782) [.ref l.o]) Q E s := by
  refine wpAny_call ?_
  k_dflt cell_enter
  refine fold_env ?_
  intro AA en
  k_steps
  unfold Hold
  rename Fr _ _ _ _ => F2
  rename Fr h₀ _ _ _ => FG2
  rename News _ _ _ _ => N2
  rename Below _ _ _ _ => B2
  rename Top _ _ _ _ _ _ => T2
  rename Frag.In _ _ => X2
  refine' c_rtok ok hx i z tp vs vt h1 h2 hs _ _ _ _ _ _ _ _ _ _ _ _ _ _ _ _ _ B2 F2 X2 N2 T2 ?kK ?kd ?ku ?kQQ ?kEE
  case kK => exact rfl
  case kd => exact room_of3 (n := 240) (by assumption) (by decide)
  case ku => exact room_of3 (n := 1200) (by assumption) (by decide)
  case kEE =>
    intro hn e t u i' tp' vs' vt' g h' tk' R5 F5 U5
    refine leave_onS B2 F5 R5 U5 fun h6 R6 _ U6 => ?_
    exact hE hn _ _ _ _ _ _ _ _ _ _ R6 FG2 U6
  case kQQ =>
    intro tok qd z' r i' v tp' vs' vt' q1 q2 q3 q4 q5 q6 h5 tk5 F5 N5
    by_cases ht : tok = [] ∧ qd = false
    · rw [if_pos ht] at q4
      subst q4
      k_steps
      exact hQ tok qd z' r i' _ tp' vs' vt' q1 q2 q3 (by rw [if_pos ht]) q5 q6 _ _ (by assumption) (by assumption)
    · rw [if_neg ht] at q4
      obtain ⟨t4, rfl⟩ := q4
      k_steps
      exact hQ tok qd z' r i' _ tp' vs' vt' q1 q2 q3 (by rw [if_neg ht]; exact ⟨_, rfl⟩) q5 q6 _ _ (by assumption) (by assumption)
end
end Mine
namespace Mine
-- Rt6
open PySem PySem.W PyProof.Rows PySem.Spec PySem.Calls
set_option maxHeartbeats 8000000
section
variable {w : World} {p : Program} {loose : List Str} {mean : ExcName → Option Value} {mg mb : Str → Option Value}
theorem lines_Rt6_0 : True := by
  k_with_none
  k_with "lt" => first | with_reducible assumption | exact And.left (by with_reducible assumption) | exact And.left (And.right (by with_reducible assumption)) | exact And.left (And.right (And.right (by with_reducible assumption))) | exact And.left (And.right (And.right (And.right (by with_reducible assumption)))) | exact And.left (And.right (And.right (And.right (And.right (by with_reducible assumption)))))
  k_with "rl" => with_unfolding_all exact rfl
  k_with "omega" => first | (with_reducible exact om_room ‹_›) | (with_reducible exact om_le ‹_› (by k_extra "rl")) | (with_reducible exact om_ne1 (by k_extra "lt")) | lia
  k_with "execs cons" => ((try k_gentoks); refine fold_sh ?_; intro _; first | (with_reducible refine exec_one ?_) | ((with_reducible refine execs_seq ?_); k_fold))
  k_with "SeqQ" => first | refine seq_next ?_ | refine seq_ret ?_ | refine seq_brk ?_ | refine seq_cont ?_
  k_with "exec If" => (with_reducible refine exec_if ?_)
  k_with "IfQ" => first | (refine ifq_no (by with_reducible assumption) ?_) | (refine ifq_yes (by with_reducible assumption) ?_) | (refine ifq_no (by decide) ?_) | (refine ifq_yes (by decide) ?_) | dsimp only [IfQ]
  k_with "storeName" => (k_dflt (refine' storeX_F ?Fzq ?Nzq ?_ ?azq ?bzq; (case Fzq => k_asm); (case Nzq => k_asm); (case azq => rfl); (case bzq => rfl); k_whole); intro _ _ _ _; (try k_sweep))
  k_with "call ref" => refine hold ?_
  k_with "leaving ref" => refine hold ?_
  trivial
theorem c_next {l : LexP} (ok : l.ok) (hx : l.x.length ≤ 2000) (i : Nat) (z : LS) (tp : Tok) (vs vt : Value) (h1 : z.pv.is l.o vs) (h2 : (PV.str (Str.ofString "")).is l.o vt) (hs : RdOk l i z)
    (dp un : Nat) (gd : Option (List Code)) (cn : Str) (cs : Scope) (a : Addr) (ccd : Value) (cl : List (Str × Addr)) (outer : List Env) (A₀ : Around) (base h₀ : Heap) (L : Addr) (m : Str → Option Value) (s : Shared) (Q E : Value → Shared → Prop)
    (B : Below A₀ base outer h₀) (F : Fr h₀ L s.heap m) (X : (KF w.params).In h₀) (N : News h₀ L s.heap (lexL w.params l i tp vs vt)) (T : Top p loose mean mg mb h₀) (hk : cs.kind = .function) (hd : dp + 280 < recursionLimit) (hu : un + 1400 < cLine)
    (hQ : ∀ tok qd z' r i' t tp' vs' vt', rd z [] false (l.x.cps.toList.drop i) = some ((tok, qd), z', r) → l.x.cps.toList.drop i' = r → RdOk l i' z' → ¬ (tok = [] ∧ qd = false) → z'.pv.is l.o vs' → (PV.str (Str.ofString "")).is l.o vt' →
      ∀ (h' : Heap) (tk' : Nat), Fr h₀ L h' m → News h₀ L h' (lexL w.params l i' tp' vs' vt') → Q (.str (strL tok) t) { s with heap := h', toks := tk' })
    (hE : rd z [] false (l.x.cps.toList.drop i) = none → ∀ e t u i' tp' vs' vt' g h' tk', RaisedS base g (envX cn cs L a ccd cl :: outer) e (.type "ValueError") t [.str (Str.ofString "No closing quotation") u] (lexL w.params l i' tp' vs' vt') h' → Fr h₀ L g m → g.UpToSlots h' → E (.ref e) { s with heap := h', toks := tk' })
    (hS : ∀ z' r (i' : Nat) t e tp' vs' vt' g h' tk', rd z [] false (l.x.cps.toList.drop i) = some (([], false), z', r) → RaisedS base g (envX cn cs L a ccd cl :: outer) e (.type "StopIteration") t [] (lexL w.params l i' tp' vs' vt') h' → Fr h₀ L g m → g.UpToSlots h' → E (.ref e) { s with heap := h', toks := tk' }) :
    wpAny (model pw w) (ktrTop dp un gd cn cs L a ccd cl outer) (call (.ref 818) [.ref l.o]) Q E s := by
  refine wpAny_call ?_
  k_dflt cell_enter
  refine fold_env ?_
  intro AA en
  k_steps
  unfold Hold
  rename Fr _ _ _ _ => F2
  rename Fr h₀ _ _ _ => FG2
  rename News _ _ _ _ => N2
  rename Below _ _ _ _ => B2
  rename Top _ _ _ _ _ _ => T2
  rename Frag.In _ _ => X2
  refine' c_get ok hx i z tp vs vt h1 h2 hs _ _ _ _ _ _ _ _ _ _ _ _ _ _ _ _ _ B2 F2 X2 N2 T2 ?kK ?kd ?ku ?kQQ ?kEE
  case kK => exact rfl
  case kd => exact room_of3 (n := 280) (by assumption) (by decide)
  case ku => exact room_of3 (n := 1400) (by assumption) (by decide)
  case kEE =>
    intro hn e t u i' tp' vs' vt' g h' tk' R5 F5 U5
    refine leave_onS B2 F5 R5 U5 fun h6 R6 _ U6 => ?_
    exact hE hn _ _ _ _ _ _ _ _ _ _ R6 FG2 U6
  case kQQ =>
    intro tok qd z' r i' v tp' vs' vt' q1 q2 q3 q4 q5 q6 h5 tk5 F5 N5
    by_cases ht : tok = [] ∧ qd = false
    · rw [if_pos ht] at q4
      subst q4
      k_steps
      unfold Hold
      obtain ⟨rfl, rfl⟩ := ht
      refine leave_raiseS B2 (Heap.MadeExc.of (by assumption)) (by assumption) (by assumption) fun h6 t6 R6 _ U6 => ?_
      exact hS _ _ _ _ _ _ _ _ _ _ _ q1 R6 FG2 U6
    · rw [if_neg ht] at q4
      obtain ⟨t4, rfl⟩ := q4
      k_steps
      exact hQ tok qd z' r i' _ tp' vs' vt' q1 q2 q3 ht q5 q6 _ _ (by assumption) (by assumption)
end
end Mine
namespace Mine
-- Rt7
open PySem PySem.W PyProof.Rows PySem.Spec PySem.Calls
set_option maxHeartbeats 8000000
theorem lines_Rt7_0 : True := by
  k_with_none
  k_with "lt" => first | with_reducible assumption | exact And.left (by with_reducible assumption) | exact And.left (And.right (by with_reducible assumption)) | exact And.left (And.right (And.right (by with_reducible assumption))) | exact And.left (And.right (And.right (And.right (by with_reducible assumption)))) | exact And.left (And.right (And.right (And.right (And.right (by with_reducible assumption)))))
  k_with "rl" => with_unfolding_all exact rfl
  k_with "omega" => first | (with_reducible exact om_room ‹_›) | (with_reducible exact om_le ‹_› (by k_extra "rl")) | (with_reducible exact om_ne1 (by k_extra "lt")) | lia
  trivial
inductive Lx : Nat → LS → List Nat → Option (List (List Nat)) → Prop
  | stop {z x z' r} (h : rd z [] false x = some (([], false), z', r)) : Lx 0 z x (some [])
  | err {z x} (h : rd z [] false x = none) : Lx 0 z x none
  | more {k z x t q z' r o} (h : rd z [] false x = some ((t, q), z', r)) (hn : ¬(t = [] ∧ q = false)) (n : Lx k z' r o) : Lx (k + 1) z x (o.map (t :: ·))
noncomputable abbrev LexP.wn (l : LexP) (news : Led) : LexP := { l with news := news }
section
variable {M : Model} {A A₀ : Around} {E : Value → Shared → Prop} {s : Shared} {base g G : Heap} {outer : List Env} {L a e t : Addr} {m : Str → Option Value} {name : Str} {scope : Scope} {cd : Value} {vs : List Value} {news : Led} {X : String} {cl : List (Str × Addr)} {p : Program} {loose : List Str} {mean : ExcName → Option Value} {mg mb : Str → Option Value} {K : Frag}
theorem stop_S {Q : Option Value → Shared → Prop} (R : RaisedS base G (envX name scope L a cd cl :: outer) e (.type X) t vs news s.heap) (F : Fr g L G m) (B : Below A₀ base outer g) (hsm : G.UpToSlots s.heap) (XB : K.In base) (TB : Top p loose mean mg mb base) (D : KtsDicts (outer.filterMap (·.frame)) g)
    (hsub : isSubtype (.type X) (.type "StopIteration") = pure true)
    (k : ∀ g', KtsTurn (outer.filterMap (·.frame)) g g' → Fr g' L s.heap m → News g' L s.heap news → Below A₀ base outer g' → K.In g' → Top p loose mean mg mb g' → KtsDicts (outer.filterMap (·.frame)) g' → Q none s) : OwitStop M A Q E (.ref e) s := by
  obtain ⟨⟨Bh, hB, hBG, hl, hfl, hnew⟩, htup⟩ := R
  have hL : Bh.get? L = none := by
    obtain ⟨_, ⟨L', _, hf, hn', _⟩, _⟩ := hfl.2.2.1
    obtain rfl : L = L' := Option.some.inj hf
    exact hn'
  obtain ⟨ob, hob, hobc⟩ := hfl.there
  unfold OwitStop
  refine wpAny_isInstance (T := X) ⟨ob, hob, hobc⟩ hsub ?_
  show (if true = true then Q none s else E (.ref e) s)
  rw [if_pos rfl]
  obtain ⟨g', T', F', B'⟩ := kts_ground (name := name) (scope := scope) (a := a) (cd := cd) B F (fun b o e nm => hBG b o e nm) hfl.1 hsm
  exact k g' T' F' (fun q hq => ⟨hfl.1 _ _ (hl q hq).1, (fun z => by have := (hl q hq).1; rw [z, hL] at this; cases this), T'.none_ _ (kts_none F.keep (hl q hq).2.1)⟩) B' (XB.keeps B'.stays) (TB.keeps B'.stays) (D.turn T')
theorem pass_S {Q : Option Value → Shared → Prop} (R : RaisedS base G (envX name scope L a cd cl :: outer) e (.type X) t vs news s.heap)
    (hsub : isSubtype (.type X) (.type "StopIteration") = pure false) (k : E (.ref e) s) : OwitStop M A Q E (.ref e) s := by
  obtain ⟨⟨Bh, hB, hBG, hl, hfl, hnew⟩, htup⟩ := R
  obtain ⟨ob, hob, hobc⟩ := hfl.there
  unfold OwitStop
  refine wpAny_isInstance (T := X) ⟨ob, hob, hobc⟩ hsub ?_
  show (if false = true then Q none s else E (.ref e) s)
  rw [if_neg Bool.false_ne_true]
  exact k
theorem raisedS_sub {l : List Env} {cls : Value} {h : Heap} {news' : Led} (R : RaisedS base G l e cls t vs news h) (hs : ∀ q ∈ news', q ∈ news) : RaisedS base G l e cls t vs news' h := by
  obtain ⟨⟨Bh, hB, hBG, hl, hfl, hnew⟩, htup⟩ := R
  exact ⟨⟨Bh, hB, hBG, fun q hq => hl q (hs q hq), hfl, hnew⟩, htup⟩
end
theorem sub_stop : isSubtype (.type "StopIteration") (.type "StopIteration") = pure true := by rw [isSubtype_type]; kernel_rfl
theorem sub_ve : isSubtype (.type "ValueError") (.type "StopIteration") = pure false := by rw [isSubtype_type]; kernel_rfl
section
variable {w : World} {p : Program} {loose : List Str} {mean : ExcName → Option Value} {mg mb : Str → Option Value}
theorem loop_step {l : LexP} (ok : l.ok) (hx : l.x.length ≤ 2000) (i : Nat) (z : LS) (tp : Tok) (vs vt : Value) (h1 : z.pv.is l.o vs) (h2 : (PV.str (Str.ofString "")).is l.o vt) (hs : RdOk l i z) (S : Addr)
    (dp un : Nat) (gd : Option (List Code)) (cn : Str) (cs : Scope) (a : Addr) (ccd : Value) (cl : List (Str × Addr)) (outer : List Env) (A₀ : Around) (base h₀ : Heap) (L : Addr) (m : Str → Option Value) (s : Shared) (R : Result → Shared → Prop)
    (B : Below A₀ base outer h₀) (F : Fr h₀ L s.heap m) (X : (KF w.params).In h₀) (N : News h₀ L s.heap (lexL w.params l i tp vs vt)) (T : Top p loose mean mg mb h₀) (XB : (KF w.params).In base) (TB : Top p loose mean mg mb base) (D : KtsDicts (outer.filterMap (·.frame)) h₀) (hk : cs.kind = .function) (hd : dp + 280 < recursionLimit) (hu : un + 1450 < cLine)
    (hQ : ∀ tok qd z' r i' t tp' vs' vt', rd z [] false (l.x.cps.toList.drop i) = some ((tok, qd), z', r) → l.x.cps.toList.drop i' = r → RdOk l i' z' → ¬ (tok = [] ∧ qd = false) → z'.pv.is l.o vs' → (PV.str (Str.ofString "")).is l.o vt' →
      ∀ (h' : Heap) (tk' : Nat), Fr h₀ L h' m → News h₀ L h' (lexL w.params l i' tp' vs' vt') →
        wpAny (model pw w) (ktrTop dp (un + 1) gd cn cs L a ccd cl outer) (updateSeq S (·.push (.str (strL tok) t)))
          (fun _ s' => codeAny (model pw w) (ktrTop dp un gd cn cs L a ccd cl outer) (.builtin "list.extend.loop" ⟨[.ref S, .ref l.o, .none], []⟩) R s') (fun e s' => R (.error e) s') { s with heap := h', toks := tk' })
    (hE : rd z [] false (l.x.cps.toList.drop i) = none → ∀ e t u i' tp' vs' vt' g h' tk', RaisedS base g (envX cn cs L a ccd cl :: outer) e (.type "ValueError") t [.str (Str.ofString "No closing quotation") u] (lexL w.params l i' tp' vs' vt') h' → Fr h₀ L g m → g.UpToSlots h' → R (.error (.ref e)) { s with heap := h', toks := tk' })
    (hS : ∀ z' r (i' : Int) tp' vs' vt' g' h' tk', rd z [] false (l.x.cps.toList.drop i) = some (([], false), z', r) → KtsTurn (outer.filterMap (·.frame)) h₀ g' → Fr g' L h' m → News g' L h' (lexL w.params l i' tp' vs' vt') → Below A₀ base outer g' → (KF w.params).In g' → Top p loose mean mg mb g' → KtsDicts (outer.filterMap (·.frame)) g' →
      R (.ok (.ret .none)) { s with heap := h', toks := tk' }) :
    codeAny (model pw w) (ktrTop dp un gd cn cs L a ccd cl outer) (.builtin "list.extend.loop" ⟨[.ref S, .ref l.o, .none], []⟩) R s := by
  refine codeAny_builtin PySem.F.entry_extend_loop ?_
  rw [Around.under_plainId PySem.F.plain_extend_loop _]
  show wpAny _ (ktrTop dp (un + 1) gd cn cs L a ccd cl outer) (pyNext (.ref l.o) >>= _) _ _ s
  refine wpAny_bind (owit_next F X (InstAt.of_news N (.tail _ (.tail _ (.head _))) (.tail _ (.tail _ (.tail _ (.head _))))) (f := 818) (by k_is) (by k_is) ?_)
  refine c_next ok hx i z tp vs vt h1 h2 hs dp (un + 1) gd cn cs a ccd cl outer A₀ base h₀ L m s _ _ B F X N T hk hd (by omega) ?_ ?_ ?_
  · intro tok qd z' r i' t tp' vs' vt' q1 q2 q3 q4 q5 q6 h' tk' F' N'
    show wpAny _ _ (updateSeq S (·.push _) >>= _) _ _ _
    refine wpAny_bind (wpAny_mono (hQ tok qd z' r i' t tp' vs' vt' q1 q2 q3 q4 q5 q6 h' tk' F' N') (fun _ s' h => wpAny_pure ⟨plainId_quiet PySem.F.plain_extend_loop _, h⟩) fun _ _ x => x)
  · intro hn e t u i' tp' vs' vt' g h' tk' R' F' U'
    exact pass_S (s := { s with heap := h', toks := tk' }) R' sub_ve (hE hn e t u i' tp' vs' vt' g h' tk' R' F' U')
  · intro z' r i' t e tp' vs' vt' g h' tk' q1 R' F' U'
    refine stop_S (s := { s with heap := h', toks := tk' }) R' F' B U' XB TB D sub_stop fun g' T' F9 N9 B9 X9 P9 D9 => ?_
    exact wpAny_pure (hS z' r i' tp' vs' vt' g' h' tk' q1 T' F9 N9 B9 X9 P9 D9)
theorem push_list {its : Array Value} {n : Nat} {v : Value} : Obj.mapSeq (·.push v) (listOf its n) = listOf (its.push v) (n + 1) := mapSeq_push its n v none #[]
theorem wn_upd {P : Params} {l : LexP} (ok : l.ok) {S : Addr} (hS : @LT.lt Nat _ l.d2 S) {rest : Led} (hr : ∀ q ∈ rest, q.1 ≠ S) {o o' : Obj} {i : Int} {tp : Tok} {vs vt : Value} {h₀ h h' : Heap} {L : Addr} (N : News h₀ L h (lexL P (l.wn ((S, o) :: rest)) i tp vs vt)) (hs : Heap.SameBut S h h') (ho : h'.get? S = some o') :
    News h₀ L h' (lexL P (l.wn ((S, o') :: rest)) i tp vs vt) := by
  obtain ⟨h1, h2, h3, h4, h5, hl⟩ := ok
  have g5 := Nat.lt_trans h5 hS
  have g4 := Nat.lt_trans h4 g5
  have g3 := Nat.lt_trans h3 g4
  have g2 := Nat.lt_trans h2 g3
  have g1 := Nat.lt_trans h1 g2
  refine news_set (pre := [(l.io, instObj 686 l.di), (l.di, dictOf (sioEs P l.x l.tx i tp l.ks3) 3), (l.o, instObj 821 l.dx), (l.dx, dictOf (lexE2 P l.io l.d1 l.d2 vs vt l.ks l.us) 19), (l.d2, deqObj), (l.d1, deqObj)]) (post := rest) N ?_ hr hs ho
  intro p hp
  rcases List.mem_cons.mp hp with rfl | hp
  · exact Nat.ne_of_lt g4
  rcases List.mem_cons.mp hp with rfl | hp
  · exact Nat.ne_of_lt g3
  rcases List.mem_cons.mp hp with rfl | hp
  · exact Nat.ne_of_lt g2
  rcases List.mem_cons.mp hp with rfl | hp
  · exact Nat.ne_of_lt g1
  rcases List.mem_cons.mp hp with rfl | hp
  · exact Nat.ne_of_lt hS
  · rw [List.mem_singleton.mp hp]; exact Nat.ne_of_lt g5
noncomputable def ListEnd (w : World) (p : Program) (loose : List Str) (mean : ExcName → Option Value) (mg mb : Str → Option Value) (A₀ : Around) (base h₀ : Heap) (outer : List Env) (L : Addr) (m : Str → Option Value) (l : LexP) (S : Addr) (rest : Led) (acc : List Value) (ws : List (List Nat)) (s : Shared) (K : Shared → Prop) : Prop :=
  ∀ (us : List Value) (n' : Nat) (i' : Int) tp' vs' vt' g' h' tk', StrsAre us (ws.map strL) → KtsTurn (outer.filterMap (·.frame)) h₀ g' → Fr g' L h' m → News g' L h' (lexL w.params (l.wn ((S, listOf (acc ++ us).toArray n') :: rest)) i' tp' vs' vt') → Below A₀ base outer g' → (KF w.params).In g' → Top p loose mean mg mb g' → KtsDicts (outer.filterMap (·.frame)) g' →
      K { s with heap := h', toks := tk' }
noncomputable def ListErr (base h₀ : Heap) (E : Env) (outer : List Env) (L : Addr) (m : Str → Option Value) (rest : Led) (s : Shared) (K : Value → Shared → Prop) : Prop :=
  ∀ e t u g h' tk', RaisedS base g (E :: outer) e (.type "ValueError") t [.str (Str.ofString "No closing quotation") u] rest h' → Fr h₀ L g m → g.UpToSlots h' → K (.ref e) { s with heap := h', toks := tk' }
theorem lex_loop {l : LexP} (ok : l.ok) (hx : l.x.length ≤ 2000) (S : Addr) (rest : Led) (hS : @LT.lt Nat _ l.d2 S) (hr : ∀ q ∈ rest, q.1 ≠ S) (hok : ∀ ob, (l.wn ((S, ob) :: rest)).ok)
    (dp un : Nat) (gd : Option (List Code)) (cn : Str) (cs : Scope) (a : Addr) (ccd : Value) (cl : List (Str × Addr)) (outer : List Env) (A₀ : Around) (base h₀ : Heap) (L : Addr) (m : Str → Option Value)
    (B : Below A₀ base outer h₀) (X : (KF w.params).In h₀) (T : Top p loose mean mg mb h₀) (XB : (KF w.params).In base) (TB : Top p loose mean mg mb base) (D : KtsDicts (outer.filterMap (·.frame)) h₀) (hk : cs.kind = .function) (hd : dp + 280 < recursionLimit) (hu : un + 1450 < cLine)
    {k : Nat} {z : LS} {x : List Nat} {o : Option (List (List Nat))} (hL : Lx k z x o) : ∀ (i : Nat) (tp : Tok) (vs vt : Value) (acc : List Value) (n : Nat) (s : Shared) (R : Result → Shared → Prop), l.x.cps.toList.drop i = x → RdOk l i z → z.pv.is l.o vs → (PV.str (Str.ofString "")).is l.o vt → acc.length + k ≤ 4000 →
      Fr h₀ L s.heap m → News h₀ L s.heap (lexL w.params (l.wn ((S, listOf acc.toArray n) :: rest)) i tp vs vt) →
      (∀ ws, o = some ws → ListEnd w p loose mean mg mb A₀ base h₀ outer L m l S rest acc ws s fun s' => R (.ok (.ret .none)) s') →
      (o = none → ListErr base h₀ (envX cn cs L a ccd cl) outer L m rest s fun e s' => R (.error e) s') →
      codeAny (model pw w) (ktrTop dp un gd cn cs L a ccd cl outer) (.builtin "list.extend.loop" ⟨[.ref S, .ref l.o, .none], []⟩) R s := by
  induction hL with
  | stop h =>
    intro i tp vs vt acc n s R hX hs h1 h2 hz F N hQ hE
    subst hX
    refine loop_step (l := l.wn ((S, listOf acc.toArray n) :: rest)) (hok _) hx i _ tp vs vt h1 h2 hs S dp un gd cn cs a ccd cl outer A₀ base h₀ L m s R B F X N T XB TB D hk hd hu ?_ ?_ ?_
    · intro tok qd z' r i' t tp' vs' vt' q1 q2 q3 q4
      rw [h] at q1
      obtain ⟨⟨rfl, rfl⟩, _⟩ := Prod.mk.inj (Option.some.inj q1) |>.imp Prod.mk.inj id
      exact absurd ⟨rfl, rfl⟩ q4
    · intro q1
      rw [h] at q1; cases q1
    · intro z' r i' tp' vs' vt' g' h' tk' q1 T' F' N' B' X' P' D'
      exact hQ [] rfl [] n i' tp' vs' vt' g' h' tk' .nil T' F' (by rw [List.append_nil]; exact N') B' X' P' D'
  | err h =>
    intro i tp vs vt acc n s R hX hs h1 h2 hz F N hQ hE
    subst hX
    refine loop_step (l := l.wn ((S, listOf acc.toArray n) :: rest)) (hok _) hx i _ tp vs vt h1 h2 hs S dp un gd cn cs a ccd cl outer A₀ base h₀ L m s R B F X N T XB TB D hk hd hu ?_ ?_ ?_
    · intro tok qd z' r i' t tp' vs' vt' q1
      rw [h] at q1; cases q1
    · intro q1 e t u i' tp' vs' vt' g h' tk' R' F' U'
      exact hE rfl e t u g h' tk' (raisedS_sub R' fun q hq => .tail _ (.tail _ (.tail _ (.tail _ (.tail _ (.tail _ (.tail _ hq))))))) F' U'
    · intro z' r i' tp' vs' vt' g' h' tk' q1
      rw [h] at q1; cases q1
  | @more k₀ z₀ x₀ w₀ q₀ z₁ r₁ o₁ h hn _ ih =>
    intro i tp vs vt acc n s R hX hs h1 h2 hz F N hQ hE
    subst hX
    refine loop_step (l := l.wn ((S, listOf acc.toArray n) :: rest)) (hok _) hx i _ tp vs vt h1 h2 hs S dp un gd cn cs a ccd cl outer A₀ base h₀ L m s R B F X N T XB TB D hk hd hu ?_ ?_ ?_
    · intro tok qd z' r i' t tp' vs' vt' q1 q2 q3 q4 q5 q6 h' tk' F' N'
      rw [h] at q1
      obtain ⟨e1, e2⟩ := Prod.mk.inj (Option.some.inj q1)
      obtain ⟨rfl, rfl⟩ := Prod.mk.inj e1
      obtain ⟨rfl, rfl⟩ := Prod.mk.inj e2
      have hg := N' (S, listOf acc.toArray n) (.tail _ (.tail _ (.tail _ (.tail _ (.tail _ (.tail _ (.head _)))))))
      refine wpAny_updateSeq hg.1 rfl ?_ (by rw [List.size_toArray]; exact le_sz (by omega)) (by rw [Array.size_push, List.size_toArray]; exact Nat.le_succ_of_le (le_sz (n := acc.length + 1) (by omega)))
      have F9 := F'.change (Heap.SameBut.update h' S (Obj.mapSeq (·.push (Value.str (strL w₀) t)))) hg.2.1 hg.2.2
      have N9 := wn_upd ok hS hr N' (Heap.SameBut.update h' S (Obj.mapSeq (·.push (Value.str (strL w₀) t)))) (Heap.get?_update_self (Obj.mapSeq (·.push (Value.str (strL w₀) t))) hg.1 rfl)
      refine ih i' tp' vs' vt' (acc ++ [.str (strL w₀) t]) (n + 1) { s with heap := _, toks := tk' } R q2 q3 q5 q6 (by rw [List.length_append]; show acc.length + 1 + _ ≤ 4000; omega) F9 (by rw [show (acc ++ [Value.str (strL w₀) t]).toArray = acc.toArray.push (Value.str (strL w₀) t) by simp]; exact push_list ▸ N9) ?_ ?_
      · intro ws hw us n' i2 tp2 vs2 vt2 g' h2 tk2 hu2 T2 F2 N2 B2 X2 P2 D2
        exact hQ (w₀ :: ws) (by rw [hw]; rfl) (.str (strL w₀) t :: us) n' i2 tp2 vs2 vt2 g' h2 tk2 (.cons _ _ hu2) T2 F2 (by rw [List.append_assoc] at N2; exact N2) B2 X2 P2 D2
      · intro ho e t' u g h2 tk2 R2 F2 U2
        exact hE (by rw [ho]; rfl) e t' u g h2 tk2 R2 F2 U2
    · intro q1
      rw [h] at q1; cases q1
    · intro z' r i' tp' vs' vt' g' h' tk' q1
      rw [h] at q1
      obtain ⟨e1, e2⟩ := Prod.mk.inj (Option.some.inj q1)
      obtain ⟨rfl, rfl⟩ := Prod.mk.inj e1
      exact absurd ⟨rfl, rfl⟩ hn
end
end Mine
namespace Mine
-- Rt8
open PySem PySem.W PyProof.Rows PySem.Spec PySem.Calls
set_option maxHeartbeats 8000000
theorem mapSeq_list (f : Array Value → Array Value) (its : Array Value) (n : Nat) : ∃ n', Obj.mapSeq f (listOf its n) = listOf (f its) n' := ⟨_, by simp [Obj.mapSeq]; rfl⟩
section
variable {w : World} {p : Program} {loose : List Str} {mean : ExcName → Option Value} {mg mb : Str → Option Value}
theorem lines_Rt8_0 : True := by
  k_with_none
  k_with "lt" => first | with_reducible assumption | exact And.left (by with_reducible assumption) | exact And.left (And.right (by with_reducible assumption)) | exact And.left (And.right (And.right (by with_reducible assumption))) | exact And.left (And.right (And.right (And.right (by with_reducible assumption)))) | exact And.left (And.right (And.right (And.right (And.right (by with_reducible assumption)))))
  k_with "rl" => with_unfolding_all exact rfl
  k_with "omega" => first | (with_reducible exact om_room ‹_›) | (with_reducible exact om_le ‹_› (by k_extra "rl")) | (with_reducible exact om_ne1 (by k_extra "lt")) | lia
  k_with "execs cons" => ((try k_gentoks); refine fold_sh ?_; intro _; first | (with_reducible refine exec_one ?_) | ((with_reducible refine execs_seq ?_); k_fold))
  trivial
theorem c_iter {l : LexP} (i : Int) (tp : Tok) (vs vt : Value)
    (dp un : Nat) (gd : Option (List Code)) (cn : Str) (cs : Scope) (a : Addr) (ccd : Value) (cl : List (Str × Addr)) (outer : List Env) (A₀ : Around) (base h₀ : Heap) (L : Addr) (m : Str → Option Value) (s : Shared) (Q E : Value → Shared → Prop)
    (B : Below A₀ base outer h₀) (F : Fr h₀ L s.heap m) (X : (KF w.params).In h₀) (N : News h₀ L s.heap (lexL w.params l i tp vs vt)) (T : Top p loose mean mg mb h₀) (hk : cs.kind = .function) (hd : dp + 280 < recursionLimit) (hu : un + 1400 < cLine)
    (hQ : ∀ (h' : Heap) (tk' : Nat), Fr h₀ L h' m → News h₀ L h' (lexL w.params l i tp vs vt) → Q (.ref l.o) { s with heap := h', toks := tk' }) :
    wpAny (model pw w) (ktrTop dp un gd cn cs L a ccd cl outer) (call (.ref 811) [.ref l.o]) Q E s := by
  refine wpAny_call ?_
  k_dflt cell_enter
  refine fold_env ?_
  intro AA en
  k_steps
  exact hQ _ _ (by assumption) (by assumption)
end
section
variable {w : World} {p : Program} {loose : List Str} {mean : ExcName → Option Value} {mg mb : Str → Option Value}
theorem lex_hint {l : LexP} {i : Int} {tp : Tok} {vs vt : Value} {A : Around} {E : Value → Shared → Prop} {h₀ : Heap} {L : Addr} {m : Str → Option Value} {s : Shared} {Q : Bool → Shared → Prop} (F : Fr h₀ L s.heap m) (X : (KF w.params).In h₀) (N : News h₀ L s.heap (lexL w.params l i tp vs vt)) (h : Q true s) :
    wpAny (model pw w) A (Builtin.List.listLengthHint (.ref l.o)) Q E s := by
  have I := InstAt.of_news N (.tail _ (.tail _ (.head _))) (.tail _ (.tail _ (.tail _ (.head _))))
  have h1 : findIn (KF w.params) (.ref 821) "__len__" = some none := by k_is
  have h2 : findIn (KF w.params) (.ref 821) "__length_hint__" = some none := by k_is
  have X' := X.keeps F.keep
  unfold Builtin.List.listLengthHint
  refine wpAny_bind (wpAny_bind (I.type.here ((looks_findIn X' h1).here ?_)))
  show wpAny _ A (specialOf (Value.ref l.o) (Str.ofString "__length_hint__") >>= _) _ _ _
  refine wpAny_bind (wpAny_bind (I.type.here ((looks_findIn X' h2).here ?_)))
  exact wpAny_pure h
theorem wn_ok {l : LexP} (ok : l.ok) {S : Addr} (hS : @LT.lt Nat _ l.d2 S) {ob : Obj} : (l.wn ((S, ob) :: l.news)).ok := by
  obtain ⟨h1, h2, h3, h4, h5, hl⟩ := ok
  refine ⟨h1, h2, h3, h4, h5, fun q hq => ?_⟩
  have g5 := Nat.lt_trans h5 hS
  have g4 := Nat.lt_trans h4 g5
  have g3 := Nat.lt_trans h3 g4
  have g2 := Nat.lt_trans h2 g3
  have g1 := Nat.lt_trans h1 g2
  rcases List.mem_cons.mp hq with rfl | hq
  · exact ⟨Nat.ne_of_gt g1, Nat.ne_of_gt g3⟩
  · exact hl q hq
theorem lex_list {l : LexP} (ok : l.ok) (hx : l.x.length ≤ 2000) (i : Nat) (z : LS) (tp : Tok) (vs vt : Value) (h1 : z.pv.is l.o vs) (h2 : (PV.str (Str.ofString "")).is l.o vt) (hs : RdOk l i z)
    (dp un : Nat) (gd : Option (List Code)) (cn : Str) (cs : Scope) (a : Addr) (ccd : Value) (cl : List (Str × Addr)) (outer : List Env) (A₀ : Around) (base h₀ : Heap) (L : Addr) (m : Str → Option Value) (s : Shared) (Q E : Value → Shared → Prop)
    (B : Below A₀ base outer h₀) (F : Fr h₀ L s.heap m) (X : (KF w.params).In h₀) (N : News h₀ L s.heap (lexL w.params l i tp vs vt)) (T : Top p loose mean mg mb h₀) (XB : (KF w.params).In base) (TB : Top p loose mean mg mb base) (D : KtsDicts (outer.filterMap (·.frame)) h₀) (hk : cs.kind = .function) (hd : dp + 300 < recursionLimit) (hu : un + 1500 < cLine)
    {k : Nat} {o : Option (List (List Nat))} (hL : Lx k z (l.x.cps.toList.drop i) o) (hz : k ≤ 3000)
    (hQ : ∀ ws, o = some ws → ∀ S, (∀ q ∈ l.news, q.1 < S) → ListEnd w p loose mean mg mb A₀ base h₀ outer L m l S l.news [] ws s fun s' => Q (.ref S) s')
    (hE : o = none → ListErr base h₀ (envX cn cs L a ccd cl) outer L m l.news s E) :
    wpAny (model pw w) (ktrTop dp un gd cn cs L a ccd cl outer) (call (.type "list") [.ref l.o]) Q E s := by
  have hlt : ∀ q ∈ lexL w.params l i tp vs vt, q.1 < s.heap.objs.size := fun q hq => Heap.lt_size (N q hq).1
  have hd2 : @LT.lt Nat _ l.d2 s.heap.objs.size := hlt (l.d2, deqObj) mem_d2
  have hnl : ∀ q ∈ l.news, q.1 < s.heap.objs.size := fun q hq => hlt q (.tail _ (.tail _ (.tail _ (.tail _ (.tail _ (.tail _ hq))))))
  refine callType_codes (Q₁ := fun obj s₁ => obj = .ref s.heap.objs.size ∧ s₁ = { s with heap := s.heap.push { cls := .type "list", data := .seq #[] } }) PySem.F.called_list (PySem.F.typeCall_list_1 _) PySem.F.entry_list_init (code_list_new _ ⟨rfl, rfl⟩) fun obj s₁ e₁ => ?_
  obtain ⟨rfl, rfl⟩ := e₁
  generalize hSe : s.heap.objs.size = S at *
  have hSh : (s.heap.push { cls := .type "list", data := .seq #[] }).get? S = some (listOf #[] 0) := by rw [← hSe]; exact Heap.get?_push_size _ rfl
  have hSn : h₀.get? S = none := Heap.get?_none_of_le (by rw [← hSe]; exact Nat.le_trans F.above (Nat.le_of_lt F.ns.lt))
  have hSL : S ≠ L := by rw [← hSe]; exact Nat.ne_of_gt F.ns.lt
  refine ⟨⟨_, hSh, rfl⟩, PySem.F.args_list_init_2 _ _, ?_⟩
  have F1 : Fr h₀ L (s.heap.push { cls := .type "list", data := .seq #[] }) m := F.push _
  have N1 : News h₀ L (s.heap.push { cls := .type "list", data := .seq #[] }) (lexL w.params (l.wn ((S, listOf #[] 0) :: l.news)) i tp vs vt) := by
    intro q hq
    by_cases he : q = (S, listOf #[] 0)
    · subst he; exact ⟨hSh, hSL, hSn⟩
    · have : q ∈ lexL w.params l i tp vs vt := by
        simp only [lexL, LexP.wn, List.mem_cons] at hq ⊢
        rcases hq with h | h | h | h | h | h | h | h
        · exact .inl h
        · exact .inr (.inl h)
        · exact .inr (.inr (.inl h))
        · exact .inr (.inr (.inr (.inl h)))
        · exact .inr (.inr (.inr (.inr (.inl h))))
        · exact .inr (.inr (.inr (.inr (.inr (.inl h)))))
        · exact absurd h he
        · exact .inr (.inr (.inr (.inr (.inr (.inr h)))))
      exact ⟨Heap.get?_push_of_some _ (N q this).1, (N q this).2⟩
  have hr : ∀ q ∈ l.news, q.1 ≠ S := fun q hq => Nat.ne_of_lt (hnl q hq)
  have turn : ∀ {h : Heap} {n : Nat} {tp : Tok} {its : Array Value} (f : Array Value → Array Value), Fr h₀ L h m → News h₀ L h (lexL w.params (l.wn ((S, listOf its n) :: l.news)) i tp vs vt) →
      ∃ n', Fr h₀ L (h.update S (Obj.mapSeq f)) m ∧ News h₀ L (h.update S (Obj.mapSeq f)) (lexL w.params (l.wn ((S, listOf (f its) n') :: l.news)) i tp vs vt) := by
    intro h n tp its f F N
    obtain ⟨n', hn'⟩ := mapSeq_list f its n
    have hg := N (S, listOf its n) (.tail _ (.tail _ (.tail _ (.tail _ (.tail _ (.tail _ (.head _)))))))
    refine ⟨n', F.change (Heap.SameBut.update h S (Obj.mapSeq f)) hg.2.1 hg.2.2, ?_⟩
    have := wn_upd ok hd2 hr N (Heap.SameBut.update h S (Obj.mapSeq f)) (Heap.get?_update_self (Obj.mapSeq f) hg.1 rfl)
    rw [← hn']; exact this
  show wpAny _ (ktrTop dp (un + 2) gd cn cs L a ccd cl outer) (do let old ← Builtin.List.listItems (.ref S); Builtin.List.listUpdate (.ref S) (fun _ => #[]); letGo old.toList.reverse; Builtin.List.listExtendWith (.ref S) (.ref l.o) .none) _ _ _
  refine wpAny_bind ?_
  unfold Builtin.List.listItems
  refine wpAny_bind (wpAny_seqItems hSh rfl (wpAny_pure ?_))
  show wpAny _ _ (updateSeq S (fun _ => #[]) >>= fun _ => letGo (#[] : Array Value).toList.reverse >>= fun _ => Builtin.List.listExtendWith (.ref S) (.ref l.o) .none) _ _ _
  refine wpAny_bind (wpAny_updateSeq hSh rfl ?_ (by decide) (by decide))
  obtain ⟨n2, F2, N2⟩ := turn (fun _ => #[]) F1 N1
  refine wpAny_bind (wpAny_letGo ?_)
  unfold Builtin.List.listExtendWith
  have I2 := InstAt.of_news N2 (.tail _ (.tail _ (.head _))) (.tail _ (.tail _ (.tail _ (.head _))))
  refine wpAny_bind (I2.type.here ?_)
  have e1 : Builtin.List.listSameRef (.ref S) (.ref l.o) = false := by
    have : @LT.lt Nat _ l.o S := hlt (l.o, instObj 821 l.dx) (.tail _ (.tail _ (.head _)))
    simp [Builtin.List.listSameRef, Nat.ne_of_gt this]
  have e2 : (Value.ref 821 == Value.type "list") = false := by decide
  have e3 : (Value.ref 821 == Value.type "tuple") = false := by decide
  simp only [e1, e2, e3, Bool.or_false, Bool.false_eq_true, if_false]
  refine wpAny_bind (owit_iter (f := 811) F2 X I2 (by k_is) (by k_is) ?_)
  refine c_iter (l := l.wn ((S, listOf #[] n2) :: l.news)) i tp vs vt dp (un + 2) gd cn cs a ccd cl outer A₀ base h₀ L m _ _ _ B F2 X N2 T hk (room_of hd (by decide)) (room_of3 hu (by decide)) fun h3 tk3 F3 N3 => ?_
  have I3 := InstAt.of_news N3 (.tail _ (.tail _ (.head _))) (.tail _ (.tail _ (.tail _ (.head _))))
  refine owit_it (g := .ref 818) F3 X I3 (by k_is) ?_
  refine wpAny_bind (wpAny_holding (lex_hint (l := l.wn ((S, listOf #[] n2) :: l.news)) F3 X N3 ?_))
  simp only [Bool.true_or, if_true]
  show wpAny _ _ (rule "list.extend.makes-room" >>= fun _ => Builtin.List.listTouch (.ref S) >>= fun _ => again (.builtin "list.extend.loop" ⟨[.ref S, .ref l.o, .none], []⟩)) _ _ _
  refine wpAny_bind (wpAny_rule ?_)
  refine wpAny_bind ?_
  show wpAny _ _ (updateSeq S (·.push .none) >>= fun _ => updateSeq S (·.pop)) _ _ _
  have g3 := (N3 (S, listOf #[] n2) (.tail _ (.tail _ (.tail _ (.tail _ (.tail _ (.tail _ (.head _)))))))).1
  refine wpAny_bind (wpAny_updateSeq g3 rfl ?_ (by decide) (by decide))
  obtain ⟨n4, F4, N4⟩ := turn (·.push .none) F3 N3
  have g4 := (N4 (S, listOf (#[].push .none) n4) (.tail _ (.tail _ (.tail _ (.tail _ (.tail _ (.tail _ (.head _)))))))).1
  refine wpAny_updateSeq g4 rfl ?_ (by decide) (by decide)
  obtain ⟨n5, F5, N5⟩ := turn (·.pop) F4 N4
  have e5 : ((#[] : Array Value).push .none).pop = [].toArray := rfl
  rw [e5] at N5
  refine wpAny_pure ⟨plainId_quiet PySem.F.plain_extend_loop _, ?_⟩
  refine lex_loop ok hx S l.news hd2 hr (fun ob => wn_ok ok hd2) dp (un + 1) gd cn cs a ccd cl outer A₀ base h₀ L m B X T XB TB D hk (room_of hd (by decide)) (room_of3 hu (by decide)) hL i tp vs vt [] n5 _ _ rfl hs h1 h2 (by rw [List.length_nil, Nat.zero_add]; exact Nat.le_trans hz (by decide)) ?f5 ?n5 ?_ ?_
  case f5 => exact F5
  case n5 => exact N5
  · intro ws hw us n' i' tp' vs' vt' g' h' tk' hu2 T2 F2 N2 B2 X2 P2 D2
    exact ⟨rfl, hQ ws hw S hnl us n' i' tp' vs' vt' g' h' tk' hu2 T2 F2 N2 B2 X2 P2 D2⟩
  · intro ho e t u g h' tk' R' F' U'
    exact hE ho e t u g h' tk' R' F' U'
end
end Mine
namespace Mine
-- Turn
open PySem PySem.W PyProof.Rows PySem.Spec PySem.Calls
set_option maxHeartbeats 4000000
theorem mem_frames {env : Env} {outer : List Env} {L b : Addr} (hf : env.frame = some L) (h : b ∈ (env :: outer).filterMap (·.frame)) : b = L ∨ b ∈ outer.filterMap (·.frame) := by
  rw [List.filterMap_cons, hf] at h
  exact List.mem_cons.mp h
section
variable {prog : Program} {w : World} {A₀ A : Around} {s : Shared} {base h₀ : Heap} {outer : List Env} {L : Addr} {m : Str → Option Value} {env : Env} {news : Led} {K : Frag} {p : Program} {loose : List Str} {mean : ExcName → Option Value} {mg mb : Str → Option Value}
  {R : Result → Shared → Prop} {name qual : Str} {params : Arguments} {body : List Stmt} {scope : Scope} {dV kV doc pm cdv ct oc : Value} {an od : Option Addr} {osl : Array (Option Value)} {f : Addr} {args : Args} {binds : List (Str × Value)}
theorem code_defX (B : Below A₀ base outer h₀) (F : Fr h₀ L s.heap m) (X₀ : K.In h₀) (N : News h₀ L s.heap news) (T : Top p loose mean mg mb h₀) (XB : K.In base) (TB : Top p loose mean mg mb base) (D : KtsDicts (outer.filterMap (·.frame)) h₀)
    (hA : A.frames = some (env :: outer)) (hf : env.frame = some L) (hke : env.scope.kind = .function)
    (ho : K.lookup f = some ⟨oc, od, .func (fnOf name qual params body scope dV kV doc pm an cdv ct), osl⟩) (hcd : codeIn K cdv qual = true) (hroom : A.depth < recursionLimit)
    (hbind : BindsTo s (fnOf name qual params body scope dV kV doc pm an cdv ct) args binds) (hloc : ∀ y ∈ binds, scope.names.lookup y.1 = some .local)
    (h : ∀ g L' h₁, Fr h₀ L g m → Fr g L' h₁ (fun y => binds.reverse.lookup y) → News g L' h₁ news → Below A base (env :: outer) g → K.In g → Top p loose mean mg mb g → KtsDicts ((env :: outer).filterMap (·.frame)) g →
      wpAny (model prog w) (A.deeper (envOf qual scope L' f cdv)) (execs body (envOf qual scope L' f cdv))
        (fun fl s' => LeaveS ((env :: outer).filterMap (·.frame)) A₀ base outer K p loose mean mg mb h₀ h₀ L m g R (match fl with | .ret v => v | _ => .none) s')
        (fun e s' => wpAny (model prog w) (A.deeper (envOf qual scope L' f cdv)) (leaving (envOf qual scope L' f cdv) e) (fun _ s'' => R (.error e) s'') (fun e' s'' => R (.error e') s'') s')
        { s with heap := h₁, toks := s.toks + binds.length })
    (hco : scope.isCoroutine = false) (hgen : scope.isGenerator = false) (hk : scope.kind = .function)
    (hcell : ∀ x ∈ scope.names, x.2 ≠ .cell) : codeAny (model prog w) A (.call (.ref f) args) R s := by
  have X := X₀.keeps F.keep
  obtain ⟨FG, BG, st, lv⟩ := groundX (R := R) B F N hA hf hke
  refine codeAny_call_def (fd := fnOf name qual params body scope dV kV doc pm an cdv ct) (body := body) (binds := binds) hroom (X _ _ ho) rfl (T.nolimit.keeps F.keep) (codeRec_of X hcd) rfl hbind hcell hloc (fun h₁ hns hk₁ => ?_) hco hgen hk
  obtain ⟨oL, es, ep, hLg, hLd, hLk, hLf⟩ := id FG.ns
  refine wpAny_mono (h _ s.heap.objs.size h₁ FG ⟨hns, fun b o e => hk₁ b o (of_hideAll _ e), Nat.le_of_eq (hideAll_size _ _)⟩
    (fun p hp => ⟨hk₁ _ _ (N p hp).1, Nat.ne_of_lt (Heap.lt_size (N p hp).1), hideAll_none _ (List.mem_map_of_mem hp)⟩) BG (X₀.keeps st) (T.keeps st) (fun b hb => ?_)) (fun fl s' hl => ?_) fun _ _ y => y
  · rcases mem_frames hf hb with rfl | hb
    · exact ⟨oL, es, ep, hLg, hLd⟩
    · obtain ⟨o, es', n', ho', hd'⟩ := D b hb
      exact ⟨o, es', n', st b o ho', hd'⟩
  rcases hl with ⟨L', m', news', F', N', k⟩ | ⟨g', L', m', news', T', F', N', k⟩
  · exact lv _ _ ⟨L', m', news', F', N', k⟩
  have nL₀ : h₀.get? L = none := kts_self F
  obtain ⟨sl, hs⟩ := T'.up hLg
  have far : ∀ b o, h₀.get? b = some o → b ∉ outer.filterMap (·.frame) → b ∉ (env :: outer).filterMap (·.frame) := fun b o e nm q => by
    rcases mem_frames hf q with z | z
    · rw [z, nL₀] at e; cases e
    · exact nm z
  obtain ⟨T₁, S₁⟩ := kts_turn_at (h := s'.heap) (fs := outer.filterMap (·.frame)) (g := h₀)
    (fun b hb => by obtain ⟨_, o, ho', _⟩ := B.frames.mem hb; exact ⟨o, ho'⟩)
    (fun b o e nm => F'.keep b o (T'.other b o (st b o e) (far b o e nm)))
    (fun b o e _ => by obtain ⟨sl', hs'⟩ := T'.up (st b o e); exact ⟨sl', F'.keep _ _ hs'⟩)
  have B₃ : Below A₀ base outer (ktsHeap s'.heap (outer.filterMap (·.frame)) h₀) := ⟨B.stack, fun b o e => T₁.other b o (B.stays b o e) (fun hm => by rw [(B.frames.mem hm).1] at e; cases e), B.frames.of_keeps fun b o e _ => by obtain ⟨sl', hs'⟩ := T₁.up e; exact ⟨_, hs', rfl⟩⟩
  refine k _ T₁ ⟨⟨_, es, ep, F'.keep _ _ hs, hLd, hLk, hLf⟩, S₁, by rw [T₁.size]; exact F.above⟩ (fun p hp => ⟨(N' p hp).1, fun q => ?_, ?_⟩) B₃ (XB.keeps B₃.stays) (TB.keeps B₃.stays) (D.turn T₁)
  · have := (N' p hp).2.2
    rw [q, hs] at this; cases this
  · refine T₁.none_ _ ?_
    cases q : h₀.get? p.1 with
    | none => rfl
    | some o =>
      obtain ⟨sl', hs'⟩ := T'.up (st _ _ q)
      have := (N' p hp).2.2
      rw [hs'] at this; cases this
-- a turn with no frames outside keeps the ground
theorem turn_nil {g g' h : Heap} (T : KtsTurn [] g g') (F : Fr g' L h m) : Fr g L h m := ⟨F.ns, fun b o e => F.keep b o (T.other b o e (fun q => nomatch q)), by rw [← T.size]; exact F.above⟩
theorem turn_nil_news {g g' h : Heap} (T : KtsTurn [] g g') (N : News g' L h news) : News g L h news := fun q hq => ⟨(N q hq).1, (N q hq).2.1, by
  cases e : g.get? q.1 with
  | none => rfl
  | some o =>
    have := T.other _ o e (fun q => nomatch q)
    rw [(N q hq).2.2] at this; cases this⟩
end
end Mine
namespace Mine
-- Rt9
open PySem PySem.W PyProof.Rows PySem.Spec PySem.Calls
set_option maxHeartbeats 8000000
noncomputable abbrev lexG (P : Params) (l : LexP) (i : Int) (tp : Tok) (es : List DictEntry) : Led :=
  (l.io, instObj 686 l.di) :: (l.di, dictOf (sioEs P l.x l.tx i tp l.ks3) 3) :: (l.o, instObj 821 l.dx) :: (l.dx, dictOf es 19) :: (l.d2, deqObj) :: (l.d1, deqObj) :: l.news
theorem lexG_upd {P : Params} {l : LexP} (ok : l.ok) {i : Int} {tp : Tok} {es es' : List DictEntry} : Upd l.dx (dictOf es 19) (dictOf es' 19) (lexG P l i tp es) (lexG P l i tp es') := by
  obtain ⟨h1, h2, h3, h4, h5, hl⟩ := ok
  have g2 := Nat.lt_trans h1 h2
  have g3 := Nat.lt_trans g2 h3
  have g4 := Nat.lt_trans g3 h4
  have g5 := Nat.lt_trans g4 h5
  refine .tail (Nat.ne_of_gt g3) (.tail (Nat.ne_of_gt g2) (.tail (Nat.ne_of_gt h1) (.head ?_)))
  intro p hp
  rcases List.mem_cons.mp hp with rfl | hp
  · exact Nat.ne_of_gt g5
  · rcases List.mem_cons.mp hp with rfl | hp
    · exact Nat.ne_of_gt g4
    · exact (hl p hp).1
theorem lexG_set {w : World} {E : Value → Shared → Prop} {h₀ : Heap} {L : Addr} {l : LexP} (ok : l.ok) {i : Int} {tp : Tok} (X : (KF w.params).In h₀) {s : Shared} {m : Str → Option Value} {es es' : List DictEntry} {v : Value} {name : Str} {A : Around} {Q : Unit → Shared → Prop} (F : Fr h₀ L s.heap m) (N : News h₀ L s.heap (lexG w.params l i tp es))
    (ht : takerIn (KF w.params) 821 name = some none) (hl : (getL name es).isSome = true) (e : (putL name (PyData.keyHash w.params name) (.str name (s.toks + 1)) v es, putN name es 19) = (es', 19)) (hz : es'.length ≤ 1000)
    (h : ∀ h' tk, Fr h₀ L h' m → News h₀ L h' (lexG w.params l i tp es') → Q () { s with heap := h', toks := tk }) : wpAny (model pw w) A (setAttr (.ref l.o) name v) Q E s :=
  set_dict F X N (InstAt.of_news N (.tail _ (.tail _ (.head _))) (.tail _ (.tail _ (.tail _ (.head _))))) rfl (by k_is) (by k_is) ht (by k_is) hl e (lexG_upd ok) hz fun h' F' N' => h h' _ F' N'
section
variable {w : World} {p : Program} {loose : List Str} {mean : ExcName → Option Value} {mg mb : Str → Option Value}
theorem lines_Rt9_0 : True := by
  k_with_none
  k_with "lt" => first | with_reducible assumption | exact And.left (by with_reducible assumption) | exact And.left (And.right (by with_reducible assumption)) | exact And.left (And.right (And.right (by with_reducible assumption))) | exact And.left (And.right (And.right (And.right (by with_reducible assumption)))) | exact And.left (And.right (And.right (And.right (And.right (by with_reducible assumption)))))
  k_with "rl" => with_unfolding_all exact rfl
  k_with "omega" => first | (with_reducible exact om_room ‹_›) | (with_reducible exact om_le ‹_› (by k_extra "rl")) | (with_reducible exact om_ne1 (by k_extra "lt")) | lia
  k_with "execs cons" => ((try k_gentoks); refine fold_sh ?_; intro _; first | (with_reducible refine exec_one ?_) | ((with_reducible refine execs_seq ?_); k_fold))
  k_with "SeqQ" => first | refine seq_next ?_ | refine seq_ret ?_ | refine seq_brk ?_ | refine seq_cont ?_
  k_with "exec If" => (with_reducible refine exec_if ?_)
  k_with "IfQ" => first | (refine ifq_no (by with_reducible assumption) ?_) | (refine ifq_yes (by with_reducible assumption) ?_) | (refine ifq_no (by decide) ?_) | (refine ifq_yes (by decide) ?_) | dsimp only [IfQ]
  k_with "storeName" => (k_dflt (refine' storeX_F ?Fzq ?Nzq ?_ ?azq ?bzq; (case Fzq => k_asm); (case Nzq => k_asm); (case azq => rfl); (case bzq => rfl); k_whole); intro _ _ _ _; (try k_sweep))
  k_with "call ref" => refine hold ?_
  k_with "setAttr ref" => refine hold ?_
  k_with "call type:list" => refine hold ?_
  trivial
theorem c_split (x : Str) (tR : Tok) (hx : x.length ≤ 2000) (news : Led) {k : Nat} {o : Option (List (List Nat))} (hL : Lx k .sp x.cps.toList o) (hz : k ≤ 3000) (hsane : sane .sp x.cps.toList)
    (dp un : Nat) (gd : Option (List Code)) (cn : Str) (cs : Scope) (a : Addr) (ccd : Value) (cl : List (Str × Addr)) (outer : List Env) (A₀ : Around) (base h₀ : Heap) (L : Addr) (m : Str → Option Value) (s : Shared) (Q E : Value → Shared → Prop)
    (B : Below A₀ base outer h₀) (F : Fr h₀ L s.heap m) (X : (KF w.params).In h₀) (N : News h₀ L s.heap news) (T : Top p loose mean mg mb h₀) (XB : (KF w.params).In base) (TB : Top p loose mean mg mb base) (D : KtsDicts (outer.filterMap (·.frame)) h₀) (hk : cs.kind = .function) (hd : dp + 340 < recursionLimit) (hu : un + 1600 < cLine)
    (hQ : ∀ ws, o = some ws → ∀ S us n' h₀' h' tk', (∀ q ∈ news, q.1 < S) → StrsAre us (ws.map strL) → KtsTurn (outer.filterMap (·.frame)) h₀ h₀' → Fr h₀' L h' m → News h₀' L h' ((S, listOf us.toArray n') :: news) → Below A₀ base outer h₀' → (KF w.params).In h₀' → Top p loose mean mg mb h₀' → KtsDicts (outer.filterMap (·.frame)) h₀' → Q (.ref S) { s with heap := h', toks := tk' })
    (hE : o = none → ListErr base h₀ (envX cn cs L a ccd cl) outer L m news s E) :
    wpAny (model pw w) (ktrTop dp un gd cn cs L a ccd cl outer) (call (.ref 833) [.str x tR]) Q E s := by
  refine wpAny_call ?_
  k_dflt (refine' code_defX B F X N T XB TB D ?kA ?kF ?kK ?k6 ?k7 ?k8 ?k9 ?kB ?_ ?c2 ?c3 ?c4 ?c5; (case kA => exact rfl); (case kF => exact rfl); (case kK => exact hk); (case k6 => k_is); (case k7 => k_is); (case k8 => exact Nat.lt_of_le_of_lt (Nat.le_add_right dp 340) hd); (case k9 => exact binds_K (X.keeps F.keep) rfl (by k_is) rfl rfl rfl); (case kB => exact locs rfl); (case c2 => exact rfl); (case c3 => exact rfl); (case c4 => exact rfl); (case c5 => decide); k_whole)
  intro g1' L1 h1 FG1 F1 N1 B1 X1 T1 D1
  refine fold_env ?_
  intro AA en
  k_steps
  unfold Hold
  refine call_cls (C := 821) (fI := 745) F1 X1 N1 (by k_is) (by k_is) (by k_is) fun o9 dx9 h9 F9 N9 l1 l2 => ?_
  refine' c_lexinit x tR hx news o9 dx9 _ _ _ _ _ _ _ _ _ _ _ _ _ _ _ _ B1 F9 X1 N9 T1 ?kK ?kd ?ku l1 l2 ?kR
  case kK => exact rfl
  case kd => first | (show dp + 1 + 100 < recursionLimit; exact room_of3 (n := 340) hd (by decide)) | (show dp + 2 + 100 < recursionLimit; exact room_of3 (n := 340) hd (by decide))
  case ku => first | (show un + 0 + 500 < cLine; exact room_of3 (n := 1600) hu (by decide)) | (show un + 4 + 500 < cLine; exact room_of3 (n := 1600) hu (by decide)) | (show un + 6 + 500 < cLine; exact room_of3 (n := 1600) hu (by decide)) | (show un + 7 + 500 < cLine; exact room_of3 (n := 1600) hu (by decide)) | (show un + 8 + 500 < cLine; exact room_of3 (n := 1600) hu (by decide)) | (show un + 9 + 500 < cLine; exact room_of3 (n := 1600) hu (by decide)) | (show un + 10 + 500 < cLine; exact room_of3 (n := 1600) hu (by decide))
  case kR =>
    intro d1 d2 io di tp ks3 tst tt ks vt h5 tk5 g1 g2 g3 g4 F5 N5
    refine ⟨rfl, ?_⟩
    have lok : (LexP.mk o9 dx9 io di d1 d2 x tR ks3 ks (fun _ => 0) news).ok := ⟨l2, g1, g2, g3, g4, fun q hq => ⟨Nat.ne_of_lt (l1 q hq), Nat.ne_of_lt (Nat.lt_trans (l1 q hq) (Nat.lt_trans l2 g1))⟩⟩
    have N6 : News g1' L1 h5 (lexG w.params (LexP.mk o9 dx9 io di d1 d2 x tR ks3 ks (fun _ => 0) news) 0 tp (lexEs w.params io d1 d2 (Str.ofString "#") false (.str (Str.ofString " ") tst) (Str.ofString "") tt ks vt)) := fun q hq => N5 q (by
      simp only [lexG, List.mem_cons] at hq ⊢
      rcases hq with h | h | h | h | h | h | h
      · exact .inr (.inr (.inl h))
      · exact .inr (.inr (.inr (.inl h)))
      · exact .inr (.inr (.inr (.inr (.inl h))))
      · exact .inr (.inr (.inr (.inr (.inr (.inl h)))))
      · exact .inl h
      · exact .inr (.inl h)
      · exact .inr (.inr (.inr (.inr (.inr (.inr h))))))
    clear N5
    k_steps
    unfold Hold
    rename Fr _ _ _ _ => F7
    rename News _ _ _ (lexG _ _ _ _ _) => N7
    refine lexG_set lok X1 F7 N7 (by k_is) rfl rfl (Nat.le_of_ble_eq_true rfl) fun h8 tk8 F8 N8 => ?_
    k_steps
    unfold Hold
    rename Fr _ _ _ _ => F9'
    rename News _ _ _ (lexG _ _ _ _ _) => N9'
    refine lexG_set lok X1 F9' N9' (by k_is) rfl rfl (Nat.le_of_ble_eq_true rfl) fun h10 tk10 F10 N10 => ?_
    k_steps
    unfold Hold
    have N11 : ∃ us, News g1' L1 h10 (lexL w.params ⟨o9, dx9, io, di, d1, d2, x, tR, ks3, ks, us, news⟩ (0 : Nat) tp (.str (Str.ofString " ") tst) (.str (Str.ofString "") tt)) := ⟨fun n => match n with | 0 => _ | n + 1 => vt.getD (n + 1) 0, N10⟩
    obtain ⟨us, N11⟩ := N11
    have lok2 : (LexP.mk o9 dx9 io di d1 d2 x tR ks3 ks us news).ok := ⟨l2, g1, g2, g3, g4, lok.hl⟩
    refine' lex_list lok2 hx 0 .sp tp _ _ ⟨_, rfl⟩ ⟨_, rfl⟩ ⟨Nat.zero_le _, hsane, rfl, rfl⟩ _ _ _ _ _ _ _ _ _ _ _ _ _ _ _ _ _ B1 F10 X1 N11 T1 XB TB D1 ?kK ?kd ?ku hL hz ?kQ ?kE
    case kK => exact rfl
    case kd => exact room_of3 (n := 340) hd (by decide)
    case ku => exact room_of3 (n := 1600) hu (by decide)
    case kE =>
      intro ho e t u g h' tk' R' F' U'
      refine leave_onS B1 F' R' U' fun h6 R6 _ U6 => ?_
      exact hE ho e t u _ h6 _ R6 FG1 U6
    case kQ =>
      intro ws hw S hnl us n' i' tp' vs' vt' g' h' tk' hu2 T2 F2 N2 B2 X2 P2 D2
      refine leaveS_r (news' := (S, listOf us.toArray n') :: news) F2 (fun q hq => N2 q (.tail _ (.tail _ (.tail _ (.tail _ (.tail _ (.tail _ hq))))))) T2 fun h₀' T0' F0 N0 B0 X0 P0 D0 => ?_
      exact hQ ws hw S us n' h₀' h' tk' hnl hu2 T0' F0 N0 B0 X0 P0 D0
end
end Mine
namespace Mine
-- LwN
open PySem PySem.W PyProof.Rows PySem.Spec PySem.Calls
set_option maxHeartbeats 8000000
@[reducible] noncomputable def ls10 : {b : Stmt // lawSt 10 = b} := by refine' ⟨_, _⟩; rotate_left; conv => lhs; whnf
section
variable {w : World} {p : Program} {loose : List Str} {mean : ExcName → Option Value} {mg mb : Str → Option Value}
variable {dp un : Nat} {gd : Option (List Code)} {cn : Str} {a : Addr} {ccd : Value} {cP cM cK cZ cS : Addr} {outer : List Env} {A₀ : Around} {base h₀ : Heap} {L : Addr} {s : Shared} {Q : Flow → Shared → Prop} {E : Value → Shared → Prop} {m : Str → Option Value}
theorem lines_LwN_0 : True := by
  k_with_none
  k_with "lt" => first | with_reducible assumption | exact And.left (by with_reducible assumption) | exact And.left (And.right (by with_reducible assumption)) | exact And.left (And.right (And.right (by with_reducible assumption))) | exact And.left (And.right (And.right (And.right (by with_reducible assumption)))) | exact And.left (And.right (And.right (And.right (And.right (by with_reducible assumption)))))
  k_with "rl" => with_unfolding_all exact rfl
  k_with "omega" => first | (with_reducible exact om_room ‹_›) | (with_reducible exact om_le ‹_› (by k_extra "rl")) | (with_reducible exact om_ne1 (by k_extra "lt")) | lia
  k_with "subscriptTail Name Slice ref ref" => refine hold ?_
  k_with "call builtin:len" => refine hold ?_
  k_with "call builtin:min" => refine hold ?_
  k_with "call ref" => refine hold ?_
  k_with "binaryOp Add ref ref" => refine hold ?_
  k_with "eval Name" => (k_here; k_dflt (refine' nameX_L ?Fzq ?vzq ?_ ?azq ?bzq; (case Fzq => k_asm); (case azq => rfl); (case bzq => rfl); (case vzq => first | assumption | with_unfolding_all assumption); k_whole))
  k_with "storeName" => (k_dflt (refine' storeX_F ?Fzq ?Nzq ?_ ?azq ?bzq; (case Fzq => k_asm); (case Nzq => k_asm); (case azq => rfl); (case bzq => rfl); k_whole); intro _ _ _ _; (try k_sweep))
  trivial
theorem st10 {R : Addr} {us : List Value} {ss : List Str} {nr k : Nat} {rest : Led} (B : Below A₀ h₀ [] h₀) (X : (KF w.params).In h₀) (T : Top p loose mean mg mb h₀) (hd : dp + 500 < recursionLimit) (hu : un + 2500 < cLine) (F : Fr h₀ L s.heap m) (N : News h₀ L s.heap ((835, tabObj #[]) :: (R, listOf us.toArray nr) :: rest)) (hne : ∀ q ∈ (R, listOf us.toArray nr) :: rest, q.1 ≠ 835) (m1 : m (Str.ofString "replies") = some (.ref R))
    (hv : StrsAre us ss) (hr : ∀ z ∈ ss, Reply z) (hn : ss.length ≤ 20) (hx : (Txt.join (Str.ofString " ") (ss.map quoted)).length ≤ 2000) (hL : Lx k .sp (Txt.join (Str.ofString " ") (ss.map quoted)).cps.toList (some (ss.map fun z => z.cps.toList))) (hk : k ≤ 3000) (hsane : sane .sp (Txt.join (Str.ofString " ") (ss.map quoted)).cps.toList)
    (hQ : ∀ W ws n ps s', StrsAre ws ss → (∀ q ∈ (835, tabObj ps) :: (R, listOf us.toArray nr) :: rest, q.1 < W) → (AllBare s.gens → AllBare s'.gens) → s'.os = s.os → s'.drawn = s.drawn → Fr h₀ L s'.heap (fun y => if y = Str.ofString "words" then some (.ref W) else m y) → News h₀ L s'.heap ((W, listOf ws.toArray n) :: (835, tabObj ps) :: (R, listOf us.toArray nr) :: rest) → Q .next s') :
    wpAny (model pw w) (ktrTop dp un gd cn fs49.1 L a ccd (lawCl cP cM cK cZ cS) []) (exec ls10.1 (envX cn fs49.1 L a ccd (lawCl cP cM cK cZ cS))) Q E s := by
  refine fold_st ?_
  intro AA en
  k_steps
  unfold Hold
  refine' c_join R nr us ss hv hr hn rest hne _ _ _ _ _ _ _ _ _ _ _ _ _ _ _ _ _ ?k1 ?k2 ?k3 N ?k5 ?kK ?kd ?ku ?kR
  case k1 => k_asm
  case k2 => k_asm
  case k3 => k_asm
  case k5 => k_asm
  case kK => exact rfl
  case kd => ktr_room
  case ku => ktr_units
  case kR =>
    intro tj ps s1 F1 N1 g1 o1 d1
    k_steps
    unfold Hold
    refine c_split _ tj hx _ hL hk hsane _ _ _ _ _ _ _ _ _ _ _ _ _ _ _ _ _ B F1 X N1 T X T ktsDicts_nil rfl ?jd ?ju ?jQ ?jE
    case jd => ktr_room
    case ju => ktr_units
    case jQ =>
      intro ws9 e9 S vs n' h₀' h' tk' lS hvs ht F9 N9 B9 X9 T9 D9
      cases e9
      have F9 := turn_nil ht F9
      have N9 := turn_nil_news ht N9
      rw [List.map_map, show (strL ∘ fun z : Str => z.cps.toList) = id from funext fun z => rfl, List.map_id] at hvs
      clear B9 X9 T9 D9
      k_steps
      rename_i h5 m5 F5 N5
      exact hQ S vs n' ps _ hvs lS g1 o1 d1 F5 N5
    case jE => intro h; cases h
end
end Mine
namespace Mine
-- LwO
open PySem PySem.W PyProof.Rows PyProof.V PySem.Spec PySem.Calls
set_option maxHeartbeats 8000000
theorem es_canLayAll0 : ∀ ns : List Str, (∀ z ∈ ns, PyData.strOk z = true) → PyData.canLayAll0 (ns.map PyData.str) = true
  | [], _ => rfl
  | z :: r, h => by simp [PyData.canLayAll0, PyData.canLay0, es_canLayAll0 r fun y hy => h y (.tail _ hy), h z (.head _)]
theorem es_depthAll : ∀ ns : List Str, PyData.depthAll (ns.map PyData.str) = 0
  | [] => rfl
  | _ :: r => by simp [PyData.depthAll, PyData.depth, es_depthAll r]
theorem es_shaped (ns : List Str) (h : ∀ z ∈ ns, PyData.strOk z = true) : SeqAt.shaped (.list (ns.map PyData.str)) = true := by
  simp [SeqAt.shaped, PyData.canLay0, PyData.depth, es_canLayAll0 _ h, es_depthAll]
theorem es_sameAll : ∀ ns : List Str, PySem.Spec.sameAll (ns.map PyData.str) (ns.map PyData.str) = true
  | [] => by simp [PySem.Spec.sameAll]
  | a :: r => by simp [PySem.Spec.sameAll, PySem.Spec.same, es_sameAll r]
theorem es_same (ns : List Str) : PySem.Spec.same (.list (ns.map PyData.str)) (.list (ns.map PyData.str)) = true := by
  simp only [PySem.Spec.same]; exact es_sameAll ns
theorem es_carried : ∀ {vs : List Value} {ns : List Str}, StrsAre vs ns → CarriedAll vs (ns.map PyData.str)
  | _, _, .nil => .nil
  | _, _, .cons _ t r => .cons (.str _ t) (es_carried r)
section
variable {prog : Program} {w : World} {A : Around} {E : Value → Shared → Prop} {s : Shared} {a b : Addr} {xs ys : List Value} {ns : List Str} {Q : Value → Shared → Prop}
theorem eq_strs (ha : s.heap.IsList a xs.toArray) (hb : s.heap.IsList b ys.toArray) (hi : StrsAre xs ns) (hj : StrsAre ys ns) (hok : ∀ z ∈ ns, PyData.strOk z = true) (hu : A.units + 64 < cLine) (h : Q (.bool true) s) :
    wpAny (model prog w) A (compareOp .Eq (.ref a) (.ref b)) Q E s :=
  eq_dataH_same (reads_newData ha (es_carried hi)) (reads_newData hb (es_carried hj)) (es_shaped _ hok) (es_shaped _ hok) hu (SeqAt.noMix_of_shape (.list .str) rfl _ _ (list_map_has fun _ => rfl) (list_map_has fun _ => rfl)) (by rw [es_same]; exact h)
theorem ne_strs (ha : s.heap.IsList a xs.toArray) (hb : s.heap.IsList b ys.toArray) (hi : StrsAre xs ns) (hj : StrsAre ys ns) (hok : ∀ z ∈ ns, PyData.strOk z = true) (hu : A.units + 64 < cLine) (h : Q (.bool false) s) :
    wpAny (model prog w) A (compareOp .NotEq (.ref a) (.ref b)) Q E s :=
  ne_dataH_same (reads_newData ha (es_carried hi)) (reads_newData hb (es_carried hj)) (es_shaped _ hok) (es_shaped _ hok) hu (SeqAt.noMix_of_shape (.list .str) rfl _ _ (list_map_has fun _ => rfl) (list_map_has fun _ => rfl)) (by rw [es_same]; exact h)
end
end Mine
namespace Mine
-- LwQ
open PySem PySem.W PyProof.Rows PySem.Spec PySem.Calls
set_option maxHeartbeats 8000000
theorem lines_LwQ_0 : True := by
  k_with_none
  k_with "lt" => first | with_reducible assumption | exact And.left (by with_reducible assumption) | exact And.left (And.right (by with_reducible assumption)) | exact And.left (And.right (And.right (by with_reducible assumption))) | exact And.left (And.right (And.right (And.right (by with_reducible assumption)))) | exact And.left (And.right (And.right (And.right (And.right (by with_reducible assumption)))))
  k_with "rl" => with_unfolding_all exact rfl
  k_with "omega" => first | (with_reducible exact om_room ‹_›) | (with_reducible exact om_le ‹_› (by k_extra "rl")) | (with_reducible exact om_ne1 (by k_extra "lt")) | lia
  trivial
noncomputable def jl (c : Nat) : List (List Nat) → List Nat
  | [] => []
  | [a] => a
  | a :: b :: r => a ++ c :: jl c (b :: r)
theorem cut_inj {c : Nat} : ∀ {a b X Y : List Nat}, c ∉ a → c ∉ b → a ++ c :: X = b ++ c :: Y → a = b ∧ X = Y
  | [], [], X, Y, _, _, h => by simpa using h
  | [], y :: b, X, Y, _, hb, h => by
    have : c = y := by simpa using congrArg List.head? h
    exact absurd (this ▸ List.mem_cons_self) hb
  | x :: a, [], X, Y, ha, _, h => by
    have : x = c := by simpa using congrArg List.head? h
    exact absurd (this ▸ List.mem_cons_self) ha
  | x :: a, y :: b, X, Y, ha, hb, h => by
    have h2 : x = y ∧ a ++ c :: X = b ++ c :: Y := by simpa using h
    have ⟨e1, e2⟩ := cut_inj (fun q => ha (.tail _ q)) (fun q => hb (.tail _ q)) h2.2
    exact ⟨by rw [h2.1, e1], e2⟩
theorem jl_inj {c : Nat} : ∀ (ps qs : List (List Nat)), ps ≠ [] → qs ≠ [] → (∀ p ∈ ps, c ∉ p) → (∀ p ∈ qs, c ∉ p) → jl c ps = jl c qs → ps = qs
  | [], _, h, _, _, _, _ => absurd rfl h
  | _, [], _, h, _, _, _ => absurd rfl h
  | [a], [b], _, _, _, _, h => by rw [show a = b from h]
  | [a], b :: b2 :: r, _, _, ha, _, h => by
    have h : a = b ++ c :: jl c (b2 :: r) := h
    exact absurd (h ▸ List.mem_append_right _ (.head _)) (ha a (.head _))
  | a :: a2 :: r, [b], _, _, _, hb, h => by
    have h : a ++ c :: jl c (a2 :: r) = b := h
    exact absurd (h ▸ List.mem_append_right _ (.head _)) (hb b (.head _))
  | a :: a2 :: r, b :: b2 :: t, _, _, ha, hb, h => by
    have h : a ++ c :: jl c (a2 :: r) = b ++ c :: jl c (b2 :: t) := h
    have ⟨e1, e2⟩ := cut_inj (ha a (.head _)) (hb b (.head _)) h
    have := jl_inj (a2 :: r) (b2 :: t) (by simp) (by simp) (fun p hp => ha p (.tail _ hp)) (fun p hp => hb p (.tail _ hp)) e2
    rw [e1, this]
theorem join_jl (c : Nat) : ∀ ps : List Str, (PySem.Str.join ⟨#[c]⟩ ps).cps.toList = jl c (ps.map fun p => p.cps.toList)
  | [] => rfl
  | [a] => rfl
  | a :: b :: r => by
    show ((a ++ ⟨#[c]⟩ ++ PySem.Str.join ⟨#[c]⟩ (b :: r)) : Str).cps.toList = _
    rw [app_list, app_list, join_jl c (b :: r)]
    simp [jl]
theorem split_eq {c : Nat} {x : Str} {qs : List Str} (hq : qs ≠ []) (hf : ∀ p ∈ qs, c ∉ p.cps.toList) (h : jl c (qs.map fun p => p.cps.toList) = x.cps.toList) : Txt.split x ⟨#[c]⟩ = qs := by
  have h1 := StrLaws.join_split x ⟨#[c]⟩
  have h2 := StrLaws.split_free x c
  have h3 : Txt.split x ⟨#[c]⟩ ≠ [] := fun e => by have := split_pos x ⟨#[c]⟩; rw [e] at this; exact absurd this (by decide)
  have h4 : jl c ((Txt.split x ⟨#[c]⟩).map fun p => p.cps.toList) = jl c (qs.map fun p => p.cps.toList) := by rw [← join_jl, h1, h]
  have h5 := jl_inj _ _ (by simpa using h3) (by simpa using hq) (by simpa using h2) (by simpa using hf) h4
  have inj : ∀ (as bs : List Str), as.map (fun p => p.cps.toList) = bs.map (fun p => p.cps.toList) → as = bs := by
    intro as
    induction as with
    | nil => intro bs h; cases bs with
      | nil => rfl
      | cons b r => cases h
    | cons a r ih =>
      intro bs h
      cases bs with
      | nil => cases h
      | cons b t =>
        simp only [List.map_cons, List.cons.injEq] at h
        rw [str_ext h.1, ih t h.2]
  exact inj _ _ h5
noncomputable def okMark (mk : Nat) : Prop := mk = 124 ∨ mk = 33 ∨ mk = 40 ∨ mk = 34
theorem num_free {c : Nat} (hc : c < 48 ∧ c ≠ 45 ∨ 57 < c) (v : Nat) : c ∉ numL v := by
  unfold numL
  rw [KIN.signs_num]
  intro h
  obtain ⟨ch, hch, e⟩ := List.mem_map.mp h
  have r := digit_range (Nat.isDigit_of_mem_toDigits (by decide) (by decide) hch)
  have e : ch.toNat = c := e
  omega
theorem num_len {v : Nat} (hv : v < 2000) : 1 ≤ (numL v).length ∧ (numL v).length ≤ 10 := by
  have h2 : (Str.ofString (toString (v : Int))).length ≤ 10 := KT.len_num (by omega) (by omega)
  refine ⟨?_, by rw [len_toList] at h2; exact h2⟩
  unfold numL
  rw [KIN.signs_num, List.length_map]
  exact toDigits_len_ge 10 v
theorem from_nat (n i : Nat) : PySem.fromIndex n (i : Int) = i := by
  show (max (0 : Int) (if ((i : Int)) < 0 then _ else (i : Int))).toNat = _
  rw [if_neg (by omega)]
  omega
theorem find_pre {pre post : List Nat} {c i : Nat} (hc : c ∉ pre) (hi : i ≤ pre.length) : Txt.find3 ⟨(pre ++ c :: post).toArray⟩ ⟨#[c]⟩ (i : Int) = (pre.length : Int) := by
  have hl : (⟨(pre ++ c :: post).toArray⟩ : Str).length = pre.length + 1 + post.length := by simp [PySem.Str.length]; omega
  have hg : ∀ v, (⟨(pre ++ c :: post).toArray⟩ : Str).cps.getD v 0 = (pre ++ c :: post).getD v 0 := fun v => by simp [Array.getD, List.getD_eq_getElem?_getD]; split <;> simp_all
  have hat : (pre ++ c :: post).getD pre.length 0 = c := by simp [List.getD_eq_getElem?_getD]
  rcases StrLaws.find3_spec ⟨(pre ++ c :: post).toArray⟩ c (i : Int) with ⟨_, h⟩ | ⟨k, e, hk0, hk, hck, hmin⟩
  · exact absurd (by rw [hg]; exact hat) (h pre.length (by rw [from_nat]; exact hi) (by omega))
  · rw [e]
    rw [from_nat] at hk0 hmin
    have h1 : k ≤ pre.length := Nat.le_of_not_lt fun q => hmin pre.length hi q (by rw [hg]; exact hat)
    rcases Nat.lt_or_ge k pre.length with h2 | h2
    · rw [hg, List.getD_eq_getElem?_getD, List.getElem?_append_left h2, List.getElem?_eq_getElem h2] at hck
      exact absurd (hck ▸ List.getElem_mem h2) hc
    · have : k = pre.length := by omega
      rw [this]
theorem reply_list (mk v : Nat) : (replyS mk v).cps.toList = replyL mk v := rfl
theorem reply_len (mk v : Nat) : (replyL mk v).length = 10 + (numL v).length := by
  unfold replyL
  simp only [List.length_cons, List.length_append, List.length_nil]
  omega
theorem reply_len2 (mk v : Nat) : (replyS mk v).length = 10 + (numL v).length := by rw [len_toList, reply_list, reply_len]
section
variable {mk v : Nat}
theorem reply_find1 (hm : okMark mk) : Txt.find (replyS mk v) (Str.ofString "(") = 4 := by
  rw [find_is_find3]
  have h := find_pre (pre := [50, 50, 57, 32]) (post := mk :: mk :: mk :: (numL v ++ [mk, 41])) (c := 40) (i := 0) (by decide) (by decide)
  exact h
theorem reply_find2 (hm : okMark mk) : Txt.find3 (replyS mk v) (Str.ofString ")") (4 + 1) = ((9 + (numL v).length : Nat) : Int) := by
  have hn : 41 ∉ numL v := num_free (by omega) v
  have hm2 : 41 ≠ mk := by unfold okMark at hm; omega
  have h := find_pre (pre := [50, 50, 57, 32, 40, mk, mk, mk] ++ (numL v ++ [mk])) (post := []) (c := 41) (i := 5) (by
    intro q
    rcases List.mem_append.mp q with q | q
    · simp [hm2] at q
    · rcases List.mem_append.mp q with q | q
      · exact hn q
      · simp [hm2] at q) (by simp)
  have e1 : (⟨(([50, 50, 57, 32, 40, mk, mk, mk] ++ (numL v ++ [mk])) ++ 41 :: []).toArray⟩ : Str) = replyS mk v := by
    apply str_ext
    rw [reply_list]
    unfold replyL
    simp
  rw [e1] at h
  refine Eq.trans h ?_
  simp only [List.length_append, List.length_cons, List.length_nil]
  omega
theorem reply_slice3 : (Txt.slice (replyS mk v) none (some 3) != Str.ofString "229") = false := by
  rw [slice_to ⟨by decide, by rw [reply_list, reply_len]; omega⟩, reply_list]
  rfl
theorem reply_item {i c : Nat} (h : (replyL mk v)[i]? = some c) : Txt.item (replyS mk v) (i : Int) = ⟨#[c]⟩ := item_nat (by rw [reply_list]; exact h)
theorem reply_item5 : Txt.item (replyS mk v) (4 + 1) = ⟨#[mk]⟩ := reply_item (i := 5) rfl
theorem reply_items : (Txt.item (replyS mk v) (4 + 1) != Txt.item (replyS mk v) (((9 + (numL v).length : Nat) : Int) - 1)) = false := by
  have h : (replyL mk v)[8 + (numL v).length]? = some mk := by
    unfold replyL
    rw [show 8 + (numL v).length = (numL v).length + 8 by omega]
    simp
  have e := reply_item h
  rw [show (((9 + (numL v).length : Nat) : Int) - 1) = ((8 + (numL v).length : Nat) : Int) by omega, e, reply_item5]
  simp
theorem reply_split (hm : okMark mk) : Txt.split (Txt.slice (replyS mk v) (some (4 + 1)) (some ((9 + (numL v).length : Nat) : Int))) (Txt.item (replyS mk v) (4 + 1)) = [⟨#[]⟩, ⟨#[]⟩, ⟨#[]⟩, numS v, ⟨#[]⟩] := by
  have hn : mk ∉ numL v := num_free (by unfold okMark at hm; omega) v
  rw [reply_item5, slice_mid ⟨by decide, by omega, by rw [reply_list, reply_len]; omega⟩]
  refine split_eq (by simp) ?_ ?_
  · intro p hp
    simp only [List.mem_cons, List.not_mem_nil, or_false] at hp
    rcases hp with rfl | rfl | rfl | rfl | rfl
    · simp
    · simp
    · simp
    · exact hn
    · simp
  · rw [reply_list]
    have e : (((9 + (numL v).length : Nat) : Int) - (4 + 1)).toNat = 4 + (numL v).length := by omega
    rw [e]
    show [] ++ mk :: ([] ++ mk :: ([] ++ mk :: (numL v ++ mk :: []))) = List.take (4 + (numL v).length) (mk :: mk :: mk :: (numL v ++ [mk, 41]))
    rw [show 4 + (numL v).length = (numL v).length + 1 + 1 + 1 + 1 by omega, List.take_succ_cons, List.take_succ_cons, List.take_succ_cons, List.take_append]
    simp
    exact (List.take_of_length_le (by omega)).symm
theorem reply_num (hv : v < 2000) : PySem.intText? (numS v) = some (v : Int) := KIN.num_reads (by omega) (by omega)
theorem reply_reply (hm : okMark mk) (hv : v < 2000) : Reply (replyS mk v) := by
  have hl := num_len hv
  refine ⟨⟨_, reply_list mk v⟩, by rw [reply_len2]; omega, ?_⟩
  have hn : 39 ∉ numL v := num_free (by omega) v
  have hm2 : 39 ≠ mk := by unfold okMark at hm; omega
  rw [reply_list]
  unfold replyL
  simp [hn, hm2]
end
end Mine
namespace Mine
-- K3
open PySem PySem.W PyProof.Rows PySem.Spec PySem.Calls
set_option maxHeartbeats 8000000
section
variable {w : World} {p : Program} {loose : List Str} {mean : ExcName → Option Value} {mg mb : Str → Option Value}
section
variable {prog : Program} {A : Around} {E : Value → Shared → Prop} {s : Shared} {Q : Value → Shared → Prop} {x y : Str} {t u v : Tok} {i k : Int}
theorem find_k (h : Txt.find x y = k) (hq : Q (.int k s.toks) { s with toks := s.toks + 1 }) : wpAny (model prog w) A (call (.builtin "str.find") [.str x t, .str y u]) Q E s := SC.find (by rw [h]; exact hq)
theorem find3_k (h : Txt.find3 x y i = k) (hq : Q (.int k s.toks) { s with toks := s.toks + 1 }) : wpAny (model prog w) A (call (.builtin "str.find") [.str x t, .str y u, .int i v]) Q E s := SC.find3 (by rw [h]; exact hq)
end
section
variable {prog : Program} {A : Around} {E : Value → Shared → Prop} {s : Shared} {Q : Value → Shared → Prop} {x y : Str} {t u v : Tok} {h₀ : Heap} {L : Addr} {m : Str → Option Value} {news : Led} {a b c d e : Str}
theorem split_k5 (hF : Fr h₀ L s.heap m) (hN : News h₀ L s.heap news) (hy : (y.length == 0) = false) (hs : Txt.split x y = [a, b, c, d, e]) (hz : x.length ≤ 5000)
    (h : ∀ D t1 t2 t3 t4 t5 h' k, Fr h₀ L h' m → News h₀ L h' ((D, ⟨.type "list", none, .seq #[.str a t1, .str b t2, .str c t3, .str d t4, .str e t5] 0, #[]⟩) :: news) → (∀ p ∈ news, p.1 < D) → Q (.ref D) { s with heap := h', toks := k }) :
    wpAny (model prog w) A (call (.builtin "str.split") [.str x t, .str y u]) Q E s := by
  refine KSpl.split1 hF hN hy (fun D l h' k e' a' F' N' l1 => ?_) (le_sz2 hz)
  rw [hs] at e'
  obtain ⟨t1, r1, q1, e1⟩ := KSpl.cons_of e'
  obtain ⟨t2, r2, q2, e2⟩ := KSpl.cons_of e1
  obtain ⟨t3, r3, q3, e3⟩ := KSpl.cons_of e2
  obtain ⟨t4, r4, q4, e4⟩ := KSpl.cons_of e3
  obtain ⟨t5, r5, q5, e5⟩ := KSpl.cons_of e4
  have q6 := KSpl.nil_of e5
  subst q6 q5 q4 q3 q2 q1
  exact h D t1 t2 t3 t4 t5 h' k F' N' l1
end
theorem lines_K3_0 : True := by
  k_with_none
  k_with "lt" => first | with_reducible assumption | exact And.left (by with_reducible assumption) | exact And.left (And.right (by with_reducible assumption)) | exact And.left (And.right (And.right (by with_reducible assumption))) | exact And.left (And.right (And.right (And.right (by with_reducible assumption)))) | exact And.left (And.right (And.right (And.right (And.right (by with_reducible assumption)))))
  k_with "rl" => with_unfolding_all exact rfl
  k_with "omega" => first | (with_reducible exact om_room ‹_›) | (with_reducible exact om_le ‹_› (by k_extra "rl")) | (with_reducible exact om_ne1 (by k_extra "lt")) | lia
  k_with "kst_all" => repeat (first | exact names_nil | refine names_cons (by with_unfolding_all exact rfl) ?_)
  k_with "execs cons" => ((try k_gentoks); refine fold_sh ?_; intro _; first | (with_reducible refine exec_one ?_) | ((with_reducible refine execs_seq ?_); k_fold))
  k_with "SeqQ" => first | refine seq_next ?_ | refine seq_ret ?_ | refine seq_brk ?_ | refine seq_cont ?_
  k_with "exec If" => (with_reducible refine exec_if ?_)
  k_with "IfQ" => first | (refine ifq_no (by with_reducible assumption) ?_) | (refine ifq_yes (by with_reducible assumption) ?_) | (refine ifq_no (by decide) ?_) | (refine ifq_yes (by decide) ?_) | dsimp only [IfQ]
  k_with "storeName" => (k_dflt (refine' storeX_F ?Fzq ?Nzq ?_ ?azq ?bzq; (case Fzq => k_asm); (case Nzq => k_asm); (case azq => rfl); (case bzq => rfl); k_whole); intro _ _ _ _; (try k_sweep))
  k_with "call builtin:str.split" => (refine split_k5 (by k_asm) (by k_asm) rfl (by with_reducible assumption) (by omega) ?_; intro _ _ _ _ _ _ _ _ _ _ _)
  k_with "ite" => first | (refine ite_no (by with_reducible assumption) ?_) | (refine ite_yes (by with_reducible assumption) ?_) | (refine ite_no (by decide) ?_) | (refine ite_yes (by decide) ?_) | (refine ite_no (by rw [decide_eq_false_iff_not]; omega) ?_) | (refine ite_yes (by rw [decide_eq_true_eq]; omega) ?_)
  k_with "exec While" => refine hold ?_
  k_with "call builtin:str.find" => first | refine find_k (by with_reducible assumption) ?_ | refine find3_k (by with_reducible assumption) ?_
  trivial
theorem c_p229 (x D H : Str) (r n : Int) (tR tH tP : Tok) (pe : Addr) (pn : Int) (news : Led)
    (h1 : (Txt.slice x none (some 3) != Str.ofString "229") = false) (h2 : Txt.find x (Str.ofString "(") = 4) (h3 : Txt.find3 x (Str.ofString ")") (4 + 1) = r) (hr : 5 < r) (hr2 : r ≤ x.length) (hx : x.length ≤ 60)
    (h4 : (Txt.item x (4 + 1) != Txt.item x (r - 1)) = false) (h7 : Txt.split (Txt.slice x (some (4 + 1)) (some r)) (Txt.item x (4 + 1)) = [⟨#[]⟩, ⟨#[]⟩, ⟨#[]⟩, D, ⟨#[]⟩]) (h8 : PySem.intText? D = some n) (h9 : D.length ≤ 10) :
    CtrG w p loose mean mg mb (.ref 88) ((pe, ⟨.type "tuple", none, .seq #[.str H tH, .int pn tP] 0, #[]⟩) :: news) [.str x tR, .ref pe]
      (fun k => ∀ T t1 t2, AllLt T news → k (.ref T) ((T, ⟨.type "tuple", none, .seq #[.str H t1, .int n t2] 0, #[]⟩) :: (pe, ⟨.type "tuple", none, .seq #[.str H tH, .int pn tP] 0, #[]⟩) :: news)) (fun _ => True) := by
  intro dp un gd cn cs a ccd cl outer A₀ base h₀ L m s Q E B F X N T hk hd hu hret _
  dsimp only at hret
  refine wpAny_call ?_
  k_dflt cell_enter
  refine fold_env ?_
  intro AA en
  k_steps
  rename Fr h₀ L _ m => kF
  rename News h₀ L _ _ => kN

  exact hret _ _ _ (by first | assumption | exact And.right (by assumption) | exact And.right (And.right (by assumption)) | exact And.right (And.right (And.right (by assumption)))) _ _ kF (drop2 kN)
end
end Mine
namespace Mine
-- LwR
open PySem PySem.W PyProof.Rows PySem.Spec PySem.Calls
set_option maxHeartbeats 8000000
@[reducible] noncomputable def ls11 : {b : Stmt // lawSt 11 = b} := by refine' ⟨_, _⟩; rotate_left; conv => lhs; whnf
@[reducible] noncomputable def ls12 : {b : Stmt // lawSt 12 = b} := by refine' ⟨_, _⟩; rotate_left; conv => lhs; whnf
section
variable {w : World} {p : Program} {loose : List Str} {mean : ExcName → Option Value} {mg mb : Str → Option Value}
variable {dp un : Nat} {gd : Option (List Code)} {cn : Str} {a : Addr} {ccd : Value} {cP cM cK cZ cS : Addr} {outer : List Env} {A₀ : Around} {base h₀ : Heap} {L : Addr} {s : Shared} {Q : Flow → Shared → Prop} {E : Value → Shared → Prop} {m : Str → Option Value}
theorem lines_LwR_0 : True := by
  k_with_none
  k_with "lt" => first | with_reducible assumption | exact And.left (by with_reducible assumption) | exact And.left (And.right (by with_reducible assumption)) | exact And.left (And.right (And.right (by with_reducible assumption))) | exact And.left (And.right (And.right (And.right (by with_reducible assumption)))) | exact And.left (And.right (And.right (And.right (And.right (by with_reducible assumption)))))
  k_with "rl" => with_unfolding_all exact rfl
  k_with "omega" => first | (with_reducible exact om_room ‹_›) | (with_reducible exact om_le ‹_› (by k_extra "rl")) | (with_reducible exact om_ne1 (by k_extra "lt")) | lia
  k_with "mem_go" => first | with_reducible assumption | with_reducible exact List.mem_cons_self | (refine List.mem_cons_of_mem _ ?_; k_extra "mem_go")
  k_with "news_go" => first | k_extra "mem_go" | (rcases List.mem_cons.mp hq with hq | hq; (· subst hq; k_extra "mem_go"); (· k_extra "news_go"))
  k_with "subscriptTail Name Slice ref ref" => refine hold ?_
  k_with "call builtin:len" => refine hold ?_
  k_with "call builtin:min" => refine hold ?_
  k_with "call ref" => refine hold ?_
  k_with "binaryOp Add ref ref" => refine hold ?_
  k_with "eval Name" => (k_here; k_dflt (refine' nameX_L ?Fzq ?vzq ?_ ?azq ?bzq; (case Fzq => k_asm); (case azq => rfl); (case bzq => rfl); (case vzq => first | assumption | with_unfolding_all assumption); k_whole))
  k_with "compareOp NotEq ref ref" => refine hold ?_
  k_with "exec If" => refine exec_if ?_
  k_with "IfQ" => first | refine ifq_no (by with_reducible rfl) ?_ | refine ifq_yes (by with_reducible rfl) ?_ | refine hold ?_
  k_with "CompSrc" => refine hold ?_
  k_with "CompEnd" => refine hold ?_
  k_with "storeName" => (k_dflt (refine' storeX_F ?Fzq ?Nzq ?_ ?azq ?bzq; (case Fzq => k_asm); (case Nzq => k_asm); (case azq => rfl); (case bzq => rfl); k_whole); intro _ _ _ _; (try k_sweep))
  trivial
theorem st11 {W R : Addr} {us ws : List Value} {ss : List Str} {n1 n2 : Nat} {rest : Led} (B : Below A₀ base outer h₀) (X : (KF w.params).In h₀) (T : Top p loose mean mg mb h₀) (hd : dp + 500 < recursionLimit) (hu : un + 2500 < cLine) (F : Fr h₀ L s.heap m) (N : News h₀ L s.heap ((W, listOf ws.toArray n1) :: (R, listOf us.toArray n2) :: rest)) (m1 : m (Str.ofString "words") = some (.ref W)) (m2 : m (Str.ofString "replies") = some (.ref R)) (hv : StrsAre ws ss) (hu2 : StrsAre us ss) (hok : ∀ z ∈ ss, PyData.strOk z = true)
    (hQ : ∀ h' tk', Fr h₀ L h' m → News h₀ L h' ((W, listOf ws.toArray n1) :: (R, listOf us.toArray n2) :: rest) → Q .next { s with heap := h', toks := tk' }) :
    wpAny (model pw w) (ktrTop dp un gd cn fs49.1 L a ccd (lawCl cP cM cK cZ cS) outer) (exec ls11.1 (envX cn fs49.1 L a ccd (lawCl cP cM cK cZ cS))) Q E s := by
  refine fold_st ?_
  intro AA en
  k_steps
  unfold Hold
  refine ne_strs (News.isList N (.head _)) (News.isList N (.tail _ (.head _))) hv hu2 hok ?_ ?_
  · show un + _ < _
    omega
  k_steps
  exact hQ _ _ (by assumption) (by assumption)
noncomputable abbrev tupO (H : Str) (v : Int) (t1 t2 : Tok) : Obj := ⟨.type "tuple", none, .seq #[.str H t1, .int v t2] 0, #[]⟩
theorem st12 {W : Addr} {ws : List Value} {vs : List Nat} {n1 mk : Nat} {rest : Led} (B : Below A₀ base outer h₀) (X : (KF w.params).In h₀) (T : Top p loose mean mg mb h₀) (hd : dp + 500 < recursionLimit) (hu : un + 2500 < cLine) (F : Fr h₀ L s.heap m) (N : News h₀ L s.heap ((W, listOf ws.toArray n1) :: rest)) (m1 : m (Str.ofString "words") = some (.ref W)) (hv : StrsAre ws (vs.map fun k => replyS mk k)) (hm : okMark mk) (hvs : ∀ k ∈ vs, k < 2000) (hln : vs.length ≤ 20)
    (hQ : ∀ (D : Addr) (us : List Value) (n : Nat) (fr : Led) h' tk', us.length = vs.length → (∀ (j v : Nat), vs[j]? = some v → ∃ (T : Addr) (t1 t2 : Tok), us[j]? = some (Value.ref T) ∧ (T, tupO (Str.ofString "::1") v t1 t2) ∈ fr) → LCg.Off1 D (fr ++ (W, listOf ws.toArray n1) :: rest) → Fr h₀ L h' (fun y => if y = Str.ofString "told" then some (.ref D) else m y) → News h₀ L h' ((D, listOf us.toArray n) :: (fr ++ (W, listOf ws.toArray n1) :: rest)) → Q .next { s with heap := h', toks := tk' }) :
    wpAny (model pw w) (ktrTop dp un gd cn fs49.1 L a ccd (lawCl cP cM cK cZ cS) outer) (exec ls12.1 (envX cn fs49.1 L a ccd (lawCl cP cM cK cZ cS))) Q E s := by
  refine fold_st ?_
  intro AA en
  have hwl : ws.length = vs.length := hv.length.trans (List.length_map _)
  refine LCg.Assign_ListComp_U F rfl (by with_unfolding_all rfl) (by rfl) (by decide) (by rfl) (by decide) (by rfl) (by rfl) (by rfl) ?_
  k_steps
  unfold Hold
  refine LCg.CompSrc.ledger rfl F N (.head _) (by rw [List.size_toArray, hwl]; exact le_sz (by omega)) fun g => ?_
  refine comp_ind (fun i ys news => ∃ fr, ys.length = i ∧ (∀ (j v : Nat), j < i → vs[j]? = some v → ∃ (T : Addr) (t1 t2 : Tok), ys[j]? = some (Value.ref T) ∧ (T, tupO (Str.ofString "::1") v t1 t2) ∈ fr) ∧ news = fr ++ (W, listOf ws.toArray n1) :: rest) ws.toArray.size ?step ?fin ws.toArray.size 0 [] _ (Nat.zero_add _) ⟨[], rfl, fun _ _ h => absurd h (Nat.not_lt_zero _), rfl⟩
  case step =>
    rintro i zz news hi ⟨fr, hzl, hI, rfl⟩ v I oI C oC D m₂ h tk E' hv' hC hx F3 N3 off
    have hi2 : i < vs.length := by rw [List.size_toArray] at hi; omega
    obtain ⟨tw, hw⟩ := hv.get i _ (by rw [List.getElem?_map, List.getElem?_eq_getElem hi2]; rfl)
    have hv9 : ws[i]? = some v := by simpa using hv'
    rw [hw] at hv9
    cases hv9
    have hk2 := hvs _ (List.getElem_mem hi2)
    generalize hkv : vs[i] = k at hk2 hx
    have hnl := num_len hk2
    k_steps
    unfold Hold
    rename_i D9 h9 F10 N10 l11
    refine' c_p229 (replyS mk k) (numS k) (Str.ofString "::1") ((9 + (numL k).length : Nat) : Int) k tw tk (tk + 1) D9 21 _ reply_slice3 (reply_find1 hm) (reply_find2 hm) (by omega) (by rw [reply_len2]; omega) (by rw [reply_len2]; omega) reply_items (reply_split hm) (reply_num hk2) (by show (numL k).length ≤ 10; omega) _ _ _ _ _ _ _ _ _ _ _ _ _ _ _ _ _ ?k1 ?k2 ?k3 N10 ?k5 ?kK ?kd ?ku ?kR trivial
    case k1 => k_asm
    case k2 => k_asm
    case k3 => k_asm
    case k5 => k_asm
    case kK => exact rfl
    case kd => ktr_room
    case ku => ktr_units
    case kR =>
      intro T t1 t2 lT h5 tk5 F5 N5
      have lT2 := lt_allLt lT
      refine LCg.CompEnd.intro F5 N5 ((T, tupO (Str.ofString "::1") k t1 t2) :: (fr ++ (W, listOf ws.toArray n1) :: rest)) ?sub ⟨⟨Nat.ne_of_gt (lT2 _ (.head _)), Nat.ne_of_gt (lT2 _ (.tail _ (.head _))), Nat.ne_of_gt (lT2 _ (.tail _ (.tail _ (.head _))))⟩, off⟩ (.inr ⟨_, .tail _ (List.mem_append_right _ (.head _)), rfl, _, rfl⟩) ⟨(T, tupO (Str.ofString "::1") k t1 t2) :: fr, ?l1, ?l2, rfl⟩
      case sub => intro q hq; k_extra "news_go"
      case l1 => rw [List.length_append, hzl]; rfl
      case l2 =>
        intro j v hj hjv
        rcases Nat.lt_or_ge j i with h1 | h1
        · obtain ⟨T', a1, a2, e1, e2⟩ := hI j v h1 hjv
          exact ⟨T', a1, a2, by rw [List.getElem?_append_left (by omega)]; exact e1, .tail _ e2⟩
        · have : j = i := by omega
          subst this
          rw [List.getElem?_eq_getElem hi2, hkv] at hjv
          cases hjv
          exact ⟨T, t1, t2, by rw [List.getElem?_append_right (by omega), hzl]; simp, .head _⟩
  case fin =>
    rintro zz news ⟨fr, hzl, hI, rfl⟩
    intro D h tk F3 N3 off
    rw [List.size_toArray, hwl] at hzl hI
    exact hQ D zz _ fr h tk hzl (fun j v hj => hI j v (List.getElem?_eq_some_iff.mp hj).1 hj) off F3 N3
end
end Mine
namespace Mine
-- Cmp2
open PySem PySem.W PyProof.Rows PySem.Spec PySem.Calls
set_option maxHeartbeats 4000000
theorem lines_Cmp2_0 : True := by
  k_with_none
  k_with "lt" => first | with_reducible assumption | exact And.left (by with_reducible assumption) | exact And.left (And.right (by with_reducible assumption)) | exact And.left (And.right (And.right (by with_reducible assumption))) | exact And.left (And.right (And.right (And.right (by with_reducible assumption)))) | exact And.left (And.right (And.right (And.right (And.right (by with_reducible assumption)))))
  k_with "rl" => with_unfolding_all exact rfl
  k_with "omega" => first | (with_reducible exact om_room ‹_›) | (with_reducible exact om_le ‹_› (by k_extra "rl")) | (with_reducible exact om_ne1 (by k_extra "lt")) | lia
  trivial
section
variable {prog : Program} {w : World} {A : Around} {h₀ : Heap} {L : Addr} {m : Str → Option Value} {env : Env} {elt : Expr} {x x₂ : Str} {scope : Scope} {cl : List (Str × Addr)} {s : Shared} {S : Led → Prop} {P : Nat → Value → Prop} {Fin : List Value → Led → Prop}
theorem comp_indP (Inv : Nat → List Value → Led → Prop) (n : Nat)
    (step : ∀ i ys news, i < n → Inv i ys news → ∀ v, P i v → ∃ (t : Addr) (ot : Obj) (v₁ v₂ : Value) (nt : Nat), v = .ref t ∧ (t, ot) ∈ news ∧ ot.cls = .type "tuple" ∧ ot.data = .seq #[v₁, v₂] nt ∧
      ∀ I oI C oC D m₂ h tk (E' : Value → Shared → Prop), LCg.NsObj oC m₂ → m₂ x = some v₁ → m₂ x₂ = some v₂ → Fr h₀ L h m → News h₀ L h ((I, oI) :: (C, oC) :: (D, LCg.lst ys) :: news) → LCg.Off3 I C D news →
      wpAny (model prog w) A (eval elt (compEnvC scope cl C env)) (LCg.CompEnd h₀ L m { s with heap := h, toks := tk } I oI C oC D (LCg.lst ys) S (fun y news' => Inv (i + 1) (ys ++ [y]) news')) E' { s with heap := h, toks := tk })
    (fin : ∀ ys news, Inv n ys news → Fin ys news) : ∀ k i ys news, i + k = n → Inv i ys news → LCp.CompRestP prog w A h₀ L m env elt x x₂ scope cl s S P Fin k i ys news := by
  intro k
  induction k with
  | zero => intro i ys news hi h; subst hi; exact fin ys news h
  | succ k ih =>
    intro i ys news hi h
    refine LCp.CompRestP.succ fun v hv => ?_
    obtain ⟨t, ot, v1, v2, nt, e1, e2, e3, e4, r⟩ := step i ys news (by omega) h v hv
    refine ⟨t, ot, v1, v2, nt, e1, e2, e3, e4, fun I oI C oC D m₂ hh tk E' hC hx hx2 F N off _ => ?_⟩
    refine wpAny_mono (r I oI C oC D m₂ hh tk E' hC hx hx2 F N off) (fun y s' q => ?_) fun _ _ e => e
    obtain ⟨h', tk', news', e, F', N', off', hS, r⟩ := q
    exact ⟨h', tk', news', e, F', N', off', hS, ih (i + 1) _ news' (by omega) r⟩
end
end Mine
namespace Mine
-- LwS
open PySem PySem.W PyProof.Rows PySem.Spec PySem.Calls
set_option maxHeartbeats 8000000
@[reducible] noncomputable def ls13 : {b : Stmt // lawSt 13 = b} := by refine' ⟨_, _⟩; rotate_left; conv => lhs; whnf
@[reducible] noncomputable def ls14 : {b : Stmt // lawSt 14 = b} := by refine' ⟨_, _⟩; rotate_left; conv => lhs; whnf
theorem mul_any {prog : Program} {w : World} {A : Around} {E : Value → Shared → Prop} {s : Shared} {h₀ : Heap} {L : Addr} {m : Str → Option Value} {news : Led} {l : Addr} {vs : List Value} {x : Int} {u : Tok} {Q : Value → Shared → Prop} (Fm : Fr h₀ L s.heap m) (N : News h₀ L s.heap news) (hl : s.heap.IsList l vs.toArray) (hlo : 0 ≤ x) (hhi : x < 2 ^ 63) (hsz : vs.length * x.toNat ≤ 2 ^ 24)
    (h : ∀ D h', Fr h₀ L h' m → News h₀ L h' ((D, listOf (List.replicate x.toNat vs).flatten.toArray 0) :: news) → Q (.ref D) { s with heap := h' }) : wpAny (model prog w) A (binaryOp .Mult (.ref l) (.int x u)) Q E s := by
  obtain ⟨⟨cls, d, data, sl⟩, ho, hcl, k, hd⟩ := id hl
  simp only at hcl hd
  subst hcl hd
  have hz : vs.toArray.size * x.toNat ≤ 2 ^ 24 := by rw [List.size_toArray]; exact hsz
  refine wpAny_binaryOp_repeat_ref (T := "list") (U := "int") (by decide) ⟨_, ho, rfl⟩ (fun s' => typeIs_int s' x u) noFill_list_mul PySem.F.fills_int_mul PySem.F.slot_int_rmul repeat_list PySem.F.slot_int_index.lookup ?_
  refine call_meets PySem.F.slot_int_rmul (typeIs_int s x u) PySem.F.entry_int_rmul (PySem.F.args_int_rmul_2 _ _) (lm_int_rmul_list_any x u l vs.toArray k d sl) ⟨ho, rfl, ⟨_, ho, rfl⟩, ?_⟩
  refine call_meets PySem.F.slot_list_mul ⟨_, ho, rfl⟩ PySem.F.entry_list_mul (PySem.F.args_list_mul_2 _ _) (lm_list_mul_any l vs.toArray k d sl x u ?_ (by omega) ?_) ⟨ho, ?_⟩
  · simp [Builtin.List.listFitsIndex]; omega
  · simp [Builtin.List.listTooLong, sizeLine] at hz ⊢; omega
  · have N' := News.push Fm N { cls := Value.type "list", data := Data.seq (List.foldl (fun x1 x2 => x1 ++ x2) #[] (List.replicate (if vs.toArray.isEmpty = true then 0 else x.toNat) vs.toArray)) }
    rw [listMul_foldl_if] at N' ⊢
    exact h _ _ (Fm.push _) N'
theorem strs_rep {H : Str} {t : Tok} : ∀ k : Nat, StrsAre (List.replicate k [Value.str H t]).flatten (List.replicate k H)
  | 0 => .nil
  | k + 1 => .cons _ _ (strs_rep k)
section
variable {w : World} {p : Program} {loose : List Str} {mean : ExcName → Option Value} {mg mb : Str → Option Value}
variable {dp un : Nat} {gd : Option (List Code)} {cn : Str} {a : Addr} {ccd : Value} {cP cM cK cZ cS : Addr} {outer : List Env} {A₀ : Around} {base h₀ : Heap} {L : Addr} {s : Shared} {Q : Flow → Shared → Prop} {E : Value → Shared → Prop} {m : Str → Option Value}
theorem lines_LwS_0 : True := by
  k_with_none
  k_with "lt" => first | with_reducible assumption | exact And.left (by with_reducible assumption) | exact And.left (And.right (by with_reducible assumption)) | exact And.left (And.right (And.right (by with_reducible assumption))) | exact And.left (And.right (And.right (And.right (by with_reducible assumption)))) | exact And.left (And.right (And.right (And.right (And.right (by with_reducible assumption)))))
  k_with "rl" => with_unfolding_all exact rfl
  k_with "omega" => first | (with_reducible exact om_room ‹_›) | (with_reducible exact om_le ‹_› (by k_extra "rl")) | (with_reducible exact om_ne1 (by k_extra "lt")) | lia
  k_with "subscriptTail Name Slice ref ref" => refine hold ?_
  k_with "call builtin:len" => refine hold ?_
  k_with "call builtin:min" => refine hold ?_
  k_with "call ref" => refine hold ?_
  k_with "binaryOp Add ref ref" => refine hold ?_
  k_with "eval Name" => (k_here; k_dflt (refine' nameX_L ?Fzq ?vzq ?_ ?azq ?bzq; (case Fzq => k_asm); (case azq => rfl); (case bzq => rfl); (case vzq => first | assumption | with_unfolding_all assumption); k_whole))
  k_with "compareOp NotEq ref ref" => refine hold ?_
  k_with "exec If" => refine exec_if ?_
  k_with "IfQ" => first | refine ifq_no (by with_reducible rfl) ?_ | refine ifq_yes (by with_reducible rfl) ?_ | refine hold ?_
  k_with "SrcLP" => refine hold ?_
  k_with "CompEnd" => refine hold ?_
  k_with "binaryOp Mult ref int" => refine hold ?_
  k_with "eval ListComp" => (k_here; k_dflt (refine LCp.ListComp_P (F₀ := by k_asm) (by with_unfolding_all rfl) (by decide) (by rfl) (by decide) (by rfl) (by rfl) (by decide) ?_))
  k_with "storeName" => refine hold ?_
  trivial
noncomputable def TupsIn (us : List Value) (vs : List Nat) (led : Led) : Prop := us.length = vs.length ∧ ∀ (j v : Nat), vs[j]? = some v → ∃ (T : Addr) (t1 t2 : Tok), us[j]? = some (Value.ref T) ∧ (T, tupO (Str.ofString "::1") v t1 t2) ∈ led
theorem st13 {TD : Addr} {us : List Value} {vs : List Nat} {n n1 : Nat} {oZ : Obj} {tz : Tok} {rest : Led} (B : Below A₀ base outer h₀) (X : (KF w.params).In h₀) (T : Top p loose mean mg mb h₀) (hd : dp + 500 < recursionLimit) (hu : un + 2500 < cLine) (F : Fr h₀ L s.heap m) (N : News h₀ L s.heap ((TD, listOf us.toArray n1) :: (cZ, oZ) :: rest)) (m1 : m (Str.ofString "told") = some (.ref TD)) (hoZ : oZ.data = .cell (some (.int n tz))) (htu : TupsIn us vs rest) (hvl : vs.length = 2 * n) (hn : n ≤ 5)
    (hQ : ∀ h' tk', Fr h₀ L h' m → News h₀ L h' ((TD, listOf us.toArray n1) :: (cZ, oZ) :: rest) → Q .next { s with heap := h', toks := tk' }) :
    wpAny (model pw w) (ktrTop dp un gd cn fs49.1 L a ccd (lawCl cP cM cK cZ cS) outer) (exec ls13.1 (envX cn fs49.1 L a ccd (lawCl cP cM cK cZ cS))) Q E s := by
  refine fold_st ?_
  intro AA en
  k_steps
  unfold Hold
  refine LCp.SrcLP.ledger rfl F N (.head _) (by rw [List.size_toArray, htu.1]; exact le_sz (by omega)) fun g => ?_
  refine comp_indP (fun i ys news => StrsAre ys ((vs.take i).map fun _ => Str.ofString "::1") ∧ news = (TD, listOf us.toArray n1) :: (cZ, oZ) :: rest) us.toArray.size ?step ?fin us.toArray.size 0 [] _ (Nat.zero_add _) ⟨.nil, rfl⟩
  case step =>
    rintro i zz news hi ⟨hI, rfl⟩ v hv
    have hi2 : i < vs.length := by rw [List.size_toArray] at hi; have := htu.1; omega
    obtain ⟨T9, t1, t2, e1, e2⟩ := htu.2 i vs[i] (List.getElem?_eq_getElem hi2)
    have hv9 : us[i]? = some v := by simpa using hv
    rw [e1] at hv9
    cases hv9
    refine ⟨T9, tupO (Str.ofString "::1") (vs[i] : Nat) t1 t2, _, _, 0, rfl, .tail _ (.tail _ e2), rfl, rfl, fun I oI C oC D m₂ h tk E' hC hx hx2 F3 N3 off => ?_⟩
    k_steps
    unfold Hold
    refine LCg.CompEnd.intro F3 N3 _ (fun _ h => h) off (.inr ⟨_, .head _, rfl, _, rfl⟩) ⟨?_, rfl⟩
    rw [take_snoc (List.getElem?_eq_getElem hi2), List.map_append]
    exact strs_snoc hI
  case fin =>
    rintro zz news ⟨hI, rfl⟩
    intro D h tk F3 N3 off
    rw [List.take_of_length_le (by rw [List.size_toArray, htu.1]; exact Nat.le_refl _)] at hI
    k_steps
    unfold Hold
    rename Fr _ _ _ _ => F5
    rename News _ _ _ _ => N5
    refine mul_any (vs := [.str (Str.ofString "::1") tk]) F5 N5 (News.isList N5 (.head _)) (by omega) (by omega) (by rw [List.length_singleton]; omega) fun D6 h6 F6 N6 => ?_
    k_steps
    unfold Hold
    have hI : StrsAre zz (List.replicate (2 * n) (Str.ofString "::1")) := by rw [← hvl, ← List.map_const']; exact hI
    refine ne_strs (News.isList N6 (.tail _ (.tail _ (.head _)))) (News.isList N6 (.head _)) hI (by exact strs_rep (2 * n)) (fun z hz => by rw [(List.mem_replicate.mp hz).2]; decide +kernel) ?_ ?_
    · show un + _ < _
      omega
    k_steps
    exact hQ _ _ (by assumption) (fun q hq => (by assumption : News _ _ _ _) q (.tail _ (.tail _ (.tail _ hq))))
theorem st14 {TD : Addr} {us : List Value} {vs : List Nat} {n1 mo : Nat} {oM oP : Obj} {tm : Tok} {rest : Led} (B : Below A₀ base outer h₀) (X : (KF w.params).In h₀) (T : Top p loose mean mg mb h₀) (hd : dp + 500 < recursionLimit) (hu : un + 2500 < cLine) (F : Fr h₀ L s.heap m) (N : News h₀ L s.heap ((TD, listOf us.toArray n1) :: (cM, oM) :: (cP, oP) :: rest)) (m1 : m (Str.ofString "told") = some (.ref TD)) (hoM : oM.data = .cell (some (.int mo tm))) (hoP : oP.data = .cell none) (htu : TupsIn us vs rest) (hvl : vs.length ≤ 20) (hne1 : TD ≠ cP) (hne2 : cM ≠ cP) (hne3 : ∀ q ∈ rest, q.1 ≠ cP)
    (hQ : ∀ (PD : Addr) (ps : List Value) n o' h' tk', IntsAre ps (vs.map fun v : Nat => (v : Int) - mo) → o'.data = .cell (some (.ref PD)) → LCg.Off1 PD ((TD, listOf us.toArray n1) :: (cM, oM) :: (cP, oP) :: rest) → Fr h₀ L h' m → News h₀ L h' ((PD, listOf ps.toArray n) :: (TD, listOf us.toArray n1) :: (cM, oM) :: (cP, o') :: rest) → Q .next { s with heap := h', toks := tk' }) :
    wpAny (model pw w) (ktrTop dp un gd cn fs49.1 L a ccd (lawCl cP cM cK cZ cS) outer) (exec ls14.1 (envX cn fs49.1 L a ccd (lawCl cP cM cK cZ cS))) Q E s := by
  refine fold_st ?_
  intro AA en
  k_steps
  unfold Hold
  refine LCp.SrcLP.ledger rfl F N (.head _) (by rw [List.size_toArray, htu.1]; exact le_sz (by omega)) fun g => ?_
  refine comp_indP (fun i ys news => IntsAre ys ((vs.take i).map fun v : Nat => (v : Int) - mo) ∧ news = (TD, listOf us.toArray n1) :: (cM, oM) :: (cP, oP) :: rest) us.toArray.size ?step ?fin us.toArray.size 0 [] _ (Nat.zero_add _) ⟨.nil, rfl⟩
  case step =>
    rintro i zz news hi ⟨hI, rfl⟩ v hv
    have hi2 : i < vs.length := by rw [List.size_toArray] at hi; have := htu.1; omega
    obtain ⟨T9, t1, t2, e1, e2⟩ := htu.2 i vs[i] (List.getElem?_eq_getElem hi2)
    have hv9 : us[i]? = some v := by simpa using hv
    rw [e1] at hv9
    cases hv9
    refine ⟨T9, tupO (Str.ofString "::1") (vs[i] : Nat) t1 t2, _, _, 0, rfl, .tail _ (.tail _ (.tail _ e2)), rfl, rfl, fun I oI C oC D m₂ h tk E' hC hx hx2 F3 N3 off => ?_⟩
    k_steps
    unfold Hold
    refine LCg.CompEnd.intro F3 N3 _ (fun _ h => h) off (.inr ⟨_, .head _, rfl, _, rfl⟩) ⟨?_, rfl⟩
    rw [take_snoc (List.getElem?_eq_getElem hi2), List.map_append]
    exact ints_snoc hI
  case fin =>
    rintro zz news ⟨hI, rfl⟩
    intro D h tk F3 N3 off
    rw [List.take_of_length_le (by rw [List.size_toArray, htu.1]; exact Nat.le_refl _)] at hI
    k_steps
    unfold Hold
    refine storeX_C F3 N3 rfl (.tail (Ne.symm off.2.2.1) (.tail hne1 (.tail hne2 (.head hne3)))) hoP fun h2' o' F2 N2 d2 => ?_
    exact hQ D zz _ o' _ _ hI d2 off F2 N2
end
end Mine
namespace Mine
-- K8
open PySem PySem.W PyProof.Rows PySem.Spec PySem.Calls
set_option maxHeartbeats 8000000
section
variable {w : World} {p : Program} {loose : List Str} {mean : ExcName → Option Value} {mg mb : Str → Option Value}
theorem lines_K8_0 : True := by
  k_with_none
  k_with "lt" => first | with_reducible assumption | exact And.left (by with_reducible assumption) | exact And.left (And.right (by with_reducible assumption)) | exact And.left (And.right (And.right (by with_reducible assumption))) | exact And.left (And.right (And.right (And.right (by with_reducible assumption)))) | exact And.left (And.right (And.right (And.right (And.right (by with_reducible assumption)))))
  k_with "rl" => with_unfolding_all exact rfl
  k_with "omega" => first | (with_reducible exact om_room ‹_›) | (with_reducible exact om_le ‹_› (by k_extra "rl")) | (with_reducible exact om_ne1 (by k_extra "lt")) | lia
  k_with "k_all" => exact ne_allLt (by first | assumption | exact And.right (by assumption) | exact And.right (And.right (by assumption)) | exact And.right (And.right (And.right (by assumption))))
  k_with "kst_all" => repeat (first | exact names_nil | refine names_cons (by with_unfolding_all exact rfl) ?_)
  k_with "execs cons" => ((try k_gentoks); refine fold_sh ?_; intro _; first | (with_reducible refine exec_one ?_) | ((with_reducible refine execs_seq ?_); k_fold))
  k_with "SeqQ" => first | refine seq_next ?_ | refine seq_ret ?_ | refine seq_brk ?_ | refine seq_cont ?_
  k_with "exec If" => (with_reducible refine exec_if ?_)
  k_with "IfQ" => first | (refine ifq_no (by with_reducible assumption) ?_) | (refine ifq_yes (by with_reducible assumption) ?_) | (refine ifq_no (by decide) ?_) | (refine ifq_yes (by decide) ?_) | dsimp only [IfQ]
  k_with "storeName" => (k_dflt (refine' storeX_F ?Fzq ?Nzq ?_ ?azq ?bzq; (case Fzq => k_asm); (case Nzq => k_asm); (case azq => rfl); (case bzq => rfl); k_whole); intro _ _ _ _; (try k_sweep))
  k_with "exec For Name Call cons nil" => refine hold ?_
  k_with "exec While" => refine hold ?_
  k_with "pyIter ref" => refine hold ?_
  k_with "call type:range" => (k_dflt (refine' range1_rows ?Fzq ?Nzq ?_; (case Fzq => k_asm); (case Nzq => k_asm)); intro _ _ _ _ _ _ _ _ _)
  k_with "FPost" => first | refine fpost_next ?_ | refine fpost_ret ?_ | refine fpost_cont ?_ | refine fpost_brk ?_
  k_with "WPost" => first | refine wpost_next ?_ | refine wpost_ret ?_ | refine wpost_cont ?_ | refine wpost_brk ?_
  k_with "call builtin:list.append" => (k_dflt (refine' append_K ?Fzq ?Nzq ?Uzq ?_ ?zzq; (case Fzq => k_asm); (case Nzq => k_asm); (case Uzq => k_upd); (case zzq => (simp only [List.size_toArray]; exact le_sz (by omega)))); intro _ _ _)
  trivial
noncomputable def chase (ns : List Int) : Nat → List Int → Int → List Int
  | 0, ss, _ => ss
  | f + 1, ss, pl => if (ss.any fun x => x == pl) = true then ss else chase ns f (ss ++ [pl]) (ns.getD pl.toNat 0)
noncomputable def roundsAt (ns : List Int) : Nat → List Int × Int
  | 0 => ([], 0)
  | i + 1 => if ((roundsAt ns i).1.any fun x => x == (i : Int)) = true then roundsAt ns i else (chase ns (ns.length + 1 - (roundsAt ns i).1.length) (roundsAt ns i).1 i, (roundsAt ns i).2 + 1)
noncomputable def GoodS (n : Nat) (ss : List Int) : Prop := ss.Nodup ∧ ∀ x ∈ ss, 0 ≤ x ∧ x < (n : Int)
theorem good_len : ∀ (n : Nat) (ss : List Int), GoodS n ss → ss.length ≤ n
  | 0, [], _ => Nat.le_refl _
  | 0, x :: r, h => by have := h.2 x (List.Mem.head _); omega
  | n + 1, ss, h => by
    have hg : GoodS n (ss.erase (n : Int)) := by
      refine ⟨h.1.erase _, fun x hx => ?_⟩
      rw [h.1.mem_erase_iff] at hx
      have := h.2 x hx.2
      have := hx.1
      omega
    have h1 := good_len n _ hg
    have h2 : ss.length ≤ (ss.erase (n : Int)).length + 1 := by
      rw [List.length_erase]
      split <;> omega
    omega
theorem any_iff {ss : List Int} {p : Int} : (ss.any fun x => x == p) = true ↔ p ∈ ss := by
  simp
theorem good_snoc {n : Nat} {ss : List Int} {p : Int} (h : GoodS n ss) (hp : ¬ (ss.any fun x => x == p) = true) (h0 : 0 ≤ p) (h1 : p < n) : GoodS n (ss ++ [p]) := by
  rw [any_iff] at hp
  refine ⟨List.nodup_append.mpr ⟨h.1, by simp, ?_⟩, fun x hx => ?_⟩
  · intro a ha b hb e
    rw [List.mem_singleton.mp hb] at e
    exact hp (e ▸ ha)
  · rcases List.mem_append.mp hx with hx | hx
    · exact h.2 x hx
    · rw [List.mem_singleton.mp hx]; exact ⟨h0, h1⟩
theorem get_mem {ns : List Int} {p : Int} (h0 : 0 ≤ p) (h1 : p < ns.length) : ns.getD p.toNat 0 ∈ ns := by
  have hk : p.toNat < ns.length := by omega
  rw [List.getD_eq_getElem?_getD, List.getElem?_eq_getElem hk]
  exact List.getElem_mem _
theorem chase_good {ns : List Int} (hr : ∀ n ∈ ns, 0 ≤ n ∧ n < ns.length) : ∀ (f : Nat) (ss : List Int) (pl : Int), GoodS ns.length ss → 0 ≤ pl → pl < (ns.length : Int) → GoodS ns.length (chase ns f ss pl)
  | 0, _, _, h, _, _ => h
  | f + 1, ss, pl, h, h0, h1 => by
    unfold chase
    split
    · exact h
    · rename_i hq
      have := hr _ (get_mem h0 h1)
      exact chase_good hr f _ _ (good_snoc h hq h0 h1) this.1 this.2
theorem rounds_good {ns : List Int} (hr : ∀ n ∈ ns, 0 ≤ n ∧ n < ns.length) : ∀ i, i ≤ ns.length → GoodS ns.length (roundsAt ns i).1
  | 0, _ => ⟨List.nodup_nil, fun _ h => nomatch h⟩
  | i + 1, hi => by
    unfold roundsAt
    split
    · exact rounds_good hr i (by omega)
    · exact chase_good hr _ _ _ (rounds_good hr i (by omega)) (by omega) (by omega)
theorem c_rounds (l : Addr) (cap : Nat) (vs : List Value) (ns : List Int) (hv : IntsAre vs ns) (hn : ns.length ≤ 5) (hr : ∀ n ∈ ns, 0 ≤ n ∧ n < ns.length) (news : Led) : CtrV w p loose mean mg mb (.ref 890) ((l, ⟨.type "list", none, .seq vs.toArray cap, #[]⟩) :: news) [.ref l]
    (fun t => .int (roundsAt ns ns.length).2 t) := by
  intro dp un gd cn cs a ccd cl outer A₀ base h₀ L m s Q E B F X N T hk hd hu hret _
  dsimp only at hret
  refine wpAny_call ?_
  k_dflt cell_enter
  refine fold_env ?_
  intro AA en
  k_steps
  unfold Hold
  rename Fr _ _ _ _ => F2
  rename News _ _ _ _ => N2
  rename_i lo _ lL _ _ _
  refine my_for F2 rfl rfl ?_
  k_steps
  unfold Hold
  rename IsRange _ _ _ _ _ _ _ _ => hR
  rename Fr _ _ _ _ => F3
  rename News _ _ _ _ => N3
  refine' it_range (n := ns.length) (σ := List Value × Nat × Int × Tok) (fun c => (lo, listOf c.1.toArray c.2.1) :: (l, listOf vs.toArray cap) :: news)
    (fun c => [(Str.ofString "ports", .ref l), (Str.ofString "seen", .ref lo), (Str.ofString "rounds", .int c.2.2.1 c.2.2.2)])
    (fun i c => IntsAre c.1 (roundsAt ns i).1 ∧ c.2.2.1 = (roundsAt ns i).2) ⟨[], 0, 0, ?tr⟩
    rfl hR ?sm ?sz F3 N3 (fun p hp => hp) ?hk ?hp ?turn ?done
  case sm => exact small_one (by decide) (by decide) (by omega) (by omega)
  case sz => rw [rangeSize_nat]; omega
  case hk => kst_all
  case hp => exact ⟨.nil, rfl⟩
  case turn =>
    rintro i t ⟨vo, co, r, tr⟩ u h9 tk9 I it hi ⟨ho, hr9⟩ hI F9 N9
    refine fold_q ?_
    intro q9
    dsimp only at hI ho N9 hr9
    try dsimp only at F9
    refine fr_let F9 ?_
    clear F9
    intro m9 F9
    simp only [List.forall_mem_cons] at hI
    obtain ⟨hI1, hI3, hI4⟩ := hI
    have hI1 : @Ne Nat lo I := hI1
    have hI3 : @Ne Nat l I := hI3
    have hIall : ∀ o : Obj, ∀ p ∈ (lo, o) :: (l, listOf vs.toArray cap) :: news, p.1 ≠ I := by
      intro o p hp
      rcases List.mem_cons.mp hp with rfl | hp
      · exact hI1
      rcases List.mem_cons.mp hp with rfl | hp
      · exact hI3
      · exact hI4 p hp
    have hgood := rounds_good hr i (Nat.le_of_lt hi)
    generalize hss : (roundsAt ns i).1 = ss at ho hgood
    k_steps
    · have hz : (ss.any fun x => x == 0 + (i : Int)) = true := by assumption
      rw [Int.zero_add] at hz
      rename Fr _ _ _ _ => F8
      rename News _ _ _ _ => N8
      have hst : roundsAt ns (i + 1) = roundsAt ns i := by rw [roundsAt, if_pos (by rw [hss]; exact hz)]
      refine' f_end ⟨_, _, _, _⟩ F8 N8 (List.Mem.head _) (fun p hp => List.Mem.tail _ hp) (hIall _) ?hk1 ?hp1
      case hk1 => kst_all
      case hp1 => exact ⟨by rw [hst, hss]; exact ho, by rw [hst]; exact hr9⟩
    · have hz : (ss.any fun x => x == 0 + (i : Int)) = false := by assumption
      rw [Int.zero_add] at hz
      have hz2 : ¬ (ss.any fun x => x == (i : Int)) = true := by rw [hz]; exact Bool.false_ne_true
      have hst : roundsAt ns (i + 1) = (chase ns (ns.length + 1 - ss.length) ss i, (roundsAt ns i).2 + 1) := by rw [roundsAt, hss, if_neg hz2]
      unfold Hold
      rename Fr _ _ _ _ => F8
      rename News _ _ _ _ => N8
      refine' w_while (σ := List Value × Nat × Int × Tok × Tok) (fun c => (I, it) :: (lo, listOf c.1.toArray c.2.1) :: (l, listOf vs.toArray cap) :: news)
        (fun c => [(Str.ofString "ports", .ref l), (Str.ofString "seen", .ref lo), (Str.ofString "rounds", .int (r + 1) c.2.2.2.1), (Str.ofString "place", .int c.2.2.1 c.2.2.2.2)])
        (fun c => ∃ s2 : List Int, IntsAre c.1 s2 ∧ GoodS ns.length s2 ∧ 0 ≤ c.2.2.1 ∧ c.2.2.1 < ns.length ∧ chase ns (ns.length + 1 - s2.length) s2 c.2.2.1 = (roundsAt ns (i + 1)).1) (fun c => ns.length + 1 - c.1.length) ⟨vo, co, 0 + (i : Int), ?t1, ?t2⟩ F8 N8 (fun p hp => hp) ?hk2 ?hp2 ?turn2
      case hk2 => kst_all
      case hp2 => exact ⟨ss, ho, hgood, by dsimp only; omega, by dsimp only; omega, by dsimp only; rw [hst, Int.zero_add]⟩
      case turn2 =>
        rintro ⟨vo2, co2, pl, tr2, tp2⟩ u2 h8 tk8 ⟨s2, ho2, hg2, hp0, hp1, hch⟩ F7 N7
        refine fold_wq ?_
        intro q9
        dsimp only at ho2 hp0 hp1 hch N7
        dsimp only at F7
        refine fr_let F7 ?_
        clear F7
        intro m7 F7
        clear F8 N8
        have hl2 : vo2.length = s2.length := ho2.length
        have hle := good_len _ _ hg2
        have hfu : ns.length + 1 - s2.length = (ns.length - s2.length) + 1 := by omega
        k_steps
        · have hz : (s2.any fun x => x == pl) = true := by assumption
          rw [hfu, chase, if_pos hz] at hch
          rename Fr _ _ _ _ => F8
          rename News _ _ _ _ => N8
          refine' f_end ⟨_, _, _, _⟩ F8 N8 (List.Mem.head _) (fun p hp => List.Mem.tail _ hp) (hIall _) ?hk3 ?hp3
          case hk3 => kst_all
          case hp3 => exact ⟨by rw [← hch]; exact ho2, by rw [hst, ← hr9]⟩
        · have hz : (s2.any fun x => x == pl) = false := by assumption
          have hz2 : ¬ (s2.any fun x => x == pl) = true := by rw [hz]; exact Bool.false_ne_true
          rw [hfu, chase, if_neg hz2] at hch
          have hnx := hr _ (get_mem hp0 hp1)
          have hgs := good_snoc hg2 hz2 hp0 hp1
          have hlg := good_len _ _ hgs
          rw [List.length_append] at hlg
          have hlg2 : s2.length + 1 ≤ ns.length := hlg
          rename Fr _ _ _ _ => F8
          rename News _ _ _ _ => N8
          simp only [List.push_toArray] at N8
          refine' w_end ⟨_, _, _, _, _⟩ F8 N8 (fun p hp => hp) ?hk4 ?hp4 ?hm4
          case hk4 => kst_all
          case hp4 =>
            refine ⟨s2 ++ [pl], ints_snoc ho2, hgs, hnx.1, hnx.2, ?_⟩
            dsimp only
            rw [← hch, List.length_append, show ns.length + 1 - (s2.length + [pl].length) = ns.length - s2.length by simp only [List.length_cons, List.length_nil]; omega]
            rw [List.getD_eq_getElem?_getD]
            cases ns[pl.toNat]? <;> rfl
          case hm4 =>
            dsimp only
            rw [List.length_append, hl2]
            simp only [List.length_cons, List.length_nil]
            omega
  case done =>
    rintro ⟨vo, co, r, tr⟩ u h9 tk9 ⟨ho, hr9⟩ F9 N9
    dsimp only at ho N9 hr9
    try dsimp only at F9
    subst hr9
    k_steps
    exact hret tr _ _ (by assumption) (drop1 (by assumption))
end
end Mine
namespace Mine
-- LwU
open PySem PySem.W PyProof.Rows PySem.Spec PySem.Calls
set_option maxHeartbeats 1000000
@[reducible] noncomputable def ls15 : {b : Stmt // lawSt 15 = b} := by refine' ⟨_, _⟩; rotate_left; conv => lhs; whnf
section
variable {w : World} {p : Program} {loose : List Str} {mean : ExcName → Option Value} {mg mb : Str → Option Value}
variable {dp un : Nat} {gd : Option (List Code)} {cn : Str} {a : Addr} {ccd : Value} {cP cM cK cZ cS : Addr} {outer : List Env} {A₀ : Around} {base h₀ : Heap} {L : Addr} {s : Shared} {Q : Flow → Shared → Prop} {E : Value → Shared → Prop} {m : Str → Option Value}
theorem lines_LwU_0 : True := by
  k_with_none
  k_with "lt" => first | with_reducible assumption | exact And.left (by with_reducible assumption) | exact And.left (And.right (by with_reducible assumption)) | exact And.left (And.right (And.right (by with_reducible assumption))) | exact And.left (And.right (And.right (And.right (by with_reducible assumption)))) | exact And.left (And.right (And.right (And.right (And.right (by with_reducible assumption)))))
  k_with "rl" => with_unfolding_all exact rfl
  k_with "omega" => first | (with_reducible exact om_room ‹_›) | (with_reducible exact om_le ‹_› (by k_extra "rl")) | (with_reducible exact om_ne1 (by k_extra "lt")) | lia
  k_with "subscriptTail Name Slice ref ref" => refine hold ?_
  k_with "call builtin:len" => refine hold ?_
  k_with "call builtin:min" => refine hold ?_
  k_with "call ref" => refine hold ?_
  k_with "binaryOp Add ref ref" => refine hold ?_
  k_with "eval Name" => (k_here; k_dflt (refine' nameX_L ?Fzq ?vzq ?_ ?azq ?bzq; (case Fzq => k_asm); (case azq => rfl); (case bzq => rfl); (case vzq => first | assumption | with_unfolding_all assumption); k_whole))
  k_with "subscriptTail Name Name ref int" => refine hold ?_
  k_with "subscriptTail Name BinOp ref int" => refine hold ?_
  k_with "CompSrc" => refine hold ?_
  k_with "CompEnd" => refine hold ?_
  k_with "subscriptTail" => refine hold ?_
  k_with "call type:range" => (k_dflt (refine' range1_rows ?Fzq ?Nzq ?_; (case Fzq => k_asm); (case Nzq => k_asm)); intro _ _ _ _ _ _ _ _ _)
  k_with "eval ListComp" => (k_here; k_dflt (refine LCg.ListComp_U (F₀ := by k_asm) (by with_unfolding_all rfl) (by decide) (by rfl) (by decide) (by rfl) ?_))
  k_with "storeName" => (k_dflt (refine' storeX_F ?Fzq ?Nzq ?_ ?azq ?bzq; (case Fzq => k_asm); (case Nzq => k_asm); (case azq => rfl); (case bzq => rfl); k_whole); intro _ _ _ _; (try k_sweep))
  trivial
theorem st15 {PD : Addr} {ps : List Value} {p1 p2 : List Nat} {n np : Nat} {oZ oP : Obj} {tz : Tok} {rest : Led} (B : Below A₀ base outer h₀) (X : (KF w.params).In h₀) (T : Top p loose mean mg mb h₀) (hd : dp + 500 < recursionLimit) (hu : un + 2500 < cLine) (F : Fr h₀ L s.heap m) (N : News h₀ L s.heap ((PD, listOf ps.toArray np) :: (cZ, oZ) :: (cP, oP) :: rest)) (hoZ : oZ.data = .cell (some (.int n tz))) (hoP : oP.data = .cell (some (.ref PD))) (hps : IntsAre ps ((p1 ++ p2).map fun v : Nat => (v : Int))) (hn : n ≤ 5) (hl1 : p1.length = n) (hl2 : p2.length = n) (hp1 : ∀ k ∈ p1, k < n) (hp2 : ∀ k ∈ p2, k < n)
    (hQ : ∀ h' tk' t, Fr h₀ L h' (fun y => if y = Str.ofString "rounds" then some (.int (roundsAt ((p1.map fun x => p2.getD x 0).map fun v : Nat => (v : Int)) n).2 t) else m y) → News h₀ L h' ((PD, listOf ps.toArray np) :: (cZ, oZ) :: (cP, oP) :: rest) → Q .next { s with heap := h', toks := tk' }) :
    wpAny (model pw w) (ktrTop dp un gd cn fs49.1 L a ccd (lawCl cP cM cK cZ cS) outer) (exec ls15.1 (envX cn fs49.1 L a ccd (lawCl cP cM cK cZ cS))) Q E s := by
  refine fold_st ?_
  intro AA en
  k_steps
  unfold Hold
  rename IsRange _ _ _ _ _ _ _ _ => hR
  rename Fr _ _ _ _ => F2
  rename News _ _ _ _ => N2
  have hpl : ps.length = 2 * n := by rw [hps.length, List.length_map, List.length_append]; omega
  refine LCg.CompSrc.range (n := n) rfl F2 N2 hR (small_one (by decide) (by decide) (by omega) (by omega)) (by rw [rangeSize_nat]; omega) (le_sz (by omega)) fun g => ?_
  refine comp_ind (fun i ys news => IntsAre ys (((p1.take i).map fun x => p2.getD x 0).map fun v : Nat => (v : Int)) ∧ news = (PD, listOf ps.toArray np) :: (cZ, oZ) :: (cP, oP) :: rest) n ?step ?fin n 0 [] _ (Nat.zero_add _) ⟨.nil, rfl⟩
  case step =>
    rintro i zz news hi ⟨hI, rfl⟩ v I oI C oC D m₂ h tk E' ⟨t, rfl⟩ hC hx F3 N3 off
    rw [Int.zero_add] at hx
    have hk1 : p1[i]? = some p1[i] := List.getElem?_eq_getElem (by omega)
    have hlt := hp1 p1[i] (List.getElem_mem _)
    generalize p1[i] = k at hk1 hlt
    have hk2 : p2[k]? = some (p2.getD k 0) := by rw [List.getD_eq_getElem?_getD, List.getElem?_eq_getElem (by omega)]; rfl
    generalize hg : p2.getD k 0 = v at hk2
    obtain ⟨t1, e1⟩ := hps.get i (k : Int) (by rw [List.getElem?_map, List.getElem?_append_left (by omega), hk1]; rfl)
    obtain ⟨t2, e2⟩ := hps.get (n + k) (v : Int) (by rw [List.getElem?_map, List.getElem?_append_right (by omega), show n + k - p1.length = k by omega, hk2]; rfl)
    k_steps
    unfold Hold
    refine item_L (h₀ := h₀) (L := L) (k := (i : Int)) (items := ps) (n := np) (x := .int k t1) (news := (I, oI) :: (C, oC) :: (D, LCg.lst zz) :: (PD, listOf ps.toArray np) :: (cZ, oZ) :: (cP, oP) :: rest) ?Na (.tail _ (.tail _ (.tail _ (.head _)))) (by omega) (by omega) (by rw [Int.toNat_natCast]; exact e1) ?_
    case Na => exact N3
    k_steps
    unfold Hold
    refine item_L (h₀ := h₀) (L := L) (k := (n : Int) + (k : Int)) (items := ps) (n := np) (x := .int v t2) (news := (I, oI) :: (C, oC) :: (D, LCg.lst zz) :: (PD, listOf ps.toArray np) :: (cZ, oZ) :: (cP, oP) :: rest) ?Nb (.tail _ (.tail _ (.tail _ (.head _)))) (by omega) (by omega) (by rw [show (n : Int) + (k : Int) = ((n + k : Nat) : Int) by omega, Int.toNat_natCast]; exact e2) ?_
    case Nb => exact N3
    k_steps
    unfold Hold
    refine LCg.CompEnd.intro F3 N3 _ (fun _ h => h) off trivial ⟨?_, rfl⟩
    rw [take_snoc hk1, List.map_append, List.map_append]
    show IntsAre _ (_ ++ [((p2.getD k 0 : Nat) : Int)])
    rw [hg]
    exact ints_snoc hI
  case fin =>
    rintro zz news ⟨hI, rfl⟩
    intro D h tk F3 N3 off
    rw [List.take_of_length_le (by omega)] at hI
    have hrl : ((p1.map fun x => p2.getD x 0).map fun v : Nat => (v : Int)).length = n := by rw [List.length_map, List.length_map, hl1]
    k_steps
    unfold Hold
    refine' c_rounds D _ zz _ hI (by omega) ?hr _ _ _ _ _ _ _ _ _ _ _ _ _ _ _ _ _ _ ?k1 ?k2 ?k3 N3 ?k5 ?kK ?kd ?ku ?kR trivial
    case hr =>
      intro z hz
      rw [hrl]
      obtain ⟨x, hx, rfl⟩ := List.mem_map.mp hz
      obtain ⟨y, hy, rfl⟩ := List.mem_map.mp hx
      have h1 := hp1 y hy
      have : p2.getD y 0 = p2[y] := by rw [List.getD_eq_getElem?_getD, List.getElem?_eq_getElem (by omega)]; rfl
      have h2 := hp2 p2[y] (List.getElem_mem _)
      rw [this]
      omega
    case k1 => k_asm
    case k2 => exact F3
    case k3 => k_asm
    case k5 => k_asm
    case kK => exact rfl
    case kd => ktr_room
    case ku => ktr_units
    case kR =>
      intro t9 h9 tk9 F9 N9
      rw [hrl]
      k_steps
      exact hQ _ _ t9 (by assumption) (fun q hq => (by assumption : News _ _ _ _) q (.tail _ hq))
end
end Mine
namespace Mine
-- K2
open PySem PySem.W PyProof.Rows PySem.Spec PySem.Calls
set_option maxHeartbeats 8000000
section
variable {w : World} {p : Program} {loose : List Str} {mean : ExcName → Option Value} {mg mb : Str → Option Value}
noncomputable def p257 : List Nat → List Nat
  | [] => []
  | c :: r => if c = 34 then (match r with
      | [] => []
      | d :: r' => if d = 34 then 34 :: p257 r' else [])
    else c :: p257 r
theorem p257_q0 : p257 [34] = [] := by simp [p257]
theorem p257_q1 {d : Nat} {r : List Nat} (h : d ≠ 34) : p257 (34 :: d :: r) = [] := by simp [p257, h]
theorem p257_q2 {r : List Nat} : p257 (34 :: 34 :: r) = 34 :: p257 r := by simp [p257]
theorem p257_c {c : Nat} {r : List Nat} (h : c ≠ 34) : p257 (c :: r) = c :: p257 r := by
  cases r <;> simp [p257, h]
theorem of_q : Str.ofString "\"" = ⟨#[34]⟩ := by decide
theorem lines_K2_0 : True := by
  k_with_none
  k_with "lt" => first | with_reducible assumption | exact And.left (by with_reducible assumption) | exact And.left (And.right (by with_reducible assumption)) | exact And.left (And.right (And.right (by with_reducible assumption))) | exact And.left (And.right (And.right (And.right (by with_reducible assumption)))) | exact And.left (And.right (And.right (And.right (And.right (by with_reducible assumption)))))
  k_with "rl" => with_unfolding_all exact rfl
  k_with "omega" => first | (with_reducible exact om_room ‹_›) | (with_reducible exact om_le ‹_› (by k_extra "rl")) | (with_reducible exact om_ne1 (by k_extra "lt")) | lia
  k_with "kst_all" => repeat (first | exact names_nil | refine names_cons (by with_unfolding_all exact rfl) ?_)
  k_with "execs cons" => ((try k_gentoks); refine fold_sh ?_; intro _; first | (with_reducible refine exec_one ?_) | ((with_reducible refine execs_seq ?_); k_fold))
  k_with "SeqQ" => first | refine seq_next ?_ | refine seq_ret ?_ | refine seq_brk ?_ | refine seq_cont ?_
  k_with "exec If" => (with_reducible refine exec_if ?_)
  k_with "IfQ" => first | (refine ifq_no (by with_reducible assumption) ?_) | (refine ifq_yes (by with_reducible assumption) ?_) | (refine ifq_no (by decide) ?_) | (refine ifq_yes (by decide) ?_) | dsimp only [IfQ]
  k_with "storeName" => (k_dflt (refine' storeX_F ?Fzq ?Nzq ?_ ?azq ?bzq; (case Fzq => k_asm); (case Nzq => k_asm); (case azq => rfl); (case bzq => rfl); k_whole); intro _ _ _ _; (try k_sweep))
  k_with "ite" => first | (refine ite_no (by with_reducible assumption) ?_) | (refine ite_yes (by with_reducible assumption) ?_)
  k_with "exec While" => refine hold ?_
  k_with "WPost" => first | refine wpost_next ?_ | refine wpost_ret ?_ | refine wpost_cont ?_ | refine wpost_brk ?_
  k_with "binaryOp Add str str" => (refine PyProof.Rows.add_str ?_ (by refine le_sz ?_; simp only [len_mk, len_it]; omega); intro _ _)
  trivial
theorem c_p257 (x : Str) (body : List Nat) (hb : x.cps.toList = 50 :: 53 :: 55 :: 32 :: 34 :: body) (hx : x.length ≤ 100) (tR : Tok) (news : Led) : CtrV w p loose mean mg mb (.ref 95) news [.str x tR] (fun t => .str ⟨(p257 body).toArray⟩ t) := by
  intro dp un gd cn cs a ccd cl outer A₀ base h₀ L m s Q E B F X N T hk hd hu hret _
  dsimp only at hret
  have hs1 := slc1 hb
  have hs2 := slc2 hb
  have hlen : x.length = 5 + body.length := by rw [len_toList, hb]; simp; omega
  refine wpAny_call ?_
  k_dflt cell_enter
  refine fold_env ?_
  intro AA en
  k_steps
  unfold Hold
  rename Fr _ _ _ _ => F2
  rename News _ _ _ _ => N2
  refine' w_while (σ := Nat × List Nat × Tok × Tok × Tok × Tok) (fun _ => news) (fun c => [(Str.ofString "resp", .str x c.2.2.1), (Str.ofString "dirname", .str ⟨c.2.1.toArray⟩ c.2.2.2.1), (Str.ofString "i", .int c.1 c.2.2.2.2.1), (Str.ofString "n", .int x.length c.2.2.2.2.2)]) (fun c => 5 ≤ c.1 ∧ c.1 ≤ x.length ∧ c.2.1.length ≤ c.1 ∧ c.2.1 ++ p257 (x.cps.toList.drop c.1) = p257 body) (fun c => x.length - c.1) ⟨5, [], ?tr, ?td, ?ti, ?tn⟩ F2 N2 (fun _ h => h) ?hk ?hp ?turn
  case hk =>
    kst_all
  case hp => 
    refine ⟨Nat.le_refl _, ?_, ?_, ?_⟩
    · dsimp only; omega
    · simp
    · dsimp only; rw [hb]; rfl
  case turn =>
    clear F2 N2 hs1 hs2
    rintro ⟨i, d, tr, td, ti, tn⟩ u h9 tk9 ⟨hi1, hi2, hi4, hi3⟩ F9 N9
    refine fold_wq ?_
    intro q9
    dsimp only at hi1 hi2 hi3 hi4
    try dsimp only at F9
    refine fr_let F9 ?_
    clear F9
    intro m9 F9
    have hget : ∀ j, j < x.length → ∃ c, x.cps.toList[j]? = some c ∧ x.cps.toList.drop j = c :: x.cps.toList.drop (j + 1) := fun j hj => by
      have hj' : j < x.cps.toList.length := by rw [← len_toList]; exact hj
      exact ⟨x.cps.toList[j], List.getElem?_eq_getElem hj', List.drop_eq_getElem_cons hj'⟩
    have hnil : x.cps.toList.drop x.length = [] := by rw [len_toList]; exact List.drop_length
    k_steps
    · have h1 : (Txt.item x ↑i == Str.ofString "\"") = true := by assumption
      have h2 : (x.length : Int) ≤ ↑i + 1 := by assumption
      have h3 : (i : Int) < x.length := by assumption
      obtain ⟨c, hc, hdr⟩ := hget i (by omega)
      rw [item_nat hc, of_q, one_beq, decide_eq_true_eq] at h1
      have he : i + 1 = x.length := by omega
      rw [hdr, he, hnil, h1, p257_q0, List.append_nil] at hi3
      exact cb_retS hret (by rw [hi3]) (by assumption) (by assumption)
    · have h1 : (Txt.item x ↑i == Str.ofString "\"") = true := by assumption
      have h2 : ¬ (x.length : Int) ≤ ↑i + 1 := by assumption
      have h4 : (Txt.item x (↑i + 1) != Str.ofString "\"") = true := by assumption
      obtain ⟨c, hc, hdr⟩ := hget i (by omega)
      obtain ⟨c', hc', hdr'⟩ := hget (i + 1) (by omega)
      rw [item_nat hc, of_q, one_beq, decide_eq_true_eq] at h1
      have e1 : ((i : Int) + 1) = ((i + 1 : Nat) : Int) := by omega
      rw [e1, item_nat hc', of_q, bne, one_beq] at h4
      have h5 : c' ≠ 34 := by simpa using h4
      rw [hdr, h1, hdr', p257_q1 h5, List.append_nil] at hi3
      exact cb_retS hret (by rw [hi3]) (by assumption) (by assumption)
    · have h1 : (Txt.item x ↑i == Str.ofString "\"") = true := by assumption
      have h2 : ¬ (x.length : Int) ≤ ↑i + 1 := by assumption
      have h4 : (Txt.item x (↑i + 1) != Str.ofString "\"") = false := by assumption
      obtain ⟨c, hc, hdr⟩ := hget i (by omega)
      obtain ⟨c', hc', hdr'⟩ := hget (i + 1) (by omega)
      rw [item_nat hc, of_q, one_beq, decide_eq_true_eq] at h1
      have e1 : ((i : Int) + 1) = ((i + 1 : Nat) : Int) := by omega
      rw [e1, item_nat hc', of_q, bne, one_beq] at h4
      have h5 : c' = 34 := by simpa using h4
      have e2 : ((i : Int) + 1 + 1) = ((i + 2 : Nat) : Int) := by omega
      rw [hdr, h1, hdr', h5, p257_q2] at hi3
      rename Fr _ _ _ _ => F8
      rename News _ _ _ _ => N8
      refine' w_end ⟨i + 2, d ++ [c], ?tr1, ?td1, ?ti1, ?tn1⟩ F8 N8 (fun _ h => h) ?hk ?hp ?hm
      case hk => exact names_cons (by with_unfolding_all exact rfl) (names_cons (by rw [← mk_app, ← item_nat hc]; with_unfolding_all exact rfl) (names_cons (by rw [← e2]; with_unfolding_all exact rfl) (names_cons (by with_unfolding_all exact rfl) names_nil)))
      case hp =>
        refine ⟨by dsimp only; omega, by dsimp only; omega, by simp; omega, ?_⟩
        dsimp only
        rw [← hi3, h1, List.append_assoc]; rfl
      case hm => dsimp only; omega
    · have h1 : (Txt.item x ↑i == Str.ofString "\"") = false := by assumption
      have h3 : (i : Int) < x.length := by assumption
      obtain ⟨c, hc, hdr⟩ := hget i (by omega)
      rw [item_nat hc, of_q, one_beq, decide_eq_false_iff_not] at h1
      have e2 : ((i : Int) + 1) = ((i + 1 : Nat) : Int) := by omega
      rw [hdr, p257_c h1] at hi3
      rename Fr _ _ _ _ => F8
      rename News _ _ _ _ => N8
      refine' w_end ⟨i + 1, d ++ [c], ?tr2, ?td2, ?ti2, ?tn2⟩ F8 N8 (fun _ h => h) ?hk ?hp ?hm
      case hk => exact names_cons (by with_unfolding_all exact rfl) (names_cons (by rw [← mk_app, ← item_nat hc]; with_unfolding_all exact rfl) (names_cons (by rw [← e2]; with_unfolding_all exact rfl) (names_cons (by with_unfolding_all exact rfl) names_nil)))
      case hp =>
        refine ⟨by dsimp only; omega, by dsimp only; omega, by simp; omega, ?_⟩
        dsimp only
        rw [← hi3, List.append_assoc]; rfl
      case hm => dsimp only; omega
    · have h3 : ¬ (i : Int) < x.length := by assumption
      have he : i = x.length := by omega
      rw [he, hnil, show p257 [] = [] from rfl, List.append_nil] at hi3
      exact cb_retS hret (by rw [hi3]) (by assumption) (by assumption)
end
end Mine
namespace Mine
-- Rt10
open PySem PySem.W PyProof.Rows PySem.Spec PySem.Calls
set_option maxHeartbeats 8000000
section
variable {w : World} {p : Program} {loose : List Str} {mean : ExcName → Option Value} {mg mb : Str → Option Value}
theorem lines_Rt10_0 : True := by
  k_with_none
  k_with "lt" => first | with_reducible assumption | exact And.left (by with_reducible assumption) | exact And.left (And.right (by with_reducible assumption)) | exact And.left (And.right (And.right (by with_reducible assumption))) | exact And.left (And.right (And.right (And.right (by with_reducible assumption)))) | exact And.left (And.right (And.right (And.right (And.right (by with_reducible assumption)))))
  k_with "rl" => with_unfolding_all exact rfl
  k_with "omega" => first | (with_reducible exact om_room ‹_›) | (with_reducible exact om_le ‹_› (by k_extra "rl")) | (with_reducible exact om_ne1 (by k_extra "lt")) | lia
  k_with "call ref" => refine hold ?_
  k_with "call type:str" => refine hold ?_
  k_with "noteFrame ref" => refine hold ?_
  trivial
theorem c_lread (x : Str) (tR : Tok) (hx : x.length ≤ 2000) (news : Led) {k : Nat} {o : Option (List (List Nat))} (hL : Lx k .sp x.cps.toList o) (hz : k ≤ 3000) (hsane : sane .sp x.cps.toList)
    (dp un : Nat) (gd : Option (List Code)) (cn : Str) (cs : Scope) (a : Addr) (ccd : Value) (cl : List (Str × Addr)) (outer : List Env) (A₀ : Around) (base h₀ : Heap) (L : Addr) (m : Str → Option Value) (s : Shared) (Q E : Value → Shared → Prop)
    (B : Below A₀ base outer h₀) (F : Fr h₀ L s.heap m) (X : (KF w.params).In h₀) (N : News h₀ L s.heap news) (T : Top p loose mean mg mb h₀) (XB : (KF w.params).In base) (TB : Top p loose mean mg mb base) (D : KtsDicts (outer.filterMap (·.frame)) h₀) (hk : cs.kind = .function) (hd : dp + 380 < recursionLimit) (hu : un + 1700 < cLine)
    (hQ : ∀ ws, o = some ws → ∀ S us n' h₀' h' tk', (∀ q ∈ news, q.1 < S) → StrsAre us (ws.map strL) → KtsTurn (outer.filterMap (·.frame)) h₀ h₀' → Fr h₀' L h' m → News h₀' L h' ((S, listOf us.toArray n') :: news) → Below A₀ base outer h₀' → (KF w.params).In h₀' → Top p loose mean mg mb h₀' → KtsDicts (outer.filterMap (·.frame)) h₀' → Q (.ref S) { s with heap := h', toks := tk' })
    (hE : o = none → ∀ t h₀' h' tk', KtsTurn (outer.filterMap (·.frame)) h₀ h₀' → Fr h₀' L h' m → News h₀' L h' news → Below A₀ base outer h₀' → (KF w.params).In h₀' → Top p loose mean mg mb h₀' → KtsDicts (outer.filterMap (·.frame)) h₀' → Q (.str (Str.ofString "No closing quotation") t) { s with heap := h', toks := tk' }) :
    wpAny (model pw w) (ktrTop dp un gd cn cs L a ccd cl outer) (call (.ref 897) [.str x tR]) Q E s := by
  refine wpAny_call ?_
  k_dflt (refine' code_defX B F X N T XB TB D ?kA ?kF ?kK ?k6 ?k7 ?k8 ?k9 ?kB ?_ ?c2 ?c3 ?c4 ?c5; (case kA => exact rfl); (case kF => exact rfl); (case kK => exact hk); (case k6 => k_is); (case k7 => k_is); (case k8 => exact Nat.lt_of_le_of_lt (Nat.le_add_right dp 380) hd); (case k9 => exact BindsTo.of_eq rfl); (case kB => exact locs rfl); (case c2 => exact rfl); (case c3 => exact rfl); (case c4 => exact rfl); (case c5 => decide); k_whole)
  intro g1' L1 h1 FG1 F1 N1 B1 X1 T1 D1
  k_steps
  unfold Hold
  refine' c_split x _ hx news hL hz hsane _ _ _ _ _ _ _ _ _ _ _ _ _ _ _ _ _ B1 F1 X1 N1 T1 XB TB D1 ?kK ?kd ?ku ?kQ ?kE
  case kK => exact rfl
  case kd => exact room_of3 (n := 380) hd (by decide)
  case ku => exact room_of3 (n := 1700) hu (by decide)
  case kQ =>
    intro ws hw S us n' g' h' tk' hnl hu2 T2 F2 N2 B2 X2 P2 D2
    k_steps
    exact hQ ws hw S us n' _ _ _ hnl hu2 (by assumption) (by assumption) (by assumption) (by assumption) (by assumption) (by assumption) (by assumption)
  case kE =>
    intro ho e t u g h' tk' R' F' U'
    k_steps
    unfold Hold
    k_dflt (refine' caught_SB (T' := "ValueError") R' F' B1 U' XB TB D1 KtsTurn.refl ?ex PyProof.Rows.Boot.«ValueError» ?hn PySem.F.isExc_ValueError PySem.F.notTuple_ValueError ?hs ?_; (case ex => k_is); (case hn => decide); (case hs => kts_sub); k_whole)
    intro h6 g6 n6 tk6 T6 F6 N6 G6 M6 B6 X6 P6 D6
    k_steps
    unfold Hold
    refine str_got_one PySem.F.excStr_ValueError N6 G6 (by show un + 3 + 2 < cLine; exact room_of3 hu (by decide)) ?_
    k_steps
    exact hE ho _ _ _ _ (by assumption) (by assumption) (by assumption) (by assumption) (by assumption) (by assumption) (by assumption)
end
end Mine
namespace Mine
-- LwV
open PySem PySem.W PyProof.Rows PySem.Spec PySem.Calls
set_option maxHeartbeats 1000000
@[reducible] noncomputable def ls16 : {b : Stmt // lawSt 16 = b} := by refine' ⟨_, _⟩; rotate_left; conv => lhs; whnf
@[reducible] noncomputable def ls18 : {b : Stmt // lawSt 18 = b} := by refine' ⟨_, _⟩; rotate_left; conv => lhs; whnf
@[reducible] noncomputable def ls17 : {b : Stmt // lawSt 17 = b} := by refine' ⟨_, _⟩; rotate_left; conv => lhs; whnf
theorem marks_len (k : Nat) : (marksS k).length = k := by simp [marksS, PySem.Str.length]
section
variable {w : World} {p : Program} {loose : List Str} {mean : ExcName → Option Value} {mg mb : Str → Option Value}
variable {dp un : Nat} {gd : Option (List Code)} {cn : Str} {a : Addr} {ccd : Value} {cP cM cK cZ cS : Addr} {outer : List Env} {A₀ : Around} {base h₀ : Heap} {L : Addr} {s : Shared} {Q : Flow → Shared → Prop} {E : Value → Shared → Prop} {m : Str → Option Value}
theorem lines_LwV_0 : True := by
  k_with_none
  k_with "lt" => first | with_reducible assumption | exact And.left (by with_reducible assumption) | exact And.left (And.right (by with_reducible assumption)) | exact And.left (And.right (And.right (by with_reducible assumption))) | exact And.left (And.right (And.right (And.right (by with_reducible assumption)))) | exact And.left (And.right (And.right (And.right (And.right (by with_reducible assumption)))))
  k_with "rl" => with_unfolding_all exact rfl
  k_with "omega" => first | (with_reducible exact om_room ‹_›) | (with_reducible exact om_le ‹_› (by k_extra "rl")) | (with_reducible exact om_ne1 (by k_extra "lt")) | lia
  k_with "subscriptTail Name Slice ref ref" => refine hold ?_
  k_with "call builtin:lenX" => refine hold ?_
  k_with "call builtin:min" => refine hold ?_
  k_with "call ref" => refine hold ?_
  k_with "binaryOp Add ref ref" => refine hold ?_
  k_with "eval Name" => (k_here; k_dflt (refine' nameX_L ?Fzq ?vzq ?_ ?azq ?bzq; (case Fzq => k_asm); (case azq => rfl); (case bzq => rfl); (case vzq => first | assumption | with_unfolding_all assumption); k_whole))
  k_with "binaryOp Mult str int" => refine hold ?_
  k_with "binaryOp Add str str" => refine hold ?_
  k_with "storeName" => (k_dflt (refine' storeX_F ?Fzq ?Nzq ?_ ?azq ?bzq; (case Fzq => k_asm); (case Nzq => k_asm); (case azq => rfl); (case bzq => rfl); k_whole); intro _ _ _ _; (try k_sweep))
  trivial
theorem st16 {k : Nat} {tm : Tok} {rest : Led} (B : Below A₀ base outer h₀) (X : (KF w.params).In h₀) (T : Top p loose mean mg mb h₀) (hd : dp + 500 < recursionLimit) (hu : un + 2500 < cLine) (F : Fr h₀ L s.heap m) (N : News h₀ L s.heap rest) (m1 : m (Str.ofString "marks") = some (.str (marksS k) tm)) (hk : k ≤ 100)
    (hQ : ∀ h' tk' t, Fr h₀ L h' (fun y => if y = Str.ofString "half" then some (.str (marksS (k / 2)) t) else m y) → News h₀ L h' rest → Q .next { s with heap := h', toks := tk' }) :
    wpAny (model pw w) (ktrTop dp un gd cn fs49.1 L a ccd (lawCl cP cM cK cZ cS) outer) (exec ls16.1 (envX cn fs49.1 L a ccd (lawCl cP cM cK cZ cS))) Q E s := by
  refine fold_st ?_
  intro AA en
  have hml := marks_len k
  k_steps
  unfold Hold
  have hh : ((marksS k).length : Int).fdiv 2 = ((k / 2 : Nat) : Int) := by
    rw [hml, Int.fdiv_eq_ediv_of_nonneg _ (by decide)]
    omega
  rw [hh]
  have h6 : (Str.ofString "\"").length = 1 := rfl
  refine PySem.SB.mul ?hok ?_
  case hok =>
    refine ⟨by simp; omega, fun hn _ => ?_, fun _ _ => ?_⟩
    · rw [h6]
      have : 1 ≤ ((2 ^ 63 - 1 : Int)) / ((k / 2 : Nat) : Int) := Int.le_ediv_of_mul_le (by omega) (by omega)
      omega
    · rw [h6]
      show Builtin.Str.tooLong (1 * ((k / 2 : Nat) : Int).toNat) = false
      have h9 := le_sz (n := k / 2) (by omega)
      simp [Builtin.Str.tooLong]
      omega
  intro t9 k9
  have hmk : Txt.mul (Str.ofString "\"") ((k / 2 : Nat) : Int) = marksS (k / 2) := by
    apply str_ext
    have e : Str.ofString "\"" = ⟨#[34]⟩ := rfl
    rw [e, mul_one_list]
    rfl
  rw [hmk]
  k_steps
  exact hQ _ _ t9 (by assumption) (by assumption)
theorem st18 {k : Nat} {tm : Tok} {rest : Led} (B : Below A₀ base outer h₀) (X : (KF w.params).In h₀) (T : Top p loose mean mg mb h₀) (hd : dp + 500 < recursionLimit) (hu : un + 2500 < cLine) (F : Fr h₀ L s.heap m) (N : News h₀ L s.heap rest) (m1 : m (Str.ofString "marks") = some (.str (marksS k) tm)) (hk : k ≤ 80)
    (hQ : ∀ h' tk' t, Fr h₀ L h' (fun y => if y = Str.ofString "ended" then some (.str ⟨(p257 (List.replicate k 34 ++ [120])).toArray⟩ t) else m y) → News h₀ L h' rest → Q .next { s with heap := h', toks := tk' }) :
    wpAny (model pw w) (ktrTop dp un gd cn fs49.1 L a ccd (lawCl cP cM cK cZ cS) outer) (exec ls18.1 (envX cn fs49.1 L a ccd (lawCl cP cM cK cZ cS))) Q E s := by
  refine fold_st ?_
  intro AA en
  have hml := marks_len k
  have e5 : (Str.ofString "257 \"").length = 5 := rfl
  have e1 : (Str.ofString "x").length = 1 := rfl
  k_steps
  unfold Hold
  refine PyProof.Rows.add_str ?_ (le_sz (by (try simp only [len_app]); omega))
  intro _ _
  k_steps
  unfold Hold
  refine PyProof.Rows.add_str ?_ (le_sz (by (try simp only [len_app]); omega))
  intro t9 k9
  have hb : (Str.ofString "257 \"" ++ marksS k ++ Str.ofString "x").cps.toList = 50 :: 53 :: 55 :: 32 :: 34 :: (List.replicate k 34 ++ [120]) := by
    rw [app_list, app_list]
    rfl
  k_steps
  unfold Hold
  refine' c_p257 _ _ hb (by rw [len_app, len_app]; omega) t9 rest _ _ _ _ _ _ _ _ _ _ _ _ _ _ _ _ _ ?k1 ?k2 ?k3 N ?k5 ?kK ?kd ?ku ?kR trivial
  case k1 => k_asm
  case k2 => k_asm
  case k3 => k_asm
  case k5 => k_asm
  case kK => exact rfl
  case kd => ktr_room
  case ku => ktr_units
  case kR =>
    intro t10 h10 tk10 F10 N10
    k_steps
    exact hQ _ _ t10 (by assumption) (by assumption)
theorem st17 {k kk : Nat} {tm : Tok} {rest : Led} {o : Option (List (List Nat))} (B : Below A₀ h₀ [] h₀) (X : (KF w.params).In h₀) (T : Top p loose mean mg mb h₀) (hd : dp + 500 < recursionLimit) (hu : un + 2500 < cLine) (F : Fr h₀ L s.heap m) (N : News h₀ L s.heap rest) (m1 : m (Str.ofString "marks") = some (.str (marksS k) tm)) (hk : k ≤ 80) (hL : Lx kk .sp (List.replicate k 34 ++ [32, 120]) o) (hkk : kk ≤ 3000) (hsane : sane .sp (List.replicate k 34 ++ [32, 120]))
    (hQ1 : ∀ ws, o = some ws → ∀ (S : Addr) (us : List Value) (n : Nat) h' tk', StrsAre us (ws.map strL) → (∀ q ∈ rest, q.1 < S) → Fr h₀ L h' (fun y => if y = Str.ofString "read" then some (.ref S) else m y) → News h₀ L h' ((S, listOf us.toArray n) :: rest) → Q .next { s with heap := h', toks := tk' })
    (hQ2 : o = none → ∀ h' tk' t, Fr h₀ L h' (fun y => if y = Str.ofString "read" then some (.str (Str.ofString "No closing quotation") t) else m y) → News h₀ L h' rest → Q .next { s with heap := h', toks := tk' }) :
    wpAny (model pw w) (ktrTop dp un gd cn fs49.1 L a ccd (lawCl cP cM cK cZ cS) []) (exec ls17.1 (envX cn fs49.1 L a ccd (lawCl cP cM cK cZ cS))) Q E s := by
  refine fold_st ?_
  intro AA en
  have hml := marks_len k
  have e2 : (Str.ofString " x").length = 2 := rfl
  k_steps
  unfold Hold
  refine PyProof.Rows.add_str ?_ (le_sz (by omega))
  intro t9 k9
  have hb : (marksS k ++ Str.ofString " x").cps.toList = List.replicate k 34 ++ [32, 120] := by
    rw [app_list]
    rfl
  k_steps
  unfold Hold
  refine c_lread (marksS k ++ Str.ofString " x") t9 (by rw [len_app]; omega) rest (hb ▸ hL) hkk (hb ▸ hsane) _ _ _ _ _ _ _ _ _ _ _ _ _ _ _ _ _ B F X N T X T ktsDicts_nil rfl ?jd ?ju ?jQ ?jE
  case jd => ktr_room
  case ju => ktr_units
  case jQ =>
    intro ws9 e9 S vs n' h₀' h' tk' lS hvs ht F9 N9 B9 X9 T9 D9
    have F9 := turn_nil ht F9
    have N9 := turn_nil_news ht N9
    clear B9 X9 T9 D9
    k_steps
    rename_i h5 m5 F5 N5
    exact hQ1 ws9 e9 S vs n' _ _ hvs lS F5 N5
  case jE =>
    intro e9 t h₀' h' tk' ht F9 N9 B9 X9 T9 D9
    have F9 := turn_nil ht F9
    have N9 := turn_nil_news ht N9
    clear B9 X9 T9 D9
    k_steps
    rename_i h5 m5 F5 N5
    exact hQ2 e9 _ _ t F5 N5
end
end Mine
namespace Mine
-- LwX
open PySem PySem.W PyProof.Rows PySem.Spec PySem.Calls
set_option maxHeartbeats 1000000
@[reducible] noncomputable def ls19 : {b : Stmt // lawSt 19 = b} := by refine' ⟨_, _⟩; rotate_left; conv => lhs; whnf
@[reducible] noncomputable def ls20 : {b : Stmt // lawSt 20 = b} := by refine' ⟨_, _⟩; rotate_left; conv => lhs; whnf
section
variable {w : World} {p : Program} {loose : List Str} {mean : ExcName → Option Value} {mg mb : Str → Option Value}
variable {dp un : Nat} {gd : Option (List Code)} {cn : Str} {a : Addr} {ccd : Value} {cP cM cK cZ cS : Addr} {outer : List Env} {A₀ : Around} {base h₀ : Heap} {L : Addr} {s : Shared} {Q : Flow → Shared → Prop} {E : Value → Shared → Prop} {m : Str → Option Value}
theorem lines_LwX_0 : True := by
  k_with_none
  k_with "lt" => first | with_reducible assumption | exact And.left (by with_reducible assumption) | exact And.left (And.right (by with_reducible assumption)) | exact And.left (And.right (And.right (by with_reducible assumption))) | exact And.left (And.right (And.right (And.right (by with_reducible assumption)))) | exact And.left (And.right (And.right (And.right (And.right (by with_reducible assumption)))))
  k_with "rl" => with_unfolding_all exact rfl
  k_with "omega" => first | (with_reducible exact om_room ‹_›) | (with_reducible exact om_le ‹_› (by k_extra "rl")) | (with_reducible exact om_ne1 (by k_extra "lt")) | lia
  k_with "subscriptTail Name Slice ref ref" => refine hold ?_
  k_with "call builtin:len" => refine hold ?_
  k_with "call builtin:min" => refine hold ?_
  k_with "call ref" => refine hold ?_
  k_with "binaryOp Add ref ref" => refine hold ?_
  k_with "eval Name" => (k_here; k_dflt (refine' nameX_L ?Fzq ?vzq ?_ ?azq ?bzq; (case Fzq => k_asm); (case azq => rfl); (case bzq => rfl); (case vzq => first | assumption | with_unfolding_all assumption); k_whole))
  k_with "exec If" => refine exec_if ?_
  k_with "IfQ" => refine hold ?_
  k_with "compareOp Eq ref ref" => refine hold ?_
  k_with "binaryOp Add str str" => refine hold ?_
  k_with "storeName" => (k_dflt (refine' storeX_F ?Fzq ?Nzq ?_ ?azq ?bzq; (case Fzq => k_asm); (case Nzq => k_asm); (case azq => rfl); (case bzq => rfl); k_whole); intro _ _ _ _; (try k_sweep))
  trivial
theorem st19e {n : Nat} {r : Int} {oZ : Obj} {tz tr : Tok} {rest : Led} (B : Below A₀ base outer h₀) (X : (KF w.params).In h₀) (T : Top p loose mean mg mb h₀) (hd : dp + 500 < recursionLimit) (hu : un + 2500 < cLine) (F : Fr h₀ L s.heap m) (N : News h₀ L s.heap ((cZ, oZ) :: rest)) (hoZ : oZ.data = .cell (some (.int n tz))) (m1 : m (Str.ofString "rounds") = some (.int r tr)) (hpar : ((n : Int) - r).fmod 2 = 0)
    (hQ : ∀ h' tk', Fr h₀ L h' m → News h₀ L h' ((cZ, oZ) :: rest) → Q .next { s with heap := h', toks := tk' }) :
    wpAny (model pw w) (ktrTop dp un gd cn fs49.1 L a ccd (lawCl cP cM cK cZ cS) outer) (exec ls19.1 (envX cn fs49.1 L a ccd (lawCl cP cM cK cZ cS))) Q E s := by
  refine fold_st ?_
  intro AA en
  k_steps
  unfold Hold
  refine ifq_no ?_ ?_
  · rw [hpar]; rfl
  k_steps
  exact hQ _ _ (by assumption) (by assumption)
theorem st19o {n : Nat} {r : Int} {oZ : Obj} {tz tr t1 t2 t3 : Tok} {rest : Led} {x : Str} (B : Below A₀ base outer h₀) (X : (KF w.params).In h₀) (T : Top p loose mean mg mb h₀) (hd : dp + 500 < recursionLimit) (hu : un + 2500 < cLine) (F : Fr h₀ L s.heap m) (N : News h₀ L s.heap ((cZ, oZ) :: rest)) (hoZ : oZ.data = .cell (some (.int n tz))) (m1 : m (Str.ofString "rounds") = some (.int r tr)) (hpar : ((n : Int) - r).fmod 2 = 1) (m2 : m (Str.ofString "read") = some (.str (Str.ofString "No closing quotation") t1)) (m3 : m (Str.ofString "ended") = some (.str x t2)) (m4 : m (Str.ofString "half") = some (.str x t3))
    (hQ : ∀ h' tk', Fr h₀ L h' m → News h₀ L h' ((cZ, oZ) :: rest) → Q (.ret (.bool true)) { s with heap := h', toks := tk' }) :
    wpAny (model pw w) (ktrTop dp un gd cn fs49.1 L a ccd (lawCl cP cM cK cZ cS) outer) (exec ls19.1 (envX cn fs49.1 L a ccd (lawCl cP cM cK cZ cS))) Q E s := by
  refine fold_st ?_
  intro AA en
  k_steps
  unfold Hold
  refine ifq_yes ?_ ?_
  · rw [hpar]; rfl
  k_steps
  show Q (.ret (.bool (x == x))) _
  rw [beq_self_eq_true]
  exact hQ _ _ (by assumption) (by assumption)
theorem st20 {S : Addr} {us : List Value} {k n1 : Nat} {t1 t2 t3 : Tok} {rest : Led} {x : Str} (B : Below A₀ base outer h₀) (X : (KF w.params).In h₀) (T : Top p loose mean mg mb h₀) (hd : dp + 500 < recursionLimit) (hu : un + 2500 < cLine) (F : Fr h₀ L s.heap m) (N : News h₀ L s.heap ((S, listOf us.toArray n1) :: rest)) (m2 : m (Str.ofString "read") = some (.ref S)) (hv : StrsAre us (if k = 0 then [Str.ofString "x"] else [Str.ofString "", Str.ofString "x"])) (m1 : m (Str.ofString "marks") = some (.str (marksS k) t1)) (m3 : m (Str.ofString "ended") = some (.str (x ++ Str.ofString "x") t2)) (m4 : m (Str.ofString "half") = some (.str x t3)) (hx : x.length ≤ 100) (hk : k ≤ 100)
    (hQ : ∀ h' tk', Fr h₀ L h' m → News h₀ L h' rest → Q (.ret (.bool true)) { s with heap := h', toks := tk' }) :
    wpAny (model pw w) (ktrTop dp un gd cn fs49.1 L a ccd (lawCl cP cM cK cZ cS) outer) (exec ls20.1 (envX cn fs49.1 L a ccd (lawCl cP cM cK cZ cS))) Q E s := by
  refine fold_st ?_
  intro AA en
  by_cases h0 : k = 0
  · have hc : (marksS k != Str.ofString "") = false := by subst h0; decide +kernel
    rw [if_pos h0] at hv
    k_steps
    unfold Hold
    rename Fr _ _ _ _ => F5
    rename News _ _ _ _ => N5
    refine kmk_add_lit F5 N5 (News.isList N5 (.tail _ (.head _))) (News.isList N5 (.head _)) rfl ?_ ?_
    rotate_left
    · exact Nat.le_of_ble_eq_true rfl
    intro D6 h6 F6 N6 l6
    k_steps
    unfold Hold
    refine eq_strs (ns := [Str.ofString "x"]) (News.isList N6 (.tail _ (.tail _ (.tail _ (.head _))))) (News.isList N6 (.head _)) hv (by first | exact .cons _ _ .nil | exact .cons _ _ (.cons _ _ .nil)) (by decide +kernel) ?_ ?_
    · show un + _ < _
      omega
    k_steps
    unfold Hold
    refine PyProof.Rows.add_str ?_ (le_sz (by rw [show (Str.ofString "x").length = 1 from rfl]; omega))
    intro _ _
    k_steps
    rw [beq_self_eq_true]
    exact hQ _ _ (by assumption) (fun q hq => (by assumption : News _ _ _ _) q (.tail _ (.tail _ (.tail _ (.tail _ hq)))))
  · have hc : (marksS k != Str.ofString "") = true := by
      rw [bne_iff_ne]
      intro e
      have := congrArg Str.length e
      rw [marks_len] at this
      exact h0 this
    rw [if_neg h0] at hv
    k_steps
    unfold Hold
    rename Fr _ _ _ _ => F5
    rename News _ _ _ _ => N5
    refine kmk_add_lit F5 N5 (News.isList N5 (.tail _ (.head _))) (News.isList N5 (.head _)) rfl ?_ ?_
    rotate_left
    · exact Nat.le_of_ble_eq_true rfl
    intro D6 h6 F6 N6 l6
    k_steps
    unfold Hold
    refine eq_strs (ns := [Str.ofString "", Str.ofString "x"]) (News.isList N6 (.tail _ (.tail _ (.tail _ (.head _))))) (News.isList N6 (.head _)) hv (by first | exact .cons _ _ .nil | exact .cons _ _ (.cons _ _ .nil)) (by decide +kernel) ?_ ?_
    · show un + _ < _
      omega
    k_steps
    unfold Hold
    refine PyProof.Rows.add_str ?_ (le_sz (by rw [show (Str.ofString "x").length = 1 from rfl]; omega))
    intro _ _
    k_steps
    rw [beq_self_eq_true]
    exact hQ _ _ (by assumption) (fun q hq => (by assumption : News _ _ _ _) q (.tail _ (.tail _ (.tail _ (.tail _ hq)))))
end
end Mine
namespace Mine
-- PlawT

noncomputable def perms : List Nat → List (List Nat)
  | [] => [[]]
  | x :: xs => (perms xs).flatMap fun p => (List.range (p.length + 1)).map fun i => p.take i ++ x :: p.drop i
noncomputable def invn (o : List Nat) : Nat := ((List.range o.length).map fun h => ((List.range h).map fun l => if o.idxOf h < o.idxOf l then 1 else 0).sum).sum
noncomputable def chaseN (ns : List Nat) : Nat → List Nat → Nat → List Nat
  | 0, ss, _ => ss
  | f + 1, ss, pl => if ss.contains pl then ss else chaseN ns f (ss ++ [pl]) (ns.getD pl 0)
noncomputable def cycs (ns : List Nat) : Nat → List Nat × Nat
  | 0 => ([], 0)
  | i + 1 => if (cycs ns i).1.contains i then cycs ns i else (chaseN ns (ns.length + 1 - (cycs ns i).1.length) (cycs ns i).1 i, (cycs ns i).2 + 1)
noncomputable def swapAt (l : List Nat) (i : Nat) : List Nat := (l.set i (l.getD (i + 1) 0)).set (i + 1) (l.getD i 0)
-- the word of p: for each value from the left, the swaps that bring it there
noncomputable def wordOf : Nat → List Nat → List Nat → List Nat
  | 0, _, _ => []
  | f + 1, cur, p => match (List.range (p.length - 1)).find? fun i => p.idxOf (cur.getD (i + 1) 0) < p.idxOf (cur.getD i 0) with
    | none => []
    | some i => i :: wordOf f (swapAt cur i) p
noncomputable def word (p : List Nat) : List Nat := wordOf 20 (List.range p.length) p
noncomputable def chkA (n : Nat) : Bool := (perms (List.range n)).all fun r => (invn r + (cycs r n).2) % 2 == n % 2
noncomputable def chkB (n : Nat) : Bool := (perms (List.range n)).all fun q => (List.range (n - 1)).all fun i => (invn (swapAt q i) + invn q) % 2 == 1 && (perms (List.range n)).contains (swapAt q i)
noncomputable def chkC (n : Nat) : Bool := (perms (List.range n)).all fun p => (word p).foldl swapAt (List.range n) == p && (word p).length % 2 == invn p % 2 && (word p).all (· < n - 1)
theorem swap_len (l : List Nat) (i : Nat) : (swapAt l i).length = l.length := by simp [swapAt]
theorem getD_map {f : Nat → Nat} {l : List Nat} {j : Nat} (h : j < l.length) : (l.map f).getD j 0 = f (l.getD j 0) := by
  simp [List.getD_eq_getElem?_getD, List.getElem?_eq_getElem h]
theorem swap_map {f : Nat → Nat} {l : List Nat} {i : Nat} (h : i + 1 < l.length) : (swapAt l i).map f = swapAt (l.map f) i := by
  unfold swapAt
  rw [List.map_set, List.map_set, getD_map h, getD_map (Nat.lt_of_succ_lt h)]
theorem fold_map {f : Nat → Nat} : ∀ (w l : List Nat), (∀ i ∈ w, i + 1 < l.length) → (w.foldl swapAt l).map f = w.foldl swapAt (l.map f)
  | [], l, _ => rfl
  | i :: w, l, h => by
    rw [List.foldl_cons, List.foldl_cons, fold_map w (swapAt l i) (fun j hj => by rw [swap_len]; exact h j (List.mem_cons_of_mem _ hj)), swap_map (h i List.mem_cons_self)]
theorem range_map (q : List Nat) : (List.range q.length).map (fun x => q.getD x 0) = q := by
  apply List.ext_getElem
  · simp
  · intro i h1 h2
    simp [List.getD_eq_getElem?_getD, List.getElem?_eq_getElem h2]
theorem fold_inv {n : Nat} (hB : chkB n = true) : ∀ (w q : List Nat), q ∈ perms (List.range n) → (∀ i ∈ w, i < n - 1) → (invn (w.foldl swapAt q) + invn q) % 2 = w.length % 2 ∧ w.foldl swapAt q ∈ perms (List.range n)
  | [], q, hq, _ => ⟨by simp; lia, hq⟩
  | i :: w, q, hq, h => by
    have h1 := List.all_eq_true.mp (List.all_eq_true.mp hB q hq) i (List.mem_range.mpr (h i List.mem_cons_self))
    simp only [Bool.and_eq_true, beq_iff_eq, List.contains_iff_mem] at h1
    have ih := fold_inv hB w (swapAt q i) h1.2 (fun j hj => h j (List.mem_cons_of_mem _ hj))
    rw [List.foldl_cons, List.length_cons]
    exact ⟨by lia, ih.2⟩
theorem cyc_le : ∀ (ns : List Nat) (k : Nat), (cycs ns k).2 ≤ k
  | ns, 0 => Nat.le_refl _
  | ns, k + 1 => by
    have ih := cyc_le ns k
    rw [cycs]
    split
    · lia
    · show (cycs ns k).2 + 1 ≤ k + 1
      lia
theorem law_parity {n : Nat} (hA : chkA n = true) (hB : chkB n = true) (hC : chkC n = true) {p q : List Nat} (hp : p ∈ perms (List.range n)) (hq : q ∈ perms (List.range n)) (hpl : p.length = n) (hql : q.length = n) (hn : 1 ≤ n) :
    (invn p + invn q) % 2 = (n - (cycs (p.map fun x => q.getD x 0) n).2) % 2 := by
  have hc := List.all_eq_true.mp hC p hp
  simp only [Bool.and_eq_true, beq_iff_eq, List.all_eq_true, decide_eq_true_eq] at hc
  obtain ⟨⟨hw, hwl⟩, hwi⟩ := hc
  have e1 : p.map (fun x => q.getD x 0) = (word p).foldl swapAt q := by
    have := fold_map (f := fun x => q.getD x 0) (word p) (List.range n) (fun i hi => by rw [List.length_range]; have := hwi i hi; lia)
    rw [hw] at this
    rw [this]
    congr 1
    rw [← hql]; exact range_map q
  have h2 := fold_inv hB (word p) q hq hwi
  have h3 := List.all_eq_true.mp hA _ h2.2
  simp only [beq_iff_eq] at h3
  rw [e1]
  have h4 := cyc_le ((word p).foldl swapAt q) n
  lia
end Mine
namespace Mine
-- LwY
open PySem PySem.W PyProof.Rows PySem.Spec PySem.Calls
set_option maxHeartbeats 1000000
theorem lines_LwY_0 : True := by
  k_with_none
  k_with "lt" => first | with_reducible assumption | exact And.left (by with_reducible assumption) | exact And.left (And.right (by with_reducible assumption)) | exact And.left (And.right (And.right (by with_reducible assumption))) | exact And.left (And.right (And.right (And.right (by with_reducible assumption)))) | exact And.left (And.right (And.right (And.right (And.right (by with_reducible assumption)))))
  k_with "rl" => with_unfolding_all exact rfl
  k_with "omega" => first | (with_reducible exact om_room ‹_›) | (with_reducible exact om_le ‹_› (by k_extra "rl")) | (with_reducible exact om_ne1 (by k_extra "lt")) | lia
  trivial
-- ordOf of as many numbers as things is a permutation of them
theorem ord_perm : ∀ (xs : List Int) (rs : List Nat), xs.length = rs.length → ∃ p : List Nat, p.Perm rs ∧ ordOf xs (rs.map fun k : Nat => (k : Int)) = p.map fun k : Nat => (k : Int)
  | [], [], _ => ⟨[], .nil, rfl⟩
  | x :: xs, r :: rs, h => by
    have hpos : 0 < (r :: rs).length := Nat.zero_lt_succ _
    generalize hR : r :: rs = R at h hpos
    have h0 : 0 ≤ x.fmod (R.length : Int) := Int.fmod_nonneg_of_pos _ (by omega)
    have h1 : x.fmod (R.length : Int) < R.length := Int.fmod_lt_of_pos _ (by omega)
    have hj : (x.fmod (R.length : Int)).toNat < R.length := by omega
    generalize hjj : (x.fmod (R.length : Int)).toNat = j at hj
    have hl : (R.eraseIdx j).length = xs.length := by
      rw [List.length_eraseIdx_of_lt hj]
      simp only [List.length_cons] at h
      omega
    obtain ⟨p, hp, e⟩ := ord_perm xs (R.eraseIdx j) hl.symm
    refine ⟨R[j] :: p, ?_, ?_⟩
    · refine (List.Perm.cons _ hp).trans ?_
      rw [List.eraseIdx_eq_take_drop_succ]
      have e3 : R = R.take j ++ R[j] :: R.drop (j + 1) := by rw [← List.drop_eq_getElem_cons hj, List.take_append_drop]
      conv => rhs; rw [e3]
      exact List.perm_middle.symm
    · rw [ordOf]
      have e1 : ((R.map fun k : Nat => (k : Int)).length : Int) = R.length := by rw [List.length_map]
      rw [e1, hjj]
      have e2 : (R.map fun k : Nat => (k : Int)).eraseIdx j = (R.eraseIdx j).map fun k : Nat => (k : Int) := by rw [List.eraseIdx_eq_take_drop_succ, List.eraseIdx_eq_take_drop_succ, List.map_append, List.map_take, List.map_drop]
      rw [e2, e]
      simp [List.getD_eq_getElem?_getD, hj]
theorem perms_of : ∀ (l p : List Nat), p.Perm l → p ∈ perms l
  | [], p, h => by rw [List.perm_nil.mp h]; exact .head _
  | x :: xs, p, h => by
    have hx : x ∈ p := h.mem_iff.mpr (.head _)
    obtain ⟨a, b, rfl⟩ := List.append_of_mem hx
    have hab : (a ++ b).Perm xs := by
      have h2 : (x :: (a ++ b)).Perm (x :: xs) := (List.perm_middle.symm).trans h
      exact h2.cons_inv
    have ih := perms_of xs (a ++ b) hab
    show a ++ x :: b ∈ (perms xs).flatMap fun p => (List.range (p.length + 1)).map fun i => p.take i ++ x :: p.drop i
    refine List.mem_flatMap.mpr ⟨a ++ b, ih, List.mem_map.mpr ⟨a.length, List.mem_range.mpr (by rw [List.length_append]; omega), ?_⟩⟩
    simp
theorem cnt_inv (p1 p2 : List Nat) (hi : Nat) : ∀ l, cnt p1 p2 hi l = ((List.range l).map fun x => hit p1 hi x).sum + ((List.range l).map fun x => hit p2 hi x).sum
  | 0 => rfl
  | l + 1 => by
    rw [cnt, cnt_inv p1 p2 hi l, List.range_succ, List.map_append, List.map_append, List.sum_append, List.sum_append]
    simp
    omega
theorem tot_inv (p1 p2 : List Nat) : ∀ n, tot p1 p2 n = ((List.range n).map fun h => ((List.range h).map fun l => hit p1 h l).sum).sum + ((List.range n).map fun h => ((List.range h).map fun l => hit p2 h l).sum).sum
  | 0 => rfl
  | n + 1 => by
    rw [tot, tot_inv p1 p2 n, cnt_inv, List.range_succ, List.map_append, List.map_append, List.sum_append, List.sum_append]
    simp
    omega
theorem tot_is {p1 p2 : List Nat} {n : Nat} (h1 : p1.length = n) (h2 : p2.length = n) : tot p1 p2 n = invn p1 + invn p2 := by
  rw [tot_inv]
  unfold invn
  rw [h1, h2]
  rfl
end Mine
namespace Mine
-- LwZ
open PySem PySem.W PyProof.Rows PySem.Spec PySem.Calls
set_option maxHeartbeats 1000000
theorem lines_LwZ_0 : True := by
  k_with_none
  k_with "lt" => first | with_reducible assumption | exact And.left (by with_reducible assumption) | exact And.left (And.right (by with_reducible assumption)) | exact And.left (And.right (And.right (by with_reducible assumption))) | exact And.left (And.right (And.right (And.right (by with_reducible assumption)))) | exact And.left (And.right (And.right (And.right (And.right (by with_reducible assumption)))))
  k_with "rl" => with_unfolding_all exact rfl
  k_with "omega" => first | (with_reducible exact om_room ‹_›) | (with_reducible exact om_le ‹_› (by k_extra "rl")) | (with_reducible exact om_ne1 (by k_extra "lt")) | lia
  trivial
theorem any_cast (ss : List Nat) (pl : Nat) : ((ss.map fun k : Nat => (k : Int)).any fun x => x == (pl : Int)) = ss.contains pl := by
  induction ss with
  | nil => rfl
  | cons a r ih =>
    have e : ((a : Int) == (pl : Int)) = (pl == a) := by
      by_cases h : a = pl
      · subst h; simp
      · have h2 : (a : Int) ≠ (pl : Int) := fun q => h (Int.ofNat.inj q)
        have h3 : pl ≠ a := fun q => h q.symm
        rw [beq_eq_false_iff_ne.mpr h2, beq_eq_false_iff_ne.mpr h3]
    rw [List.map_cons, List.any_cons, ih, List.contains_cons, e]
theorem chase_cast (ns : List Nat) : ∀ (f : Nat) (ss : List Nat) (pl : Nat), chase (ns.map fun k : Nat => (k : Int)) f (ss.map fun k : Nat => (k : Int)) (pl : Int) = (chaseN ns f ss pl).map fun k : Nat => (k : Int)
  | 0, ss, pl => rfl
  | f + 1, ss, pl => by
    rw [chase, chaseN, any_cast]
    have e : (ns.map fun k : Nat => (k : Int)).getD (pl : Int).toNat 0 = ((ns.getD pl 0 : Nat) : Int) := by
      rw [Int.toNat_natCast, List.getD_eq_getElem?_getD, List.getD_eq_getElem?_getD, List.getElem?_map]
      cases ns[pl]? <;> rfl
    rw [e]
    have e2 : (ss.map fun k : Nat => (k : Int)) ++ [(pl : Int)] = (ss ++ [pl]).map fun k : Nat => (k : Int) := by rw [List.map_append]; rfl
    rw [e2, chase_cast ns f]
    split <;> rfl
theorem rounds_cast (ns : List Nat) : ∀ k, roundsAt (ns.map fun k : Nat => (k : Int)) k = ((cycs ns k).1.map (fun k : Nat => (k : Int)), ((cycs ns k).2 : Int))
  | 0 => rfl
  | k + 1 => by
    rw [roundsAt, cycs, rounds_cast ns k]
    dsimp only
    rw [any_cast, List.length_map, List.length_map, chase_cast]
    split
    · rfl
    · dsimp only
      rw [Int.natCast_add]
      rfl
noncomputable def cOf (i : Nat) (n : Int) : Nat := if (n.fdiv 120).fmod 2 = 0 then signLit i else (200 + 5 * n.fdiv 240 + i).toNat
theorem sign_cOf (i : Nat) (n : Int) : signOf i n = ⟨#[cOf i n]⟩ := by
  unfold signOf cOf
  split <;> rfl
theorem lit_of : ∀ {i : Nat}, i < 5 → signLit i = [34, 42, 91, 39, 63].getD i 0
  | 0, _ => rfl
  | 1, _ => rfl
  | 2, _ => rfl
  | 3, _ => rfl
  | 4, _ => rfl
theorem fin5 {P : Nat → Prop} (h0 : P 0) (h1 : P 1) (h2 : P 2) (h3 : P 3) (h4 : P 4) : ∀ {i : Nat}, i < 5 → P i
  | 0, _ => h0
  | 1, _ => h1
  | 2, _ => h2
  | 3, _ => h3
  | 4, _ => h4
theorem lit_ok {i : Nat} (hi : i < 5) : signLit i < 128 ∧ okSign (signLit i) := fin5 (P := fun i => signLit i < 128 ∧ okSign (signLit i)) ⟨by decide, .inr (.inl rfl)⟩ ⟨by decide, .inr (.inr (.inr (.inl rfl)))⟩ ⟨by decide, .inr (.inr (.inr (.inr (.inr rfl))))⟩ ⟨by decide, .inr (.inr (.inl rfl))⟩ ⟨by decide, .inr (.inr (.inr (.inr (.inl rfl))))⟩ hi
theorem lit_inj {i j : Nat} (hi : i < 5) (hj : j < 5) : signLit i = signLit j → i = j :=
  fin5 (P := fun i => signLit i = signLit j → i = j) (fin5 (P := fun j => signLit 0 = signLit j → 0 = j) (by decide) (by decide) (by decide) (by decide) (by decide) hj) (fin5 (P := fun j => signLit 1 = signLit j → 1 = j) (by decide) (by decide) (by decide) (by decide) (by decide) hj)
    (fin5 (P := fun j => signLit 2 = signLit j → 2 = j) (by decide) (by decide) (by decide) (by decide) (by decide) hj) (fin5 (P := fun j => signLit 3 = signLit j → 3 = j) (by decide) (by decide) (by decide) (by decide) (by decide) hj) (fin5 (P := fun j => signLit 4 = signLit j → 4 = j) (by decide) (by decide) (by decide) (by decide) (by decide) hj) hi
theorem drawn_of {i : Nat} {n : Int} (hn : 0 ≤ n) : ∃ q : Nat, (200 + 5 * n.fdiv 240 + i).toNat = 5 * q + (200 + i) := by
  rw [Int.fdiv_eq_ediv_of_nonneg _ (by decide)]
  have h := Int.ediv_nonneg hn (b := 240) (by decide)
  obtain ⟨q, hq⟩ := Int.eq_ofNat_of_zero_le h
  rw [hq]
  refine ⟨q, ?_⟩
  clear hq h hn
  omega
theorem cOf_ok {i : Nat} {n : Int} (hi : i < 5) (hn : 0 ≤ n) : okSign (cOf i n) := by
  unfold cOf
  split
  · exact (lit_ok hi).2
  · obtain ⟨q, e⟩ := drawn_of (i := i) hn
    rw [e]
    exact .inl (Nat.le_trans (Nat.le_add_right_of_le (k := i) (by decide : 128 ≤ 200)) (Nat.le_add_left _ _))
theorem draw_ne {a b q i : Nat} (h : a < 128) (e : a = 5 * q + (200 + i)) : False := by omega
theorem draw_inj {q r i j : Nat} (hi : i < 5) (hj : j < 5) (e : 5 * q + (200 + i) = 5 * r + (200 + j)) : i = j := by omega
theorem cOf_inj {i j : Nat} {n n' : Int} (hi : i < 5) (hj : j < 5) (hn : 0 ≤ n) (hn' : 0 ≤ n') (h : cOf i n = cOf j n') : i = j := by
  unfold cOf at h
  obtain ⟨q, e⟩ := drawn_of (i := i) hn
  obtain ⟨q', e'⟩ := drawn_of (i := j) hn'
  rw [e, e'] at h
  split at h <;> split at h
  · exact lit_inj hi hj h
  · exact (draw_ne (b := 0) (lit_ok hi).1 h).elim
  · exact (draw_ne (b := 0) (lit_ok hj).1 h.symm).elim
  · exact draw_inj hi hj h
theorem two_mul_succ (j : Nat) : 2 * (j + 1) = 2 * j + 1 + 1 := rfl
theorem p257_even (j : Nat) : p257 (List.replicate (2 * j) 34 ++ [120]) = List.replicate j 34 ++ [120] := by
  induction j with
  | zero => rfl
  | succ j ih =>
    rw [two_mul_succ, List.replicate_succ, List.replicate_succ, List.replicate_succ]
    show p257 (34 :: 34 :: (List.replicate (2 * j) 34 ++ [120])) = _
    rw [p257_q2, ih]
    rfl
theorem p257_odd (j : Nat) : p257 (List.replicate (2 * j + 1) 34 ++ [120]) = List.replicate j 34 := by
  induction j with
  | zero => rfl
  | succ j ih =>
    rw [two_mul_succ, List.replicate_succ, List.replicate_succ, List.replicate_succ (n := j)]
    show p257 (34 :: 34 :: (List.replicate (2 * j + 1) 34 ++ [120])) = _
    rw [p257_q2, ih]
end Mine
namespace Mine
-- LwZ2
open PySem PySem.W PyProof.Rows PySem.Spec PySem.Calls
set_option maxHeartbeats 1000000
theorem lines_LwZ2_0 : True := by
  k_with_none
  k_with "lt" => first | with_reducible assumption | exact And.left (by with_reducible assumption) | exact And.left (And.right (by with_reducible assumption)) | exact And.left (And.right (And.right (by with_reducible assumption))) | exact And.left (And.right (And.right (And.right (by with_reducible assumption)))) | exact And.left (And.right (And.right (And.right (And.right (by with_reducible assumption)))))
  k_with "rl" => with_unfolding_all exact rfl
  k_with "omega" => first | (with_reducible exact om_room ‹_›) | (with_reducible exact om_le ‹_› (by k_extra "rl")) | (with_reducible exact om_ne1 (by k_extra "lt")) | lia
  trivial
theorem words_lx : ∀ (n : Nat) (st : LS) (x : List Nat) (ws : List (List Nat)), words n st x = some ws → ws.length < n → Lx ws.length st x (some ws)
  | 0, _, _, _, _, h => absurd h (Nat.not_lt_zero _)
  | n + 1, st, x, ws, h, hl => by
    rw [words] at h
    cases hr : rd st [] false x with
    | none => rw [hr] at h; cases h
    | some q =>
      obtain ⟨⟨t, qd⟩, st', r⟩ := q
      rw [hr] at h
      dsimp only at h
      by_cases hc : (t.isEmpty && !qd) = true
      · rw [if_pos hc] at h
        cases h
        obtain ⟨h1, h2⟩ := Bool.and_eq_true_iff.mp hc
        have ht : t = [] := List.isEmpty_iff.mp h1
        have hq : qd = false := by cases qd <;> simp_all
        subst ht hq
        exact .stop hr
      · rw [if_neg hc] at h
        cases hw : words n st' r with
        | none => rw [hw] at h; cases h
        | some w2 =>
          rw [hw] at h
          cases h
          have ih := words_lx n st' r w2 hw (by simp at hl; omega)
          exact .more hr (fun ⟨a, b⟩ => hc (by rw [a, b]; rfl)) ih
theorem words_none : ∀ (n : Nat) (st : LS) (x : List Nat), words n st x = none → ∃ k, k ≤ n ∧ Lx k st x none
  | 0, _, _, h => by cases h
  | n + 1, st, x, h => by
    rw [words] at h
    cases hr : rd st [] false x with
    | none => exact ⟨0, Nat.zero_le _, .err hr⟩
    | some q =>
      obtain ⟨⟨t, qd⟩, st', r⟩ := q
      rw [hr] at h
      dsimp only at h
      by_cases hc : (t.isEmpty && !qd) = true
      · rw [if_pos hc] at h; cases h
      · rw [if_neg hc] at h
        cases hw : words n st' r with
        | some w2 => rw [hw] at h; cases h
        | none =>
          obtain ⟨k, hk, ih⟩ := words_none n st' r hw
          exact ⟨k + 1, by omega, .more hr (fun ⟨a, b⟩ => hc (by rw [a, b]; rfl)) ih⟩
theorem sane_marks : ∀ k, sane .a (List.replicate k 34 ++ [32, 120]) ∧ sane (.q 34) (List.replicate k 34 ++ [32, 120])
  | 0 => by
    constructor
    · simp [sane]
    · simp [sane, qok]
  | k + 1 => by
    have ih := sane_marks k
    rw [List.replicate_succ, List.cons_append]
    exact ⟨.inr (.inl ⟨.inr rfl, ih.2⟩), .inr rfl, .inl ⟨rfl, ih.1⟩⟩
theorem sane_marks_sp (k : Nat) : sane .sp (List.replicate k 34 ++ [32, 120]) := by
  cases k with
  | zero => simp [sane]
  | succ k =>
    rw [List.replicate_succ, List.cons_append]
    exact .inr (.inl ⟨.inr rfl, (sane_marks k).2⟩)
theorem sane_quoted : ∀ (s r : List Nat), (∀ c ∈ s, c ≠ 39 ∧ c ∈ qch) → sane .a r → sane (.q 39) (s ++ 39 :: r)
  | [], r, _, hr => ⟨.inl rfl, .inl ⟨rfl, hr⟩⟩
  | c :: s, r, h, hr => ⟨.inl rfl, .inr ⟨(h c (.head _)).1, .inl ⟨rfl, (h c (.head _)).2⟩, sane_quoted s r (fun d hd => h d (.tail _ hd)) hr⟩⟩
theorem sane_joined : ∀ (ss : List (List Nat)), ss ≠ [] → (∀ s ∈ ss, ∀ c ∈ s, c ≠ 39 ∧ c ∈ qch) → sane .sp (joined ss)
  | [], h, _ => absurd rfl h
  | [s], _, h => by
    show sane .sp (39 :: (s ++ [39]))
    exact .inr (.inl ⟨.inl rfl, sane_quoted s [] (h s (.head _)) trivial⟩)
  | s :: t :: r, _, h => by
    have ih := sane_joined (t :: r) (by simp) (fun z hz => h z (.tail _ hz))
    have e : joined (s :: t :: r) = 39 :: (s ++ 39 :: (32 :: joined (t :: r))) := by
      show 39 :: (s ++ [39]) ++ 32 :: joined (t :: r) = _
      simp
    rw [e]
    exact .inr (.inl ⟨.inl rfl, sane_quoted s _ (h s (.head _)) (.inl ⟨rfl, ih⟩)⟩)
theorem join_joined : ∀ (ss : List Str), (PySem.Str.join (Str.ofString " ") (ss.map quoted)).cps.toList = joined (ss.map fun z => z.cps.toList)
  | [] => rfl
  | [s] => by
    show (quoted s).cps.toList = quotedL s.cps.toList
    unfold quoted quotedL
    rw [app_list, app_list]
    rfl
  | s :: t :: r => by
    show ((quoted s ++ Str.ofString " " ++ PySem.Str.join (Str.ofString " ") ((t :: r).map quoted)) : Str).cps.toList = quotedL s.cps.toList ++ 32 :: joined ((t :: r).map fun z => z.cps.toList)
    rw [app_list, app_list, join_joined (t :: r)]
    unfold quoted quotedL
    rw [app_list, app_list]
    have e1 : (Str.ofString "'").cps.toList = [39] := rfl
    have e2 : (Str.ofString " ").cps.toList = [32] := rfl
    rw [e1, e2]
    simp
end Mine
namespace Mine
-- LwZ3
open PySem PySem.W PyProof.Rows PySem.Spec PySem.Calls
set_option maxHeartbeats 1000000
theorem lines_LwZ3_0 : True := by
  k_with_none
  k_with "lt" => first | with_reducible assumption | exact And.left (by with_reducible assumption) | exact And.left (And.right (by with_reducible assumption)) | exact And.left (And.right (And.right (by with_reducible assumption))) | exact And.left (And.right (And.right (And.right (by with_reducible assumption)))) | exact And.left (And.right (And.right (And.right (And.right (by with_reducible assumption)))))
  k_with "rl" => with_unfolding_all exact rfl
  k_with "omega" => first | (with_reducible exact om_room ‹_›) | (with_reducible exact om_le ‹_› (by k_extra "rl")) | (with_reducible exact om_ne1 (by k_extra "lt")) | lia
  trivial
theorem num_digit {v c : Nat} (h : c ∈ numL v) : 48 ≤ c ∧ c ≤ 57 := by
  unfold numL at h
  rw [KIN.signs_num] at h
  obtain ⟨ch, hch, e⟩ := List.mem_map.mp h
  have r := digit_range (Nat.isDigit_of_mem_toDigits (by decide) (by decide) hch)
  have e : ch.toNat = c := e
  omega
theorem chars_ok : ∀ d ∈ [50, 57, 32, 40, 41, 124, 33, 34], d ≠ 39 ∧ d ∈ qch := by decide
theorem digits_ok : ∀ k < 10, 48 + k ≠ 39 ∧ 48 + k ∈ qch := by decide
theorem digit_ok {c : Nat} (h : 48 ≤ c ∧ c ≤ 57) : c ≠ 39 ∧ c ∈ qch := by
  obtain ⟨k, rfl⟩ := Nat.exists_eq_add_of_le h.1
  exact digits_ok k (Nat.lt_of_add_lt_add_left (n := 48) (Nat.lt_of_le_of_lt h.2 (by decide)))
theorem mark_ok {mk : Nat} (hm : okMark mk) : mk ≠ 39 ∧ mk ∈ qch := by
  rcases hm with rfl | rfl | rfl | rfl <;> exact chars_ok _ (by decide)
theorem reply_chars {mk v c : Nat} (hm : okMark mk) (h : c ∈ replyL mk v) : c ≠ 39 ∧ c ∈ qch := by
  unfold replyL at h
  simp only [List.mem_cons, List.mem_append, List.not_mem_nil, or_false] at h
  rcases h with h | h | h | h | h | h | h | h | h | h | h
  · exact h ▸ chars_ok 50 (by decide)
  · exact h ▸ chars_ok 50 (by decide)
  · exact h ▸ chars_ok 57 (by decide)
  · exact h ▸ chars_ok 32 (by decide)
  · exact h ▸ chars_ok 40 (by decide)
  · exact h ▸ mark_ok hm
  · exact h ▸ mark_ok hm
  · exact h ▸ mark_ok hm
  · exact digit_ok (num_digit h)
  · exact h ▸ mark_ok hm
  · exact h ▸ chars_ok 41 (by decide)
theorem joined_len : ∀ (ss : List (List Nat)) (M : Nat), (∀ s ∈ ss, s.length ≤ M) → (joined ss).length ≤ ss.length * (M + 3)
  | [], M, _ => Nat.zero_le _
  | [s], M, h => by
    have h1 := h s (.head _)
    show (39 :: (s ++ [39])).length ≤ _
    simp
    omega
  | s :: t :: r, M, h => by
    have h1 := h s (.head _)
    have ih := joined_len (t :: r) M fun z hz => h z (.tail _ hz)
    show (39 :: (s ++ [39]) ++ 32 :: joined (t :: r)).length ≤ _
    rw [List.length_cons (as := t :: r), Nat.add_mul]
    simp only [List.length_append, List.length_cons, List.length_nil] at *
    omega
section
variable {vs : List Nat} {mk : Nat}
theorem line_list (ss : List Str) : (Txt.join (Str.ofString " ") (ss.map quoted)).cps.toList = joined (ss.map fun z => z.cps.toList) := by
  rw [← join_joined]
  exact congrArg (fun z : Str => z.cps.toList) (StrLaws.glued_eq_join _ _)
theorem line_sane (hm : okMark mk) (hne : vs ≠ []) : sane .sp (Txt.join (Str.ofString " ") ((vs.map (replyS mk)).map quoted)).cps.toList := by
  rw [line_list]
  refine sane_joined _ (by simpa using hne) ?_
  intro s hs c hc
  obtain ⟨z, hz, rfl⟩ := List.mem_map.mp hs
  obtain ⟨v, _, rfl⟩ := List.mem_map.mp hz
  exact reply_chars hm hc
theorem line_lx (hm : okMark mk) (hne : vs ≠ []) : Lx vs.length .sp (Txt.join (Str.ofString " ") ((vs.map (replyS mk)).map quoted)).cps.toList (some ((vs.map (replyS mk)).map fun z => z.cps.toList)) := by
  rw [line_list]
  have h := words_joined ((vs.map (replyS mk)).map fun z => z.cps.toList) (vs.length + 1) (by simp) (by simpa using hne) ?_
  · have h2 := words_lx _ _ _ _ h (by simp)
    simpa using h2
  · intro s hs
    obtain ⟨z, hz, rfl⟩ := List.mem_map.mp hs
    obtain ⟨v, _, rfl⟩ := List.mem_map.mp hz
    refine ⟨fun q => (reply_chars hm q).1 rfl, fun q => ?_⟩
    rw [reply_list] at q
    cases q
theorem line_len (hv : ∀ v ∈ vs, v < 2000) (hl : vs.length ≤ 10) : (Txt.join (Str.ofString " ") ((vs.map (replyS mk)).map quoted)).length ≤ 2000 := by
  rw [len_toList, line_list]
  refine Nat.le_trans (joined_len _ 20 ?_) ?_
  · intro s hs
    obtain ⟨z, hz, rfl⟩ := List.mem_map.mp hs
    obtain ⟨v, hv2, rfl⟩ := List.mem_map.mp hz
    rw [reply_list, reply_len]
    have := num_len (hv v hv2)
    omega
  · rw [List.length_map, List.length_map]
    omega
end
theorem marks_lx_even (j : Nat) : ∃ k, k ≤ 5 ∧ Lx k .sp (List.replicate (2 * j) 34 ++ [32, 120]) (some (if j = 0 then [[120]] else [[], [120]])) := by
  have h := marks_even j
  refine ⟨_, ?_, words_lx 5 _ _ _ h ?_⟩ <;> split <;> simp
theorem marks_lx_odd (j : Nat) : ∃ k, k ≤ 5 ∧ Lx k .sp (List.replicate (2 * j + 1) 34 ++ [32, 120]) none := words_none 5 _ _ (marks_odd j)
end Mine
namespace Mine
-- LwJn
open PySem PySem.W PyProof.Rows PySem.Spec PySem.Calls
set_option maxHeartbeats 1000000
theorem lines_LwJn_0 : True := by
  k_with_none
  k_with "lt" => first | with_reducible assumption | exact And.left (by with_reducible assumption) | exact And.left (And.right (by with_reducible assumption)) | exact And.left (And.right (And.right (by with_reducible assumption))) | exact And.left (And.right (And.right (And.right (by with_reducible assumption)))) | exact And.left (And.right (And.right (And.right (And.right (by with_reducible assumption)))))
  k_with "rl" => with_unfolding_all exact rfl
  k_with "omega" => first | (with_reducible exact om_room ‹_›) | (with_reducible exact om_le ‹_› (by k_extra "rl")) | (with_reducible exact om_ne1 (by k_extra "lt")) | lia
  k_with "mem_go" => first | with_reducible assumption | with_reducible exact List.mem_cons_self | (refine List.mem_cons_of_mem _ ?_; k_extra "mem_go")
  k_with "news_go" => first | k_extra "mem_go" | (rcases List.mem_cons.mp hq with hq | hq; (· subst hq; k_extra "mem_go"); (· k_extra "news_go"))
  trivial
theorem body_eq : fb49.1 = [ls0.1, ls1.1, ls2.1, ls3.1, ls4.1, ls5.1, ls6.1, ls7.1, ls8.1, ls9.1, ls10.1, ls11.1, ls12.1, ls13.1, ls14.1, ls15.1, ls16.1, ls17.1, ls18.1, ls19.1, ls20.1] := rfl
section
variable {w : World} {p : Program} {loose : List Str} {mean : ExcName → Option Value} {mg mb : Str → Option Value}
variable {dp un : Nat} {gd : Option (List Code)} {cn : Str} {a : Addr} {ccd : Value} {cP cM cK cZ cS : Addr} {A₀ : Around} {h₀ : Heap} {L fa : Addr} {s : Shared} {Q : Flow → Shared → Prop} {E : Value → Shared → Prop} {vs : List Value} {ns : List Int} {oP oM oK oZ oS : Obj}
-- statements 0 to 5
theorem law_A (rest : List Stmt) (B : Below A₀ h₀ [] h₀) (X : (KF w.params).In h₀) (T : Top p loose mean mg mb h₀) (hd : dp + 500 < recursionLimit) (hu : un + 2500 < cLine) (F : Fr h₀ L s.heap (fun y => if y = Str.ofString "script" then some (.ref fa) else none))
    (N : News h₀ L s.heap ((cP, oP) :: (cM, oM) :: (cK, oK) :: (cZ, oZ) :: (cS, oS) :: (121, tabObj #[]) :: (835, tabObj #[]) :: [])) (hfa : h₀.IsList fa vs.toArray) (hv : IntsAre vs ns) (hl : ns.length ≤ 63)
    (hoS : oS.data = .cell none) (hoZ : oZ.data = .cell none)
    (dS : ∀ q ∈ [(cP, oP), (cM, oM), (cK, oK), (cZ, oZ), (121, tabObj #[]), (835, tabObj #[])], q.1 ≠ cS) (dZ : ∀ q ∈ [(cP, oP), (cM, oM), (cK, oK), (cS, oS), (121, tabObj #[]), (835, tabObj #[])], q.1 ≠ cZ)
    (hQ : ∀ (O O1 O2 D SG : Addr) (us1 us2 us ss : List Value) (p1 p2 : List Nat) (n n0 n1 n2 n3 n4 : Nat) (oS' oZ' : Obj) (tz tm : Tok) (m : Str → Option Value) (h : Heap) (tk : Nat), 3 ≤ n → n ≤ 5 → IntsAre us1 (p1.map fun k : Nat => (k : Int)) → IntsAre us2 (p2.map fun k : Nat => (k : Int)) → p1.Perm (List.range n) → p2.Perm (List.range n) →
      StrsAre ss ((List.range 5).map fun i => signOf i ((numsOf ns).getD i 0)) → IntsAre us (numsOf ns) → oS'.data = .cell (some (.ref SG)) → oZ'.data = .cell (some (.int n tz)) → O1 < O2 → O2 < O →
      (∀ q ∈ [(D, listOf us.toArray n2), (cZ, oZ'), (SG, listOf ss.toArray n3), (cS, oS'), (cP, oP), (cM, oM), (cK, oK), (121, tabObj #[]), (835, tabObj #[])], q.1 < O1) →
      (∀ q ∈ [(cP, oP), (cM, oM), (cK, oK), (cZ, oZ), (cS, oS), (121, tabObj #[]), (835, tabObj #[])], q.1 < D) →
      (∀ q ∈ (D, listOf us.toArray n2) :: (cS, oS) :: [(cP, oP), (cM, oM), (cK, oK), (cZ, oZ), (121, tabObj #[]), (835, tabObj #[])], q.1 < SG) →
      m (Str.ofString "numbers") = some (.ref D) → m (Str.ofString "orders") = some (.ref O) → m (Str.ofString "marks") = some (.str ⟨#[]⟩ tm) → Fr h₀ L h m →
      News h₀ L h ((O, listOf #[.ref O1, .ref O2] n0) :: (O2, listOf us2.toArray n4) :: (O1, listOf us1.toArray n1) :: [(D, listOf us.toArray n2), (cZ, oZ'), (SG, listOf ss.toArray n3), (cS, oS'), (cP, oP), (cM, oM), (cK, oK), (121, tabObj #[]), (835, tabObj #[])]) →
      wpAny (model pw w) (ktrTop dp un gd cn fs49.1 L a ccd (lawCl cP cM cK cZ cS) []) (execs rest (envX cn fs49.1 L a ccd (lawCl cP cM cK cZ cS))) Q E { s with heap := h, toks := tk }) :
    wpAny (model pw w) (ktrTop dp un gd cn fs49.1 L a ccd (lawCl cP cM cK cZ cS) []) (execs (ls0.1 :: ls1.1 :: ls2.1 :: ls3.1 :: ls4.1 :: ls5.1 :: rest) (envX cn fs49.1 L a ccd (lawCl cP cM cK cZ cS))) Q E s := by
  refine execs_seq ?_
  refine st0 dp un gd cn a ccd cP cM cK cZ cS [] A₀ h₀ h₀ L fa s _ E vs ns hv hl oP oM oK oZ oS (tabObj #[]) (tabObj #[]) hfa B F X N T fun D us n h1 k1 hI m1 e1 e2 F1 N1 off => ?_
  refine seq_next ?_
  refine execs_seq ?_
  refine st1 dp un gd cn a ccd cP cM cK cZ cS [] A₀ h₀ h₀ L fa D _ _ E us ns n hI _ B m1 e1 F1 X N1 T fun D2 us2 n2 h2 k2 hI2 F2 N2 l2 => ?_
  refine seq_next ?_
  refine execs_seq ?_
  refine st2 (D := D2) (us := us2) (ns := ns) (cap := n2) (oS := oS) (rest := [(cP, oP), (cM, oM), (cK, oK), (cZ, oZ), (121, tabObj #[]), (835, tabObj #[])]) B X T hd hu F2 (fun q hq => N2 q (by k_extra "news_go")) rfl hI2 hoS (Nat.ne_of_gt (l2 (cS, oS) (by k_extra "mem_go"))) dS fun SG ss n3 oS' h3 k3 hss l3 dS' F3 N3 => ?_
  refine seq_next ?_
  refine execs_seq ?_
  refine st3 (fa := fa) (vs := vs) (ns := ns) (oZ := oZ) (rest := [(SG, listOf ss.toArray n3), (D2, listOf us2.toArray n2), (cS, oS'), (cP, oP), (cM, oM), (cK, oK), (121, tabObj #[]), (835, tabObj #[])]) B X T hd hu F3 (fun q hq => N3 q (by k_extra "news_go")) e2 hfa hv hl hoZ ?dz fun oZ' h4 k4 tz dZ' F4 N4 => ?_
  case dz =>
    intro q hq
    rcases List.mem_cons.mp hq with rfl | hq
    · exact Nat.ne_of_gt (l3 (cZ, oZ) (by k_extra "mem_go"))
    rcases List.mem_cons.mp hq with rfl | hq
    · exact Nat.ne_of_gt (l2 (cZ, oZ) (by k_extra "mem_go"))
    rcases List.mem_cons.mp hq with rfl | hq
    · exact dZ (cS, oS) (by k_extra "mem_go")
    · exact dZ q (by k_extra "news_go")
  obtain ⟨n, hn3, hn5, hnn⟩ : ∃ n : Nat, 3 ≤ n ∧ n ≤ 5 ∧ min 5 (3 + (ns.length : Int) / 4) = (n : Int) := ⟨(min 5 (3 + (ns.length : Int) / 4)).toNat, by omega, by omega, by omega⟩
  rw [hnn] at dZ'
  refine seq_next ?_
  refine execs_seq ?_
  refine st4 (D := D2) (us := us2) (ns := ns) (cap := n2) (oZ := oZ') (n := n) (tz := tz) (rest := [(SG, listOf ss.toArray n3), (cS, oS'), (cP, oP), (cM, oM), (cK, oK), (121, tabObj #[]), (835, tabObj #[])]) B X T hd hu F4 (fun q hq => N4 q (by k_extra "news_go")) rfl hI2 dZ' hn5 fun O O1 O2 us3 us4 n5 n6 n7 h5 k5 ho1 ho2 lO1 lO2 lO3 F5 N5 => ?_
  refine seq_next ?_
  refine execs_seq ?_
  refine st5 F5 N5 fun h6 k6 tm F6 N6 => ?_
  refine seq_next ?_
  have hlen := nums_len ns
  have er : (List.range n).map (fun k : Nat => (k : Int)) = rangeKs 0 n := by
    unfold rangeKs
    apply List.map_congr_left
    intro i _
    omega
  obtain ⟨p1, hp1, ep1⟩ := ord_perm ((numsOf ns).take n) (List.range n) (by rw [List.length_take, List.length_range]; omega)
  obtain ⟨p2, hp2, ep2⟩ := ord_perm (((numsOf ns).drop n).take n) (List.range n) (by rw [List.length_take, List.length_drop, List.length_range]; omega)
  rw [er] at ep1 ep2
  rw [ep1] at ho1
  rw [ep2] at ho2
  exact hQ O O1 O2 D2 SG us3 us4 us2 ss p1 p2 n n5 n6 n2 n3 n7 oS' oZ' tz tm _ h6 k6 hn3 hn5 ho1 ho2 hp1 hp2 hss hI2 dS' dZ' lO1 lO2 lO3 l2 l3 rfl rfl rfl F6 N6
end
end Mine
namespace Mine
-- LwJ2
open PySem PySem.W PyProof.Rows PySem.Spec PySem.Calls
set_option maxHeartbeats 1000000
theorem lines_LwJ2_0 : True := by
  k_with_none
  k_with "lt" => first | with_reducible assumption | exact And.left (by with_reducible assumption) | exact And.left (And.right (by with_reducible assumption)) | exact And.left (And.right (And.right (by with_reducible assumption))) | exact And.left (And.right (And.right (And.right (by with_reducible assumption)))) | exact And.left (And.right (And.right (And.right (And.right (by with_reducible assumption)))))
  k_with "rl" => with_unfolding_all exact rfl
  k_with "omega" => first | (with_reducible exact om_room ‹_›) | (with_reducible exact om_le ‹_› (by k_extra "rl")) | (with_reducible exact om_ne1 (by k_extra "lt")) | lia
  k_with "mem_go" => first | with_reducible assumption | with_reducible exact List.mem_cons_self | (refine List.mem_cons_of_mem _ ?_; k_extra "mem_go")
  k_with "news_go" => first | k_extra "mem_go" | (rcases List.mem_cons.mp hq with hq | hq; (· subst hq; k_extra "mem_go"); (· k_extra "news_go"))
  trivial
section
variable {w : World} {p : Program} {loose : List Str} {mean : ExcName → Option Value} {mg mb : Str → Option Value}
variable {dp un : Nat} {gd : Option (List Code)} {cn : Str} {a : Addr} {ccd : Value} {cP cM cK cZ cS : Addr} {A₀ : Around} {h₀ : Heap} {L : Addr} {s : Shared} {Q : Flow → Shared → Prop} {E : Value → Shared → Prop} {ns : List Int} {oP oM oK oZ oS : Obj} {m : Str → Option Value}
variable {O O1 O2 D SG : Addr} {us1 us2 us ss : List Value} {p1 p2 : List Nat} {n n0 n1 n2 n3 n4 : Nat} {oS' oZ' : Obj} {tz tm : Tok}
-- statements 6 to 8
theorem law_B (rest : List Stmt) (B : Below A₀ h₀ [] h₀) (X : (KF w.params).In h₀) (T : Top p loose mean mg mb h₀) (hd : dp + 500 < recursionLimit) (hu : un + 2500 < cLine) (F : Fr h₀ L s.heap m) (hE : PassesOwn (model pw w) (ktrTop dp un gd cn fs49.1 L a ccd (lawCl cP cM cK cZ cS) []) (envX cn fs49.1 L a ccd (lawCl cP cM cK cZ cS)) E)
    (hn3 : 3 ≤ n) (hn5 : n ≤ 5) (hi1 : IntsAre us1 (p1.map fun k : Nat => (k : Int))) (hi2 : IntsAre us2 (p2.map fun k : Nat => (k : Int))) (hp1 : p1.Perm (List.range n)) (hp2 : p2.Perm (List.range n))
    (hss : StrsAre ss ((List.range 5).map fun i => signOf i ((numsOf ns).getD i 0))) (hus : IntsAre us (numsOf ns)) (hoS : oS'.data = .cell (some (.ref SG))) (hoZ : oZ'.data = .cell (some (.int n tz))) (hoK : oK.data = .cell none) (hoM : oM.data = .cell none)
    (d121 : ∀ q ∈ [(O, listOf #[.ref O1, .ref O2] n0), (O2, listOf us2.toArray n4), (O1, listOf us1.toArray n1), (SG, listOf ss.toArray n3), (cS, oS'), (cZ, oZ'), (D, listOf us.toArray n2), (cP, oP), (cM, oM), (cK, oK), (835, tabObj #[])], q.1 ≠ 121)
    (m0 : m (Str.ofString "numbers") = some (.ref D)) (m1 : m (Str.ofString "orders") = some (.ref O)) (m2 : m (Str.ofString "marks") = some (.str ⟨#[]⟩ tm))
    (N : News h₀ L s.heap ((O, listOf #[.ref O1, .ref O2] n0) :: (O2, listOf us2.toArray n4) :: (O1, listOf us1.toArray n1) :: [(D, listOf us.toArray n2), (cZ, oZ'), (SG, listOf ss.toArray n3), (cS, oS'), (cP, oP), (cM, oM), (cK, oK), (121, tabObj #[]), (835, tabObj #[])]))
    (hQ : ∀ (pt : Array Value) (t' : Tok) (m' : Str → Option Value) h' tk', TabOk 108 46 pt → m' (Str.ofString "numbers") = some (.ref D) → m' (Str.ofString "orders") = some (.ref O) → m' (Str.ofString "marks") = some (.str (marksS (tot p1 p2 n)) t') → Fr h₀ L h' m' →
      News h₀ L h' ((121, tabObj pt) :: (O, listOf #[.ref O1, .ref O2] n0) :: (O2, listOf us2.toArray n4) :: (O1, listOf us1.toArray n1) :: (SG, listOf ss.toArray n3) :: (cS, oS') :: (cZ, oZ') :: [(D, listOf us.toArray n2), (cP, oP), (cM, oM), (cK, oK), (835, tabObj #[])]) →
      wpAny (model pw w) (ktrTop dp un gd cn fs49.1 L a ccd (lawCl cP cM cK cZ cS) []) (execs rest (envX cn fs49.1 L a ccd (lawCl cP cM cK cZ cS))) Q E { s with heap := h', toks := tk' }) :
    wpAny (model pw w) (ktrTop dp un gd cn fs49.1 L a ccd (lawCl cP cM cK cZ cS) []) (execs (ls6.1 :: rest) (envX cn fs49.1 L a ccd (lawCl cP cM cK cZ cS))) Q E s := by
  have hno : ∀ i, i < 5 → 0 ≤ (numsOf ns).getD i 0 := by
    intro i hi
    have hl := nums_len ns
    rw [List.getD_eq_getElem?_getD, List.getElem?_eq_getElem (by omega)]
    exact (nums_ok ns _ (List.getElem_mem _)).1
  have hss2 : StrsAre ss ((List.range 5).map fun i => ⟨#[cOf i ((numsOf ns).getD i 0)]⟩) := by
    have e : ((List.range 5).map fun i => signOf i ((numsOf ns).getD i 0)) = ((List.range 5).map fun i => (⟨#[cOf i ((numsOf ns).getD i 0)]⟩ : Str)) := List.map_congr_left fun i _ => sign_cOf i _
    rw [← e]; exact hss
  refine execs_seq ?_
  refine st6 (D := D) (p1 := p1) (p2 := p2) (c := fun i => cOf i ((numsOf ns).getD i 0)) (n := n) (pt := #[]) (tz := tz) (tm := tm) (SG := SG) (O1 := O1) (O2 := O2) (OO := O) (n0 := n0) (n1 := n1) (n2 := n4) (c3 := n3) (us1 := us1) (us2 := us2) (ss := ss) (oS := oS') (oZ := oZ') (rest := [(D, listOf us.toArray n2), (cP, oP), (cM, oM), (cK, oK), (835, tabObj #[])]) B X T hd hu F hE (fun q hq => N q (by k_extra "news_go")) m0 m1 m2 hoS hoZ (.inl rfl) d121 hi1 hi2 hss2 hp1 hp2 hn5 (fun i j hi hj h => cOf_inj hi hj (hno i hi) (hno j hj) h) (fun i hi => cOf_ok hi (hno i hi)) fun h1 k1 m' t' pt hpt q0 q1 q2 F1 N1 => ?_
  refine seq_next ?_
  exact hQ pt t' m' h1 k1 hpt q0 q1 q2 F1 N1
end
end Mine
namespace Mine
-- LwJ3
open PySem PySem.W PyProof.Rows PySem.Spec PySem.Calls
set_option maxHeartbeats 1000000
theorem lines_LwJ3_0 : True := by
  k_with_none
  k_with "lt" => first | with_reducible assumption | exact And.left (by with_reducible assumption) | exact And.left (And.right (by with_reducible assumption)) | exact And.left (And.right (And.right (by with_reducible assumption))) | exact And.left (And.right (And.right (And.right (by with_reducible assumption)))) | exact And.left (And.right (And.right (And.right (And.right (by with_reducible assumption)))))
  k_with "rl" => with_unfolding_all exact rfl
  k_with "omega" => first | (with_reducible exact om_room ‹_›) | (with_reducible exact om_le ‹_› (by k_extra "rl")) | (with_reducible exact om_ne1 (by k_extra "lt")) | lia
  k_with "mem_go" => first | with_reducible assumption | with_reducible exact List.mem_cons_self | (refine List.mem_cons_of_mem _ ?_; k_extra "mem_go")
  k_with "news_go" => first | k_extra "mem_go" | (rcases List.mem_cons.mp hq with hq | hq; (· subst hq; k_extra "mem_go"); (· k_extra "news_go"))
  trivial
section
variable {w : World} {p : Program} {loose : List Str} {mean : ExcName → Option Value} {mg mb : Str → Option Value}
variable {dp un : Nat} {gd : Option (List Code)} {cn : Str} {a : Addr} {ccd : Value} {cP cM cK cZ cS : Addr} {A₀ : Around} {h₀ : Heap} {L : Addr} {s : Shared} {Q : Flow → Shared → Prop} {E : Value → Shared → Prop} {ns : List Int} {oP oM oK oZ oS : Obj} {m : Str → Option Value}
variable {O O1 O2 D SG : Addr} {us1 us2 us ss : List Value} {p1 p2 : List Nat} {n k n0 n1 n2 n3 n4 : Nat} {tz tm : Tok} {pt : Array Value}
theorem off1_mem {D : Addr} : ∀ {l : Led}, LCg.Off1 D l → ∀ q ∈ l, @Ne Nat q.1 D
  | [], _, _, h => nomatch h
  | _ :: _, x, q, h => by
    rcases List.mem_cons.mp h with rfl | h
    · exact x.1
    · exact off1_mem x.2 q h
theorem off1_of {D : Addr} : ∀ {l : Led}, (∀ q ∈ l, @Ne Nat q.1 D) → LCg.Off1 D l
  | [], _ => trivial
  | _ :: _, h => ⟨h _ List.mem_cons_self, off1_of fun q hq => h q (List.mem_cons_of_mem _ hq)⟩
-- statements 7 to 9
theorem law_C (rest : List Stmt) (B : Below A₀ h₀ [] h₀) (X : (KF w.params).In h₀) (T : Top p loose mean mg mb h₀) (hd : dp + 500 < recursionLimit) (hu : un + 2500 < cLine) (F : Fr h₀ L s.heap m)
    (hn5 : n ≤ 5) (hi1 : IntsAre us1 (p1.map fun k : Nat => (k : Int))) (hi2 : IntsAre us2 (p2.map fun k : Nat => (k : Int))) (hp1 : p1.Perm (List.range n)) (hp2 : p2.Perm (List.range n))
    (hus : IntsAre us (numsOf ns)) (hoK : oK.data = .cell none) (hoM : oM.data = .cell none)
    (dK : ∀ q ∈ [(D, listOf us.toArray n2), (121, tabObj pt), (O, listOf #[.ref O1, .ref O2] n0), (O2, listOf us2.toArray n4), (O1, listOf us1.toArray n1), (SG, listOf ss.toArray n3), (cS, oS), (cZ, oZ), (cP, oP), (cM, oM), (835, tabObj #[])], q.1 ≠ cK)
    (dM : ∀ q ∈ [(D, listOf us.toArray n2), (121, tabObj pt), (O, listOf #[.ref O1, .ref O2] n0), (O2, listOf us2.toArray n4), (O1, listOf us1.toArray n1), (SG, listOf ss.toArray n3), (cS, oS), (cZ, oZ), (cP, oP), (cK, oK), (835, tabObj #[])], q.1 ≠ cM)
    (m0 : m (Str.ofString "numbers") = some (.ref D)) (m1 : m (Str.ofString "orders") = some (.ref O)) (m2 : m (Str.ofString "marks") = some (.str (marksS k) tm))
    (N : News h₀ L s.heap ((121, tabObj pt) :: (O, listOf #[.ref O1, .ref O2] n0) :: (O2, listOf us2.toArray n4) :: (O1, listOf us1.toArray n1) :: (SG, listOf ss.toArray n3) :: (cS, oS) :: (cZ, oZ) :: [(D, listOf us.toArray n2), (cP, oP), (cM, oM), (cK, oK), (835, tabObj #[])]))
    (hQ : ∀ (mk mo : Nat) (R : Addr) (rs : List Value) (nr : Nat) (oK' oM' : Obj) (tM : Tok) (m' : Str → Option Value) h' tk', okMark mk → mo < 1000 → oM'.data = .cell (some (.int mo tM)) → StrsAre rs ((p1 ++ p2).map fun k => replyS mk (mo + k)) →
      LCg.Off1 R [(O, listOf #[.ref O1, .ref O2] n0), (O2, listOf us2.toArray n4), (O1, listOf us1.toArray n1), (cK, oK'), (cM, oM'), (121, tabObj pt), (SG, listOf ss.toArray n3), (cS, oS), (cZ, oZ), (D, listOf us.toArray n2), (cP, oP), (835, tabObj #[])] →
      m' (Str.ofString "replies") = some (.ref R) → m' (Str.ofString "marks") = some (.str (marksS k) tm) → Fr h₀ L h' m' →
      News h₀ L h' ((R, listOf rs.toArray nr) :: [(O, listOf #[.ref O1, .ref O2] n0), (O2, listOf us2.toArray n4), (O1, listOf us1.toArray n1), (cK, oK'), (cM, oM'), (121, tabObj pt), (SG, listOf ss.toArray n3), (cS, oS), (cZ, oZ), (D, listOf us.toArray n2), (cP, oP), (835, tabObj #[])]) →
      wpAny (model pw w) (ktrTop dp un gd cn fs49.1 L a ccd (lawCl cP cM cK cZ cS) []) (execs rest (envX cn fs49.1 L a ccd (lawCl cP cM cK cZ cS))) Q E { s with heap := h', toks := tk' }) :
    wpAny (model pw w) (ktrTop dp un gd cn fs49.1 L a ccd (lawCl cP cM cK cZ cS) []) (execs (ls7.1 :: ls8.1 :: ls9.1 :: rest) (envX cn fs49.1 L a ccd (lawCl cP cM cK cZ cS))) Q E s := by
  have hl1 : p1.length = n := hp1.length_eq.trans List.length_range
  have hl2 : p2.length = n := hp2.length_eq.trans List.length_range
  refine execs_seq ?_
  refine st7 (D := D) (us := us) (ns := ns) (cap := n2) (oK := oK) (rest := [(121, tabObj pt), (O, listOf #[.ref O1, .ref O2] n0), (O2, listOf us2.toArray n4), (O1, listOf us1.toArray n1), (SG, listOf ss.toArray n3), (cS, oS), (cZ, oZ), (cP, oP), (cM, oM), (835, tabObj #[])]) B X T hd hu F (fun q hq => N q (by k_extra "news_go")) m0 hus hoK (dK _ (.head _)) (fun q hq => dK q (.tail _ hq)) fun mk oK' h1 k1 tK hmk dK' F1 N1 => ?_
  refine seq_next ?_
  refine execs_seq ?_
  refine st8 (D := D) (us := us) (ns := ns) (cap := n2) (oM := oM) (rest := [(121, tabObj pt), (O, listOf #[.ref O1, .ref O2] n0), (O2, listOf us2.toArray n4), (O1, listOf us1.toArray n1), (SG, listOf ss.toArray n3), (cS, oS), (cZ, oZ), (cP, oP), (cK, oK'), (835, tabObj #[])]) B X T hd hu F1 (fun q hq => N1 q (by k_extra "news_go")) m0 hus hoM (dM _ (.head _)) ?dm fun mo oM' h2 k2 tM hmo dM' F2 N2 => ?_
  case dm => exact off1_mem (off1_of dM).2
  refine seq_next ?_
  refine execs_seq ?_
  refine st9 (OO := O) (O1 := O1) (O2 := O2) (us1 := us1) (us2 := us2) (p1 := p1) (p2 := p2) (n := n) (n0 := n0) (n1 := n1) (n2 := n4) (mk := mk) (mo := mo) (oK := oK') (oM := oM') (rest := [(121, tabObj pt), (SG, listOf ss.toArray n3), (cS, oS), (cZ, oZ), (D, listOf us.toArray n2), (cP, oP), (835, tabObj #[])]) B X T hd hu F2 (fun q hq => N2 q (by k_extra "news_go")) m1 dK' dM' hmo hi1 hi2 (by omega) (by omega) (fun k hk => Nat.lt_of_lt_of_le (List.mem_range.mp (hp1.mem_iff.mp hk)) hn5) (fun k hk => Nat.lt_of_lt_of_le (List.mem_range.mp (hp2.mem_iff.mp hk)) hn5) fun R rs nr h3 k3 hrs off F3 N3 => ?_
  refine seq_next ?_
  exact hQ mk mo R rs nr oK' oM' tM (fun y => if y = Str.ofString "replies" then some (.ref R) else m y) h3 k3 hmk hmo dM' hrs off rfl (by exact m2) F3 N3
end
end Mine
namespace Mine
-- LwJ4
open PySem PySem.W PyProof.Rows PySem.Spec PySem.Calls
set_option maxHeartbeats 1000000
theorem lines_LwJ4_0 : True := by
  k_with_none
  k_with "lt" => first | with_reducible assumption | exact And.left (by with_reducible assumption) | exact And.left (And.right (by with_reducible assumption)) | exact And.left (And.right (And.right (by with_reducible assumption))) | exact And.left (And.right (And.right (And.right (by with_reducible assumption)))) | exact And.left (And.right (And.right (And.right (And.right (by with_reducible assumption)))))
  k_with "rl" => with_unfolding_all exact rfl
  k_with "omega" => first | (with_reducible exact om_room ‹_›) | (with_reducible exact om_le ‹_› (by k_extra "rl")) | (with_reducible exact om_ne1 (by k_extra "lt")) | lia
  k_with "mem_go" => first | with_reducible assumption | with_reducible exact List.mem_cons_self | (refine List.mem_cons_of_mem _ ?_; k_extra "mem_go")
  k_with "news_go" => first | k_extra "mem_go" | (rcases List.mem_cons.mp hq with hq | hq; (· subst hq; k_extra "mem_go"); (· k_extra "news_go"))
  trivial
section
variable {w : World} {p : Program} {loose : List Str} {mean : ExcName → Option Value} {mg mb : Str → Option Value}
variable {dp un : Nat} {gd : Option (List Code)} {cn : Str} {a : Addr} {ccd : Value} {cP cM cK cZ cS : Addr} {A₀ : Around} {h₀ : Heap} {L : Addr} {s : Shared} {Q : Flow → Shared → Prop} {E : Value → Shared → Prop} {oP oM oZ : Obj} {m : Str → Option Value}
variable {R : Addr} {rs : List Value} {vs : List Nat} {n k nr mk mo : Nat} {tz tm tM : Tok} {pt : Array Value}
theorem reply_strOk {v : Nat} (hm : okMark mk) : PyData.strOk (replyS mk v) = true := by
  unfold PyData.strOk
  rw [Array.all_eq_true']
  intro c hc
  have h := (reply_chars (v := v) hm (by simpa [replyS] using hc)).2
  unfold qch at h
  simp only [List.mem_cons, List.not_mem_nil, or_false] at h
  simp only [decide_eq_true_eq]
  omega
-- statements 10 to 12
theorem law_D (rest : List Stmt) (B : Below A₀ h₀ [] h₀) (X : (KF w.params).In h₀) (T : Top p loose mean mg mb h₀) (hd : dp + 500 < recursionLimit) (hu : un + 2500 < cLine) (F : Fr h₀ L s.heap m)
    (hm : okMark mk) (hvs : ∀ v ∈ vs, v < 2000) (hvl : vs.length ≤ 10) (hv0 : vs ≠ []) (hrs : StrsAre rs (vs.map (replyS mk))) (d835 : ∀ q ∈ [(R, listOf rs.toArray nr), (121, tabObj pt), (cM, oM), (cZ, oZ), (cP, oP)], q.1 ≠ 835)
    (m1 : m (Str.ofString "replies") = some (.ref R)) (m2 : m (Str.ofString "marks") = some (.str (marksS k) tm))
    (N : News h₀ L s.heap ((R, listOf rs.toArray nr) :: (121, tabObj pt) :: (cM, oM) :: (cZ, oZ) :: (cP, oP) :: (835, tabObj #[]) :: []))
    (hQ : ∀ (TD : Addr) (us : List Value) (nt : Nat) (fr : Led) (ps : Array Value) (m' : Str → Option Value) s', us.length = vs.length → (∀ (j v : Nat), vs[j]? = some v → ∃ (T : Addr) (t1 t2 : Tok), us[j]? = some (Value.ref T) ∧ (T, tupO (Str.ofString "::1") v t1 t2) ∈ fr) →
      LCg.Off1 TD (fr ++ [(121, tabObj pt), (cM, oM), (cZ, oZ), (cP, oP), (835, tabObj ps)]) → (AllBare s.gens → AllBare s'.gens) → s'.os = s.os →
      m' (Str.ofString "told") = some (.ref TD) → m' (Str.ofString "marks") = some (.str (marksS k) tm) → Fr h₀ L s'.heap m' → News h₀ L s'.heap ((TD, listOf us.toArray nt) :: (fr ++ [(121, tabObj pt), (cM, oM), (cZ, oZ), (cP, oP), (835, tabObj ps)])) →
      wpAny (model pw w) (ktrTop dp un gd cn fs49.1 L a ccd (lawCl cP cM cK cZ cS) []) (execs rest (envX cn fs49.1 L a ccd (lawCl cP cM cK cZ cS))) Q E s') :
    wpAny (model pw w) (ktrTop dp un gd cn fs49.1 L a ccd (lawCl cP cM cK cZ cS) []) (execs (ls10.1 :: ls11.1 :: ls12.1 :: rest) (envX cn fs49.1 L a ccd (lawCl cP cM cK cZ cS))) Q E s := by
  refine execs_seq ?_
  refine st10 (R := R) (us := rs) (ss := vs.map (replyS mk)) (nr := nr) (k := vs.length) (rest := [(121, tabObj pt), (cM, oM), (cZ, oZ), (cP, oP)]) B X T hd hu F (fun q hq => N q (by k_extra "news_go")) d835 m1 hrs (fun z hz => by obtain ⟨v, hv, rfl⟩ := List.mem_map.mp hz; exact reply_reply hm (hvs v hv)) (by rw [List.length_map]; omega) (line_len hvs hvl) (line_lx hm hv0) (by omega) (line_sane hm hv0) fun W ws nw ps s1 hws lW g1 o1 _ F1 N1 => ?_
  refine seq_next ?_
  refine execs_seq ?_
  refine st11 (W := W) (R := R) (us := rs) (ws := ws) (ss := vs.map (replyS mk)) (n1 := nw) (n2 := nr) (rest := [(121, tabObj pt), (cM, oM), (cZ, oZ), (cP, oP), (835, tabObj ps)]) B X T hd hu F1 (fun q hq => N1 q (by k_extra "news_go")) rfl (by exact m1) hws hrs (fun z hz => by obtain ⟨v, hv, rfl⟩ := List.mem_map.mp hz; exact reply_strOk hm) fun h2 k2 F2 N2 => ?_
  refine seq_next ?_
  refine execs_seq ?_
  refine st12 (W := W) (ws := ws) (vs := vs) (n1 := nw) (mk := mk) (rest := [(121, tabObj pt), (cM, oM), (cZ, oZ), (cP, oP), (835, tabObj ps)]) B X T hd hu F2 (fun q hq => N2 q (by k_extra "news_go")) rfl hws hm hvs (by omega) fun TD us nt fr h3 k3 hul hI off F3 N3 => ?_
  refine seq_next ?_
  refine hQ TD us nt fr ps (fun y => if y = Str.ofString "told" then some (.ref TD) else if y = Str.ofString "words" then some (.ref W) else m y) _ hul hI ?_ g1 o1 rfl (by exact m2) F3 ?_
  · refine off1_of fun q hq => off1_mem off q ?_
    rcases List.mem_append.mp hq with hq | hq
    · exact List.mem_append_left _ hq
    · exact List.mem_append_right _ (.tail _ hq)
  · intro q hq
    refine N3 q ?_
    rcases List.mem_cons.mp hq with rfl | hq
    · exact .head _
    rcases List.mem_append.mp hq with hq | hq
    · exact .tail _ (List.mem_append_left _ hq)
    · exact .tail _ (List.mem_append_right _ (.tail _ hq))
end
end Mine
namespace Mine
-- LwJ5
open PySem PySem.W PyProof.Rows PySem.Spec PySem.Calls
set_option maxHeartbeats 1000000
theorem lines_LwJ5_0 : True := by
  k_with_none
  k_with "lt" => first | with_reducible assumption | exact And.left (by with_reducible assumption) | exact And.left (And.right (by with_reducible assumption)) | exact And.left (And.right (And.right (by with_reducible assumption))) | exact And.left (And.right (And.right (And.right (by with_reducible assumption)))) | exact And.left (And.right (And.right (And.right (And.right (by with_reducible assumption)))))
  k_with "rl" => with_unfolding_all exact rfl
  k_with "omega" => first | (with_reducible exact om_room ‹_›) | (with_reducible exact om_le ‹_› (by k_extra "rl")) | (with_reducible exact om_ne1 (by k_extra "lt")) | lia
  k_with "mem_go" => first | with_reducible assumption | with_reducible exact List.mem_cons_self | (refine List.mem_cons_of_mem _ ?_; k_extra "mem_go")
  k_with "news_go" => first | k_extra "mem_go" | (rcases List.mem_cons.mp hq with hq | hq; (· subst hq; k_extra "mem_go"); (· k_extra "news_go"))
  trivial
section
variable {w : World} {p : Program} {loose : List Str} {mean : ExcName → Option Value} {mg mb : Str → Option Value}
variable {dp un : Nat} {gd : Option (List Code)} {cn : Str} {a : Addr} {ccd : Value} {cP cM cK cZ cS : Addr} {A₀ : Around} {h₀ : Heap} {L : Addr} {s : Shared} {Q : Flow → Shared → Prop} {E : Value → Shared → Prop} {oP oM oZ : Obj} {m : Str → Option Value}
variable {TD : Addr} {us : List Value} {p1 p2 : List Nat} {n k nt mo : Nat} {tz tm tM : Tok} {pt ps : Array Value} {fr : Led}
-- statements 13 to 15
theorem law_E (rest : List Stmt) (B : Below A₀ h₀ [] h₀) (X : (KF w.params).In h₀) (T : Top p loose mean mg mb h₀) (hd : dp + 500 < recursionLimit) (hu : un + 2500 < cLine) (F : Fr h₀ L s.heap m)
    (hn5 : n ≤ 5) (hp1 : p1.Perm (List.range n)) (hp2 : p2.Perm (List.range n)) (hul : us.length = ((p1 ++ p2).map fun x => mo + x).length)
    (hI : ∀ (j v : Nat), ((p1 ++ p2).map fun x => mo + x)[j]? = some v → ∃ (T : Addr) (t1 t2 : Tok), us[j]? = some (Value.ref T) ∧ (T, tupO (Str.ofString "::1") v t1 t2) ∈ fr)
    (off : LCg.Off1 TD (fr ++ [(121, tabObj pt), (cM, oM), (cZ, oZ), (cP, oP), (835, tabObj ps)])) (hoM : oM.data = .cell (some (.int mo tM))) (hoZ : oZ.data = .cell (some (.int n tz))) (hoP : oP.data = .cell none)
    (dP : ∀ q ∈ [(121, tabObj pt), (cM, oM), (cZ, oZ), (835, tabObj ps)], q.1 ≠ cP)
    (m1 : m (Str.ofString "told") = some (.ref TD)) (m2 : m (Str.ofString "marks") = some (.str (marksS k) tm))
    (N : News h₀ L s.heap ((TD, listOf us.toArray nt) :: (fr ++ [(121, tabObj pt), (cM, oM), (cZ, oZ), (cP, oP), (835, tabObj ps)])))
    (hQ : ∀ (t : Tok) (m' : Str → Option Value) h' tk', m' (Str.ofString "rounds") = some (.int (roundsAt ((p1.map fun x => p2.getD x 0).map fun v : Nat => (v : Int)) n).2 t) → m' (Str.ofString "marks") = some (.str (marksS k) tm) → Fr h₀ L h' m' → News h₀ L h' [(cZ, oZ), (121, tabObj pt), (835, tabObj ps)] →
      wpAny (model pw w) (ktrTop dp un gd cn fs49.1 L a ccd (lawCl cP cM cK cZ cS) []) (execs rest (envX cn fs49.1 L a ccd (lawCl cP cM cK cZ cS))) Q E { s with heap := h', toks := tk' }) :
    wpAny (model pw w) (ktrTop dp un gd cn fs49.1 L a ccd (lawCl cP cM cK cZ cS) []) (execs (ls13.1 :: ls14.1 :: ls15.1 :: rest) (envX cn fs49.1 L a ccd (lawCl cP cM cK cZ cS))) Q E s := by
  have hl1 : p1.length = n := hp1.length_eq.trans List.length_range
  have hl2 : p2.length = n := hp2.length_eq.trans List.length_range
  have hb1 : ∀ k ∈ p1, k < n := fun k hk => List.mem_range.mp (hp1.mem_iff.mp hk)
  have hb2 : ∀ k ∈ p2, k < n := fun k hk => List.mem_range.mp (hp2.mem_iff.mp hk)
  generalize hfr : fr.filter (fun q => decide (q.1 ≠ cP)) = fr'
  have hsub : ∀ q ∈ fr', q ∈ fr ∧ q.1 ≠ cP := by
    intro q hq
    rw [← hfr] at hq
    have := List.mem_filter.mp hq
    exact ⟨this.1, of_decide_eq_true this.2⟩
  have hI2 : ∀ (j v : Nat), ((p1 ++ p2).map fun x => mo + x)[j]? = some v → ∃ (T : Addr) (t1 t2 : Tok), us[j]? = some (Value.ref T) ∧ (T, tupO (Str.ofString "::1") v t1 t2) ∈ fr' := by
    intro j v hj
    obtain ⟨T9, t1, t2, e1, e2⟩ := hI j v hj
    refine ⟨T9, t1, t2, e1, ?_⟩
    rw [← hfr]
    refine List.mem_filter.mpr ⟨e2, decide_eq_true fun e => ?_⟩
    have g1 := (N _ (.tail _ (List.mem_append_left _ e2))).1
    have g2 := (N (cP, oP) (.tail _ (List.mem_append_right _ (by k_extra "mem_go")))).1
    have e : T9 = cP := e
    subst e
    have g3 := g1.symm.trans g2
    cases Option.some.inj g3
    cases hoP
  have hN : ∀ q ∈ (TD, listOf us.toArray nt) :: (cZ, oZ) :: (cM, oM) :: (cP, oP) :: (fr' ++ [(121, tabObj pt), (835, tabObj ps)]), q ∈ (TD, listOf us.toArray nt) :: (fr ++ [(121, tabObj pt), (cM, oM), (cZ, oZ), (cP, oP), (835, tabObj ps)]) := by
    intro q hq
    simp only [List.mem_cons, List.mem_append, List.not_mem_nil, or_false] at hq ⊢
    rcases hq with h | h | h | h | h | h | h
    · exact .inl h
    · simp [h]
    · simp [h]
    · simp [h]
    · exact .inr (.inl (hsub q h).1)
    · simp [h]
    · simp [h]
  refine execs_seq ?_
  refine st13 (TD := TD) (us := us) (vs := (p1 ++ p2).map fun x => mo + x) (n := n) (n1 := nt) (oZ := oZ) (tz := tz) (rest := (cM, oM) :: (cP, oP) :: (fr' ++ [(121, tabObj pt), (835, tabObj ps)])) B X T hd hu F (fun q hq => N q (hN q hq)) m1 hoZ ⟨hul, fun j v hj => by obtain ⟨T9, t1, t2, e1, e2⟩ := hI2 j v hj; exact ⟨T9, t1, t2, e1, .tail _ (.tail _ (List.mem_append_left _ e2))⟩⟩ (by rw [List.length_map, List.length_append]; omega) hn5 fun h1 k1 F1 N1 => ?_
  refine seq_next ?_
  refine execs_seq ?_
  refine st14 (TD := TD) (us := us) (vs := (p1 ++ p2).map fun x => mo + x) (n1 := nt) (mo := mo) (oM := oM) (oP := oP) (tm := tM) (rest := (cZ, oZ) :: (fr' ++ [(121, tabObj pt), (835, tabObj ps)])) B X T hd hu F1 (fun q hq => N1 q (by k_extra "news_go")) m1 hoM hoP ⟨hul, fun j v hj => by obtain ⟨T9, t1, t2, e1, e2⟩ := hI2 j v hj; exact ⟨T9, t1, t2, e1, .tail _ (List.mem_append_left _ e2)⟩⟩ (by rw [List.length_map, List.length_append]; omega) ?a1 (dP (cM, oM) (by k_extra "mem_go")) ?a2 fun PD pl np oP' h2 k2 hpl dP' off2 F2 N2 => ?_
  case a1 => exact fun e => off1_mem off (cP, oP) (List.mem_append_right _ (by k_extra "mem_go")) e.symm
  case a2 =>
    intro q hq
    rcases List.mem_cons.mp hq with rfl | hq
    · exact dP (cZ, oZ) (by k_extra "mem_go")
    rcases List.mem_append.mp hq with hq | hq
    · exact (hsub q hq).2
    · exact dP q (by k_extra "news_go")
  refine seq_next ?_
  refine execs_seq ?_
  have hpl2 : IntsAre pl ((p1 ++ p2).map fun v : Nat => (v : Int)) := by
    rw [List.map_map] at hpl
    have e : ((fun v : Nat => (v : Int) - (mo : Int)) ∘ fun x => mo + x) = fun v : Nat => (v : Int) := by
      funext x
      show ((mo + x : Nat) : Int) - (mo : Int) = (x : Int)
      omega
    rw [e] at hpl
    exact hpl
  refine st15 (PD := PD) (ps := pl) (p1 := p1) (p2 := p2) (n := n) (np := np) (oZ := oZ) (oP := oP') (tz := tz) (rest := fr' ++ [(121, tabObj pt), (835, tabObj ps)]) B X T hd hu F2 (fun q hq => N2 q (by k_extra "news_go")) hoZ dP' hpl2 hn5 hl1 hl2 hb1 hb2 fun h3 k3 tr F3 N3 => ?_
  refine seq_next ?_
  refine hQ tr (fun y => if y = Str.ofString "rounds" then some (.int (roundsAt ((p1.map fun x => p2.getD x 0).map fun v : Nat => (v : Int)) n).2 tr) else m y) h3 k3 rfl (by exact m2) F3 fun q hq => N3 q ?_
  rcases List.mem_cons.mp hq with rfl | hq
  · k_extra "mem_go"
  · exact .tail _ (.tail _ (.tail _ (List.mem_append_right _ hq)))
end
end Mine
namespace Mine
-- LwJ6
open PySem PySem.W PyProof.Rows PySem.Spec PySem.Calls
set_option maxHeartbeats 1000000
theorem lines_LwJ6_0 : True := by
  k_with_none
  k_with "lt" => first | with_reducible assumption | exact And.left (by with_reducible assumption) | exact And.left (And.right (by with_reducible assumption)) | exact And.left (And.right (And.right (by with_reducible assumption))) | exact And.left (And.right (And.right (And.right (by with_reducible assumption)))) | exact And.left (And.right (And.right (And.right (And.right (by with_reducible assumption)))))
  k_with "rl" => with_unfolding_all exact rfl
  k_with "omega" => first | (with_reducible exact om_room ‹_›) | (with_reducible exact om_le ‹_› (by k_extra "rl")) | (with_reducible exact om_ne1 (by k_extra "lt")) | lia
  k_with "mem_go" => first | with_reducible assumption | with_reducible exact List.mem_cons_self | (refine List.mem_cons_of_mem _ ?_; k_extra "mem_go")
  k_with "news_go" => first | k_extra "mem_go" | (rcases List.mem_cons.mp hq with hq | hq; (· subst hq; k_extra "mem_go"); (· k_extra "news_go"))
  trivial
section
variable {w : World} {p : Program} {loose : List Str} {mean : ExcName → Option Value} {mg mb : Str → Option Value}
variable {dp un : Nat} {gd : Option (List Code)} {cn : Str} {a : Addr} {ccd : Value} {cP cM cK cZ cS : Addr} {A₀ : Around} {h₀ : Heap} {L : Addr} {s : Shared} {Q : Flow → Shared → Prop} {E : Value → Shared → Prop} {oZ : Obj} {m : Str → Option Value}
variable {n k r : Nat} {tz tm tr : Tok} {rest : Led}
-- statements 16 to 20
theorem law_F (B : Below A₀ h₀ [] h₀) (X : (KF w.params).In h₀) (T : Top p loose mean mg mb h₀) (hd : dp + 500 < recursionLimit) (hu : un + 2500 < cLine) (F : Fr h₀ L s.heap m)
    (hk : k ≤ 60) (hr : r ≤ n) (hpar : k % 2 = (n - r) % 2) (hoZ : oZ.data = .cell (some (.int n tz)))
    (m1 : m (Str.ofString "rounds") = some (.int r tr)) (m2 : m (Str.ofString "marks") = some (.str (marksS k) tm)) (N : News h₀ L s.heap ((cZ, oZ) :: rest))
    (hQ : ∀ m' h' tk', Fr h₀ L h' m' → News h₀ L h' rest → Q (.ret (.bool true)) { s with heap := h', toks := tk' }) :
    wpAny (model pw w) (ktrTop dp un gd cn fs49.1 L a ccd (lawCl cP cM cK cZ cS) []) (execs [ls16.1, ls17.1, ls18.1, ls19.1, ls20.1] (envX cn fs49.1 L a ccd (lawCl cP cM cK cZ cS))) Q E s := by
  refine execs_seq ?_
  refine st16 (k := k) (tm := tm) (rest := (cZ, oZ) :: rest) B X T hd hu F N m2 (by omega) fun h1 k1 t1 F1 N1 => ?_
  refine seq_next ?_
  refine execs_seq ?_
  rcases Nat.mod_two_eq_zero_or_one k with he | ho
  · obtain ⟨j, rfl⟩ : ∃ j, k = 2 * j := ⟨k / 2, by omega⟩
    obtain ⟨kk, hkk, hL⟩ := marks_lx_even j
    refine st17 (k := 2 * j) (kk := kk) (tm := tm) (rest := (cZ, oZ) :: rest) B X T hd hu F1 N1 (by exact m2) (by omega) hL (by omega) (sane_marks_sp _) ?q1 (fun h => by cases h)
    case q1 =>
      intro ws e9 S us n9 h2 k2 hus lS F2 N2
      cases e9
      refine seq_next ?_
      refine execs_seq ?_
      refine st18 (k := 2 * j) (tm := tm) (rest := (S, listOf us.toArray n9) :: (cZ, oZ) :: rest) B X T hd hu F2 N2 (by exact m2) (by omega) fun h3 k3 t3 F3 N3 => ?_
      rw [p257_even] at F3
      refine seq_next ?_
      refine execs_seq ?_
      refine st19e (n := n) (r := r) (oZ := oZ) (tz := tz) (tr := tr) (rest := (S, listOf us.toArray n9) :: rest) B X T hd hu F3 (fun q hq => N3 q (by k_extra "news_go")) hoZ (by exact m1) (by rw [Int.fmod_eq_emod_of_nonneg _ (by decide)]; omega) fun h4 k4 F4 N4 => ?_
      refine seq_next ?_
      refine exec_one ?_
      have hx : (⟨(List.replicate j 34 ++ [120]).toArray⟩ : Str) = marksS j ++ Str.ofString "x" := by
        apply str_ext
        rw [app_list]
        rfl
      rw [hx] at F4
      rw [show 2 * j / 2 = j by omega] at F4
      refine st20 (S := S) (us := us) (k := 2 * j) (n1 := n9) (t1 := tm) (t2 := t3) (t3 := t1) (rest := rest) (x := marksS j) B X T hd hu F4 (fun q hq => N4 q (by k_extra "news_go")) rfl ?hv (by exact m2) rfl rfl (by rw [marks_len]; omega) (by omega) fun h5 k5 F5 N5 => hQ _ h5 k5 F5 N5
      case hv =>
        by_cases hj : j = 0
        · rw [if_pos hj] at hus
          rw [if_pos (by omega)]
          exact hus
        · rw [if_neg hj] at hus
          rw [if_neg (by omega)]
          exact hus
  · obtain ⟨j, rfl⟩ : ∃ j, k = 2 * j + 1 := ⟨k / 2, by omega⟩
    obtain ⟨kk, hkk, hL⟩ := marks_lx_odd j
    refine st17 (k := 2 * j + 1) (kk := kk) (tm := tm) (rest := (cZ, oZ) :: rest) B X T hd hu F1 N1 (by exact m2) (by omega) hL (by omega) (sane_marks_sp _) (fun _ h => by cases h) ?q2
    case q2 =>
      intro _ h2 k2 t2 F2 N2
      refine seq_next ?_
      refine execs_seq ?_
      refine st18 (k := 2 * j + 1) (tm := tm) (rest := (cZ, oZ) :: rest) B X T hd hu F2 N2 (by exact m2) (by omega) fun h3 k3 t3 F3 N3 => ?_
      rw [p257_odd] at F3
      refine seq_next ?_
      refine execs_seq ?_
      rw [show (2 * j + 1) / 2 = j by omega] at F3
      refine st19o (n := n) (r := r) (oZ := oZ) (tz := tz) (tr := tr) (t1 := t2) (t2 := t3) (t3 := t1) (x := marksS j) (rest := rest) B X T hd hu F3 N3 hoZ (by exact m1) (by rw [Int.fmod_eq_emod_of_nonneg _ (by decide)]; omega) rfl rfl rfl fun h4 k4 F4 N4 => ?_
      exact seq_ret (hQ _ h4 k4 F4 fun q hq => N4 q (.tail _ hq))
end
end Mine
namespace Mine
-- LwZ4
set_option maxHeartbeats 4000000
theorem lines_LwZ4_0 : True := by
  k_with_none
  k_with "lt" => first | with_reducible assumption | exact And.left (by with_reducible assumption) | exact And.left (And.right (by with_reducible assumption)) | exact And.left (And.right (And.right (by with_reducible assumption))) | exact And.left (And.right (And.right (And.right (by with_reducible assumption)))) | exact And.left (And.right (And.right (And.right (And.right (by with_reducible assumption)))))
  k_with "rl" => with_unfolding_all exact rfl
  k_with "omega" => first | (with_reducible exact om_room ‹_›) | (with_reducible exact om_le ‹_› (by k_extra "rl")) | (with_reducible exact om_ne1 (by k_extra "lt")) | lia
  trivial
theorem chk_all : ∀ n, 3 ≤ n → n ≤ 5 → chkA n = true ∧ chkB n = true ∧ chkC n = true := by
  intro n h1 h2
  rcases (by omega : n = 3 ∨ n = 4 ∨ n = 5) with rfl | rfl | rfl
  · exact ⟨by decide +kernel, by decide +kernel, by decide +kernel⟩
  · exact ⟨by decide +kernel, by decide +kernel, by decide +kernel⟩
  · exact ⟨by decide +kernel, by decide +kernel, by decide +kernel⟩
theorem law_par {n : Nat} (h3 : 3 ≤ n) (h5 : n ≤ 5) {p q : List Nat} (hp : p.Perm (List.range n)) (hq : q.Perm (List.range n)) : tot p q n % 2 = (n - (cycs (p.map fun x => q.getD x 0) n).2) % 2 ∧ (cycs (p.map fun x => q.getD x 0) n).2 ≤ n := by
  obtain ⟨a, b, c⟩ := chk_all n h3 h5
  have hpl : p.length = n := hp.length_eq.trans List.length_range
  have hql : q.length = n := hq.length_eq.trans List.length_range
  rw [tot_is hpl hql]
  exact ⟨law_parity a b c (perms_of _ _ hp) (perms_of _ _ hq) hpl hql (by omega), cyc_le _ _⟩
end Mine
namespace Mine
-- LwJ7
open PySem PySem.W PyProof.Rows PySem.Spec PySem.Calls
set_option maxHeartbeats 1000000
theorem lines_LwJ7_0 : True := by
  k_with_none
  k_with "lt" => first | with_reducible assumption | exact And.left (by with_reducible assumption) | exact And.left (And.right (by with_reducible assumption)) | exact And.left (And.right (And.right (by with_reducible assumption))) | exact And.left (And.right (And.right (And.right (by with_reducible assumption)))) | exact And.left (And.right (And.right (And.right (And.right (by with_reducible assumption)))))
  k_with "rl" => with_unfolding_all exact rfl
  k_with "omega" => first | (with_reducible exact om_room ‹_›) | (with_reducible exact om_le ‹_› (by k_extra "rl")) | (with_reducible exact om_ne1 (by k_extra "lt")) | lia
  k_with "mem_go" => first | with_reducible assumption | with_reducible exact List.mem_cons_self | (refine List.mem_cons_of_mem _ ?_; k_extra "mem_go")
  k_with "news_go" => first | k_extra "mem_go" | (rcases List.mem_cons.mp hq with hq | hq; (· subst hq; k_extra "mem_go"); (· k_extra "news_go"))
  trivial
section
variable {w : World} {p : Program} {loose : List Str} {mean : ExcName → Option Value} {mg mb : Str → Option Value}
variable {dp un : Nat} {gd : Option (List Code)} {cn : Str} {a : Addr} {ccd : Value} {cP cM cK cZ cS : Addr} {A₀ : Around} {h₀ : Heap} {L fa : Addr} {s : Shared} {Q : Flow → Shared → Prop} {E : Value → Shared → Prop} {vs : List Value} {ns : List Int} {oP oM oK oZ oS : Obj}
theorem law_body (B : Below A₀ h₀ [] h₀) (X : (KF w.params).In h₀) (T : Top p loose mean mg mb h₀) (hd : dp + 500 < recursionLimit) (hu : un + 2500 < cLine) (F : Fr h₀ L s.heap (fun y => if y = Str.ofString "script" then some (.ref fa) else none))
    (hE : PassesOwn (model pw w) (ktrTop dp un gd cn fs49.1 L a ccd (lawCl cP cM cK cZ cS) []) (envX cn fs49.1 L a ccd (lawCl cP cM cK cZ cS)) E)
    (N : News h₀ L s.heap ((cP, oP) :: (cM, oM) :: (cK, oK) :: (cZ, oZ) :: (cS, oS) :: (121, tabObj #[]) :: (835, tabObj #[]) :: [])) (hfa : h₀.IsList fa vs.toArray) (hv : IntsAre vs ns) (hl : ns.length ≤ 63)
    (hoP : oP.data = .cell none) (hoM : oM.data = .cell none) (hoK : oK.data = .cell none) (hoZ : oZ.data = .cell none) (hoS : oS.data = .cell none)
    (dd : [cP, cM, cK, cZ, cS, 121, 835].Pairwise (fun x y : Nat => x ≠ y))
    (hQ : ∀ s' (m' : Str → Option Value) (pt ps : Array Value), (AllBare s.gens → AllBare s'.gens) → s'.os = s.os → Fr h₀ L s'.heap m' → News h₀ L s'.heap [(121, tabObj pt), (835, tabObj ps)] → Q (.ret (.bool true)) s') :
    wpAny (model pw w) (ktrTop dp un gd cn fs49.1 L a ccd (lawCl cP cM cK cZ cS) []) (execs fb49.1 (envX cn fs49.1 L a ccd (lawCl cP cM cK cZ cS))) Q E s := by
  simp only [List.pairwise_cons, List.mem_cons, List.not_mem_nil, or_false, forall_eq_or_imp, forall_eq, false_implies, implies_true, List.Pairwise.nil, and_true] at dd
  obtain ⟨⟨d01, d02, d03, d04, d05, d06⟩, ⟨d12, d13, d14, d15, d16⟩, ⟨d23, d24, d25, d26⟩, ⟨d34, d35, d36⟩, ⟨d45, d46⟩, d56⟩ := dd
  rw [body_eq]
  refine law_A _ B X T hd hu F N hfa hv hl hoS hoZ ?dS ?dZ fun O O1 O2 D SG us1 us2 us ss p1 p2 n n0 n1 n2 n3 n4 oS' oZ' tz tm m1 h1 k1 hn3 hn5 hi1 hi2 hp1 hp2 hss hus hS' hZ' l12 l2O lO1 lD lSG q0 q1 q2 F1 N1 => ?_
  case dS =>
    exact off1_mem ⟨d04, d14, d24, d34, Ne.symm d45, Ne.symm d46, trivial⟩
  case dZ =>
    exact off1_mem ⟨d03, d13, d23, Ne.symm d34, Ne.symm d35, Ne.symm d36, trivial⟩
  have z5 : @LT.lt Nat _ 121 O1 := lO1 (121, tabObj #[]) (by k_extra "mem_go")
  have zK : @LT.lt Nat _ cK O1 := lO1 (cK, oK) (by k_extra "mem_go")
  have zM : @LT.lt Nat _ cM O1 := lO1 (cM, oM) (by k_extra "mem_go")
  have y5 : @LT.lt Nat _ 121 SG := lSG (121, tabObj #[]) (by k_extra "mem_go")
  have yK : @LT.lt Nat _ cK SG := lSG (cK, oK) (by k_extra "mem_go")
  have yM : @LT.lt Nat _ cM SG := lSG (cM, oM) (by k_extra "mem_go")
  have x5 : @LT.lt Nat _ 121 D := lD (121, tabObj #[]) (by k_extra "mem_go")
  have xK : @LT.lt Nat _ cK D := lD (cK, oK) (by k_extra "mem_go")
  have xM : @LT.lt Nat _ cM D := lD (cM, oM) (by k_extra "mem_go")
  refine law_B _ B X T hd hu F1 hE hn3 hn5 hi1 hi2 hp1 hp2 hss hus hS' hZ' hoK hoM ?d121 q0 q1 q2 N1 fun pt t' m2 h2 k2 hpt q0 q1 q2 F2 N2 => ?_
  case d121 =>
    exact off1_mem ⟨Nat.ne_of_gt (Nat.lt_trans (Nat.lt_trans z5 l12) l2O), Nat.ne_of_gt (Nat.lt_trans z5 l12), Nat.ne_of_gt z5, Nat.ne_of_gt y5, d45, d35, Nat.ne_of_gt x5, d05, d15, d25, Ne.symm d56, trivial⟩
  refine law_C _ B X T hd hu F2 hn5 hi1 hi2 hp1 hp2 hus hoK hoM ?dK ?dM q0 q1 q2 N2 fun mk mo R rs nr oK' oM' tM m3 h3 k3 hmk hmo hM' hrs off q3 q2 F3 N3 => ?_
  case dK =>
    exact off1_mem ⟨Nat.ne_of_gt xK, Ne.symm d25, Nat.ne_of_gt (Nat.lt_trans (Nat.lt_trans zK l12) l2O), Nat.ne_of_gt (Nat.lt_trans zK l12), Nat.ne_of_gt zK, Nat.ne_of_gt yK, Ne.symm d24, Ne.symm d23, d02, d12, Ne.symm d26, trivial⟩
  case dM =>
    exact off1_mem ⟨Nat.ne_of_gt xM, Ne.symm d15, Nat.ne_of_gt (Nat.lt_trans (Nat.lt_trans zM l12) l2O), Nat.ne_of_gt (Nat.lt_trans zM l12), Nat.ne_of_gt zM, Nat.ne_of_gt yM, Ne.symm d14, Ne.symm d13, d01, Ne.symm d12, Ne.symm d16, trivial⟩
  have hl1 : p1.length = n := hp1.length_eq.trans List.length_range
  have hl2 : p2.length = n := hp2.length_eq.trans List.length_range
  have hb1 : ∀ k ∈ p1, k < n := fun k hk => List.mem_range.mp (hp1.mem_iff.mp hk)
  have hb2 : ∀ k ∈ p2, k < n := fun k hk => List.mem_range.mp (hp2.mem_iff.mp hk)
  have hvs : ∀ v ∈ (p1 ++ p2).map (fun x => mo + x), v < 2000 := by
    intro v hv
    obtain ⟨x, hx, rfl⟩ := List.mem_map.mp hv
    rcases List.mem_append.mp hx with hx | hx
    · have := hb1 x hx; omega
    · have := hb2 x hx; omega
  have hrs2 : StrsAre rs (((p1 ++ p2).map fun x => mo + x).map (replyS mk)) := by
    rw [List.map_map]; exact hrs
  refine law_D _ B X T hd hu F3 hmk hvs (by rw [List.length_map, List.length_append]; omega) ?hv0 hrs2 ?d835 q3 q2 (fun q hq => N3 q (by k_extra "news_go")) fun TD vs4 nt fr ps m4 s4 hul hI off4 g4 o4 q4 q2 F4 N4 => ?_
  case hv0 =>
    intro e
    have := congrArg List.length e
    rw [List.length_map, List.length_append, List.length_nil] at this
    omega
  case d835 =>
    exact off1_mem ⟨Ne.symm (off1_mem off (835, tabObj #[]) (by k_extra "mem_go")), d56, d16, d36, d06, trivial⟩
  refine law_E _ B X T hd hu F4 hn5 hp1 hp2 hul hI off4 hM' hZ' hoP ?dP q4 q2 N4 fun t5 m5 h5 k5 q5 q2 F5 N5 => ?_
  case dP =>
    exact off1_mem ⟨Ne.symm d05, Ne.symm d01, Ne.symm d03, Ne.symm d06, trivial⟩
  obtain ⟨par, cle⟩ := law_par hn3 hn5 hp1 hp2
  rw [rounds_cast] at q5
  refine law_F B X T hd hu F5 ?hk cle par hZ' q5 q2 N5 fun m6 h6 k6 F6 N6 => hQ _ m6 _ _ g4 o4 F6 N6
  case hk =>
    have := tot_le p1 p2 n hn5
    omega
end
end Mine
namespace Mine
-- Ent
open PySem PySem.W PyProof.Rows PySem.Spec PySem.Calls
set_option maxHeartbeats 1000000
theorem lines_Ent_0 : True := by
  k_with_none
  k_with "lt" => first | with_reducible assumption | exact And.left (by with_reducible assumption) | exact And.left (And.right (by with_reducible assumption)) | exact And.left (And.right (And.right (by with_reducible assumption))) | exact And.left (And.right (And.right (And.right (by with_reducible assumption)))) | exact And.left (And.right (And.right (And.right (And.right (by with_reducible assumption)))))
  k_with "rl" => with_unfolding_all exact rfl
  k_with "omega" => first | (with_reducible exact om_room ‹_›) | (with_reducible exact om_le ‹_› (by k_extra "rl")) | (with_reducible exact om_ne1 (by k_extra "lt")) | lia
  trivial
theorem keep_ghost {tabs : List (Addr × Addr)} {s₁ s' : Shared} {h : Heap} (hT : TabsAt tabs s₁.heap) (hk : ∀ b o, (ghostOf s₁.heap tabs).get? b = some o → h.get? b = some o) (hgr : ∀ q ∈ tabs, GrownAt q.2 h) : OldK s₁.heap h := by
  have keep : ∀ b o, b ∉ tabs.map (·.2) → s₁.heap.get? b = some o → h.get? b = some o := fun b o hb e => hk b o (ghost_ne e hb)
  have grown : ∀ b o, b ∈ tabs.map (·.2) → s₁.heap.get? b = some o → isCodeTable s₁.heap b ∧ o = tabObj #[] ∧ ∃ ps, h.get? b = some (tabObj ps) := fun b o hb e => by
    obtain ⟨q, hq, rfl⟩ := List.mem_map.mp hb
    have e2 := (hT q hq).2
    rw [e] at e2
    exact ⟨((hT q hq).1.tab (hT q hq).2).isCodeTable, Option.some.inj e2, hgr q hq⟩
  refine ⟨fun b o e => ?_, fun b o e => ?_⟩
  · by_cases hb : b ∈ tabs.map (·.2)
    · obtain ⟨ht, rfl, ps, hP⟩ := grown b o hb e
      exact .inr (.inl ⟨ht, rfl, #[], ps, rfl, by rw [Array.empty_append]; exact hP⟩)
    · exact .inl (keep b o hb e)
  · by_cases hb : b ∈ tabs.map (·.2)
    · obtain ⟨_, _, ps, hP⟩ := grown b o hb e
      exact ⟨_, hP⟩
    · exact ⟨o, keep b o hb e⟩
theorem kh_kf {P : Params} {h : Heap} (X : (KH P).In h) : (KF P).In h := fun a o e => X a o (by
  have e2 : (KH P).lookup a = (match a == 121, a == 835 with | true, _ => some (tabObj #[]) | false, true => some (tabObj #[]) | false, false => (KF P).lookup a) := by
    unfold KH
    rw [List.lookup_cons, List.lookup_cons]
    cases a == 121 <;> cases a == 835 <;> rfl
  rw [e2]
  have n1 : (KF P).lookup 121 = none := by kernel_rfl
  have n2 : (KF P).lookup 835 = none := by kernel_rfl
  by_cases h1 : a = 121
  · subst h1; rw [n1] at e; cases e
  · by_cases h2 : a = 835
    · subst h2; rw [n2] at e; cases e
    · rw [show (a == 121) = false from beq_eq_false_iff_ne.mpr h1, show (a == 835) = false from beq_eq_false_iff_ne.mpr h2]
      exact e)
noncomputable abbrev tabsL : List (Addr × Addr) := [(125, 121), (839, 835)]
theorem tabs_at {P : Params} {h : Heap} (X : (KH P).In h) : TabsAt tabsL h := by
  refine List.forall_mem_cons.mpr ⟨⟨?_, X 121 _ (by kernel_rfl)⟩, List.forall_mem_cons.mpr ⟨⟨?_, X 835 _ (by kernel_rfl)⟩, List.forall_mem_nil _⟩⟩
  · exact ⟨⟨(.type "code"), .none, (.fields #[(.str (Str.ofString "_translate") 615), (.str (Str.ofString "_translate") 616), (.str (Str.ofString "/claim/cut.py") 617), (.int 62 0), (.int 3 0), (.int 0 0), (.int 0 0), (.int 3 0), (.ref 120), (.bool .true), (.int 318 0), (.ref 121), .none, (.ref 122), (.ref 123), (.ref 124), (.int 631 0), (.int 62 0), (.str (Str.ofString "/claim/cut.py") 632)]), #[]⟩, _, _, _, _, _, _, _, _, X 125 _ (by kernel_rfl), rfl, rfl, rfl, rfl, rfl, rfl, rfl, rfl, by decide⟩
  · exact ⟨⟨(.type "code"), .none, (.fields #[(.str (Str.ofString "join") 1554), (.str (Str.ofString "join") 1555), (.str (Str.ofString "/claim/cut.py") 1556), (.int 878 0), (.int 1 0), (.int 0 0), (.int 0 0), (.int 3 0), (.ref 834), (.bool .true), (.int 318 0), (.ref 835), .none, (.ref 836), (.ref 837), (.ref 838), (.int 1558 0), (.int 878 0), (.str (Str.ofString "/claim/cut.py") 1559)]), #[]⟩, _, _, _, _, _, _, _, _, X 839 _ (by kernel_rfl), rfl, rfl, rfl, rfl, rfl, rfl, rfl, rfl, by decide⟩
theorem ne_add {z a b : Nat} (h : Nat.ble (b + 1) a = true) : z + a ≠ z + b := Nat.ne_of_gt (Nat.add_lt_add_left (Nat.le_of_ble_eq_true h) z)
theorem ne_low {z a c : Nat} (h : c < z) : z + a ≠ c := Nat.ne_of_gt (Nat.lt_of_lt_of_le h (Nat.le_add_right z a))
theorem entry : WalkO qv looseL (XL qv []) HK.says rowR.toRowW lawD [] (fun f vs => PySem.call f vs) := by
  intro w s₀ s₁ mg mb G Y fa o pm cd doc dV kV ho hd hcd hD hmg hg args vals as hpre hlay hrd hwl hlo
  have KX := kIn_of Y
  refine Ground.open G ?_
  intro T B D TE TW
  clear D
  wrow_args hpre hlay hrd hwl hlo
  refine enter_call ?_
  have he := Dflts.none hD rfl; subst he; have he := Dflts.noKw hD; subst he
  refine call_cellsN (by decide) ho (fd_plain hd) (Top.nolimit T) hcd rfl (kinds_of (by kinds_ok)) (by decide) fun h₁ tk₁ cells F N0 X0 => ?_
  cells_open X0
  rename IntsAre _ _ => hI
  rename Heap.IsList _ _ _ => hL
  have hT := tabs_at KX
  have X0 := ghost_K hT (kh_kf KX) (by kernel_rfl)
  have F1 := ghost_fr hT F
  have T1 := ghost_top hT T
  have N1 := ghost_news hT F N0
  have L1 := ghost_list hT hL
  have l0 := ghost_lt hT F
  refine wpAny_mono (law_body (E := fun _ _ => False) (ghost_below hT) X0 T1 (by decide) (by decide) ?f .never N1 L1 hI ?len (by assumption) (by assumption) (by assumption) (by assumption) (by assumption) ?dd fun s' m' pt ps g1 o1 F2 N2 => ?q) (fun _ _ x => x) (fun _ _ x => x.elim)
  case f =>
    first | exact F1 | with_unfolding_all exact F1
  case len => omega
  case dd =>
    have hz : 835 < s₁.heap.objs.size := Heap.lt_size (KX 835 (tabObj #[]) (by kernel_rfl))
    generalize s₁.heap.objs.size = z at hz
    simp only [List.pairwise_cons, List.mem_cons, List.not_mem_nil, or_false, forall_eq_or_imp, forall_eq, false_implies, implies_true, List.Pairwise.nil, and_true]
    have hz : @LT.lt Nat _ 835 z := hz
    have h1 : @LT.lt Nat _ 121 z := Nat.lt_trans (by decide) hz
    exact ⟨⟨ne_add (z := z) (a := 5) (b := 4) rfl, ne_add (z := z) (a := 5) (b := 3) rfl, ne_add (z := z) (a := 5) (b := 2) rfl, ne_add (z := z) (a := 5) (b := 1) rfl, ne_low (z := z) (a := 5) h1, ne_low (z := z) (a := 5) hz⟩, ⟨ne_add (z := z) (a := 4) (b := 3) rfl, ne_add (z := z) (a := 4) (b := 2) rfl, ne_add (z := z) (a := 4) (b := 1) rfl, ne_low (z := z) (a := 4) h1, ne_low (z := z) (a := 4) hz⟩, ⟨ne_add (z := z) (a := 3) (b := 2) rfl, ne_add (z := z) (a := 3) (b := 1) rfl, ne_low (z := z) (a := 3) h1, ne_low (z := z) (a := 3) hz⟩, ⟨ne_add (z := z) (a := 2) (b := 1) rfl, ne_low (z := z) (a := 2) h1, ne_low (z := z) (a := 2) hz⟩, ⟨ne_low (z := z) (a := 1) h1, ne_low (z := z) (a := 1) hz⟩, by decide⟩
  case q =>
    refine ⟨.inl ⟨.bool true, .bool true, [], rfl, ?n, ?r, ?post9, unshared_nil⟩, keep_ghost (s' := s') hT F2.keep ?g, o1, g1 (AllBare.of_eq hg)⟩
    case n => exact fun _ => rfl
    case r => exact readsW_of_reads (d := .bool true) (by first | exact .bool | exact Reads.bool | exact .bool _)
    case post9 =>
      refine postW_of rfl (by wtm_val) ?_
      first | rfl
    case g => exact List.forall_mem_cons.mpr ⟨.of N2 (.head _), List.forall_mem_cons.mpr ⟨.of N2 (.tail _ (.head _)), List.forall_mem_nil _⟩⟩
end Mine
namespace Mine
-- TopS
open PySem PySem.W PyProof.Rows
set_option maxHeartbeats 8000000
theorem row_holds (said : rowR.wellSaid = true) : rowR.Holds :=
  holds_open (r := rowR) (q := qv) (loose := looseL) (Xt := XtF) (XP := XL qv []) (Yf := Hook.obs HK) (Ya := Hook.val HK) (YP := HK.says) (N := 8000) left_ok HK.of HK.keeps
    (fun s e => xl_of s (Bool.and_eq_true_iff.mp e).1) XL.keeps def_ok the_ok kw_ok (fun s e => recFacts_of (Bool.and_eq_true_iff.mp e).2) rfl said ok_ok bare_ok promised_ok entry
end Mine
theorem PySem.Challenge.cw_kt0089_01_holds : PySem.Challenge.rw_kt0089_01.Holds := by
  exact holds_law Mine.said_ok Mine.row_holds
